/- The law FnNameAny, as a call. -/
import Derived.Test.YtjmahgefijncaaaGreatFmtJ41
import Derived.Test.YtjmahgefijncaaaGreatFmtJ44
import Derived.Test.YtjmahgefijncaaaGreatFmtJ42
import Derived.Test.YtjmahgefijncaaaGreatFmtJ4
import Derived.SliceStrings
import Derived.Deep.Slices
import Derived.ChangeArms
import Derived.Test.YtjmahgefijncaaaGreatFmtCards
import Derived.Test.YtjmahgefijncaaaGreatFmtTie
import Derived.Test.YtjmahgefijncaaaGreatFmtJ1
import Derived.Stop.LaidErr
import Derived.Stop.LaidTwo
import Derived.MakeChecks
import Derived.RowKit
import Derived.OpenShut
import Derived.Below
import Derived.Stop.JoinedTold
import Derived.Deep.DeepWitnessRef
import Derived.LaidMore
import Derived.Lay
import Derived.SevenTiedAt
import Derived.Deep.DeepHandedRow
import Derived.WideKeyArgs
import Derived.ProofKit
import Derived.Test.YtjmahgefijncaaaGreatFmtJ11
import Derived.Test.YtjmahgefijncaaaGreatFmtJ16
import Derived.Lib.LaidU8T
import Derived.Lib.LaidTab
set_option linter.unusedVariables false
set_option linter.unusedSimpArgs false
namespace Go.Proofs.YtjmahgefijncaaaGreatFmt
open Go Go.RowKit Go.Extern.Stop Go.Stop Go.Extern

theorem textA_some (s : ByteArray) (h : 0 < s.size) : s.toList.isEmpty = false := by
  rw [ByteArray.toList_eq]
  cases hd : s.data.toList with
  | nil =>
    have h2 : s.size = s.data.toList.length := by show s.data.size = s.data.toList.length; rw [Array.length_toList]
    rw [hd, List.length_nil] at h2
    omega
  | cons a r => rfl

theorem utf_ok {l : List UInt8} (h : Utf l) : Sp.UtfOK l := by
  obtain ⟨rs, h1, h2⟩ := h
  exact ⟨rs, h2, h1⟩

set_option maxRecDepth 100000 in
set_option maxHeartbeats 16000000 in
theorem law_any (F : Interp) (l : List UInt8) (hlm : l.length ≤ 9223372036854775807) (w : World) (hF : F.told.answers w.tape) (et : TypeId) (eu : Value) (hE : w.cell? ⟨1, 0, none⟩ = some (.iface et eu)) (hN : EnvT w.heap.size w) :
    Calls Tryz.prog 3 #[.string (Nm.bs l)] w fun e w' => e = .returned (.bool true) ∧ Below w.heap.size w w' := by
  have hsz := bs_size l
  have HEV := Lib.hid (fun (w2 : World) (h : Below w.heap.size w w2) => (h.cell (World.block_lt_of_cell? w ⟨1, 0, none⟩ hE)).trans hE)
  have HRD : Hid (∀ w2, Below w.heap.size w w2 → l.length ≤ 900 → Calls Tryz.prog 13 #[.string (Nm.bs l)] w2 fun e w' => (∃ r, Nm.parseDNR AnyR AnyE l r ∧ NameOut w2.heap.size r e w') ∧ Below w2.heap.size w2 w') :=
    Lib.hid (fun w2 h hs => read_total F AnyR AnyE l hs w2 (by rw [h.tape]; exact hF) (val_total F w2 et eu (HEV.out w2 h) ((hN.below h (Nat.le_refl _)).mono h.size)) _ (HEV.out w2 h))
  have HAW := Lib.hid (fun (w2 : World) (h : Below w.heap.size w w2) => awake_any w2 _ (HEV.out w2 h))
  clear hF hE hN
  by_cases hbig : l.length ≤ 2147483647
  · have t0 : decide ((l.length : Int) > 2147483647) = false := by simp; omega
    have HSR := Lib.hid (spec_read (l.length + 1) w l (by omega) hbig)
    go_enter Tryz.func3, Tryz.ntmps3
    go_wp2_with fail
    refine HSR.out.mono ?_
    rintro e w1 ⟨ho, hb1⟩
    have HB1 := Lib.hid hb1
    have hs1 := hb1.size
    clear hb1 HSR
    by_cases h200 : l.length ≤ 200
    · have t1 : decide ((l.length : Int) > 200) = false := by simp; omega
      rcases ho with rfl | ⟨hu, ho⟩
      · go_wp2_with fail
        refine (HAW.out w1 HB1.out).mono ?_
        rintro e w2 ⟨rfl, hb2⟩
        have HB2 := Lib.hid (HB1.out.trans (hb2.mono hs1))
        clear hb2
        go_wp2_with fail
        go_ret
        exact ⟨rfl, HB2.out⟩
      · have hlaw := Sp.read_law typB (fun t h => typB_ok t h) (l.length + 1) l (utf_ok hu)
        cases hx : Sp.read typB (l.length + 1) l with
        | opn => rw [hx] at ho; exact absurd ho id
        | bad =>
          rw [hx] at ho hlaw
          have ho : e = .returned (.tuple #[.slice none 0 0, .int .i64 1]) := ho
          subst ho
          have HLAW : Hid (∀ r, Nm.parseDNR AnyR AnyE l r → r = none) := Lib.hid hlaw
          clear hlaw hx hu
          go_wp2_with fail
          refine (HRD.out w1 HB1.out (by omega)).mono ?_
          rintro e w2 ⟨⟨r, hr, hno⟩, hb2⟩
          have hrn := HLAW.out r hr
          subst hrn
          obtain ⟨s, rfl, hs0⟩ := hno
          have hne := textA_some s hs0
          have HB2 := Lib.hid (HB1.out.trans (hb2.mono hs1))
          have hs2 := HB2.out.size
          clear hb2 hs0 hr
          go_wp2_with fail
          refine (HAW.out w2 HB2.out).mono ?_
          rintro e w3 ⟨rfl, hb3⟩
          have HB3 := Lib.hid (HB2.out.trans (hb3.mono hs2))
          clear hb3
          go_wp2_with fail
          go_ret
          exact ⟨rfl, HB3.out⟩
        | right n =>
          rw [hx] at ho hlaw
          obtain ⟨v, rfl, hown⟩ := ho
          have HLAW : Hid (∀ r, Nm.parseDNR AnyR AnyE l r → r = some n) := Lib.hid hlaw
          have HOW := Lib.hid hown.in'
          clear hlaw hx hu hown
          go_wp2_with fail
          refine (HRD.out w1 HB1.out (by omega)).mono ?_
          rintro e w2 ⟨⟨r, hr, hno⟩, hb2⟩
          have hrn := HLAW.out r hr
          subst hrn
          obtain ⟨v2, rfl, hown2⟩ := hno
          obtain ⟨hl1, hl2⟩ := parseDNR_len hr
          have hn9 : n.length < 1000000000 := by omega
          have hps9 : ∀ ps ∈ n, ps.length < 1000000000 := fun ps hps => by have := hl2 ps hps; omega
          have HNO := Lib.hid (name_of v2 n w2 hown2.in' hn9 hps9)
          have HB2 := Lib.hid (HB1.out.trans (hb2.mono hs1))
          have HV := Lib.hid (HOW.out.stays hb2)
          have HL := Lib.hid (And.intro hn9 hps9)
          have hs2 := HB2.out.size
          clear hb2 hr hown2 hl1 hl2 hn9 hps9
          go_wp2_with fail
          refine HNO.out.mono ?_
          rintro e w3 ⟨v3, rfl, hown3, hb3⟩
          have HB3 := Lib.hid (HB2.out.trans (hb3.mono hs2))
          have hs3 := HB3.out.size
          have HSM := Lib.hid (name_same v3 v n w3 hown3.in' (HV.out.stays hb3) HL.out.1 HL.out.2)
          clear hb3 hown3 HNO
          go_wp2_with fail
          refine HSM.out.mono ?_
          rintro e w4 ⟨rfl, hb4⟩
          have HB4 := Lib.hid (HB3.out.trans (hb4.mono hs3))
          have hs4 := HB4.out.size
          clear hb4
          go_wp2_with fail
          refine (HAW.out w4 HB4.out).mono ?_
          rintro e w5 ⟨rfl, hb5⟩
          have HB5 := Lib.hid (HB4.out.trans (hb5.mono hs4))
          clear hb5
          go_wp2_with fail
          go_ret
          exact ⟨rfl, HB5.out⟩
    · have t1 : decide ((l.length : Int) > 200) = true := by simp; omega
      have hform : ∃ v k, e = .returned (.tuple #[v, .int .i64 k]) := by
        rcases ho with rfl | ⟨hu, ho⟩
        · exact ⟨_, _, rfl⟩
        · cases hx : Sp.read typB (l.length + 1) l with
          | opn => rw [hx] at ho; exact absurd ho id
          | bad => rw [hx] at ho; exact ⟨_, _, ho⟩
          | right n => rw [hx] at ho; obtain ⟨v, rfl, _⟩ := ho; exact ⟨_, _, rfl⟩
      obtain ⟨v, k, rfl⟩ := hform
      clear ho
      go_wp2_with fail
      refine (HAW.out w1 HB1.out).mono ?_
      rintro e w2 ⟨rfl, hb2⟩
      have HB2 := Lib.hid (HB1.out.trans (hb2.mono hs1))
      clear hb2
      go_wp2_with fail
      go_ret
      exact ⟨rfl, HB2.out⟩
  · have t0 : decide ((l.length : Int) > 2147483647) = true := by simp; omega
    go_enter Tryz.func3, Tryz.ntmps3
    go_wp2_with fail
    go_ret
    exact ⟨rfl, Below.refl _ _⟩
end Go.Proofs.YtjmahgefijncaaaGreatFmt

/- Arguments that are lists of texts, attributes, names, opened. -/
namespace Go.Proofs.YtjmahgefijncaaaGreatFmt
open Go Go.RowKit Go.ChangeShapes Go.WideShapes

theorem spot_none {w : World} {a : Addr} {v : Value} (h : w.cell? a = some v) : a.spot = none := by
  unfold World.cell? at h
  split at h
  · cases hs : a.spot with
    | none => rfl
    | some k => rw [hs] at h; simp at h
  · cases h
theorem add_at {a : Addr} (h : a.spot = none) (i : Nat) : a.add i = ⟨a.block, a.off + i, none⟩ := by
  unfold Addr.add
  split
  · rename_i e
    subst e
    cases a
    simp only at h
    subst h
    rfl
  · rfl
/-- A list, element by element. -/
theorem list_of {α : Type} [Inhabited α] {P : Nat → α → Prop} {n : Nat} (h : ∀ i, i < n → ∃ a, P i a) : ∃ l : List α, l.length = n ∧ ∀ (i : Nat) (a : α), l[i]? = some a → P i a := by
  induction n with
  | zero => exact ⟨[], rfl, fun i a h => by simp at h⟩
  | succ n ih =>
    obtain ⟨l, hl, hP⟩ := ih (fun i hi => h i (by omega))
    obtain ⟨a, ha⟩ := h n (by omega)
    refine ⟨l ++ [a], by simp [hl], fun i b hi => ?_⟩
    rcases Nat.lt_or_ge i l.length with hlt | hge
    · rw [List.getElem?_append_left hlt] at hi; exact hP i b hi
    · rw [List.getElem?_append_right hge] at hi
      have : i = n := by
        have := (List.getElem?_eq_some_iff.1 hi).1
        simp at this; omega
      subst this
      rw [hl, Nat.sub_self] at hi
      simp at hi
      rw [← hi]; exact ha

theorem bs_data (s : ByteArray) : Nm.bs s.data.toList = s := by
  cases s; simp [Nm.bs]

theorem cells_str : Tryz.prog.cellsOf 9 = 1 := by kernel_rfl
theorem cells_attr : Tryz.prog.cellsOf 36 = 2 := by kernel_rfl
theorem cells_strs : Tryz.prog.cellsOf 34 = 1 := by kernel_rfl

section
variable {H : Type} {enc : TypeId × Value → H} {w : World} {base : Nat} {spare : Nat → Bool} {held : Bool}
set_option maxRecDepth 100000 in
theorem open_strs {fuel : Nat} {u : Value} {x : DataW H × List MemPlace} (h : DataW.trod enc Tryz.prog w base spare held fuel 34 [u] = some x) :
    ∃ l : List (List UInt8), StrsIn w u l ∧ l.length ≤ maxLen ∧ ∀ s ∈ l, s.length ≤ maxLen := by
  rcases open_strings Tryz.underlying34 Tryz.underlying9 cells_str h with ⟨e, -⟩ | ⟨a, len, cap, ss, e, -, hl3, hm, hz, -, hc, hs⟩
  · simp only [List.cons.injEq, and_true] at e
    subst e
    exact ⟨[], ⟨none, 0, rfl, fun j s hj => by simp at hj⟩, Nat.zero_le _, by simp⟩
  · simp only [List.cons.injEq, and_true] at e
    subst e
    have hzl : len ≤ ss.length := by rw [hz]; split <;> omega
    have hlen2 : ((ss.take len).map fun s => s.data.toList).length = len := by rw [List.length_map, List.length_take]; omega
    refine ⟨(ss.take len).map fun s => s.data.toList, ⟨some a, cap, by rw [hlen2], fun j s hj => ?_⟩, by rw [hlen2]; omega, fun s hs2 => ?_⟩
    · have hjl : j < len := by
        have := (List.getElem?_eq_some_iff.1 hj).1
        rw [hlen2] at this; exact this
      have h0 := hc 0 (by omega)
      have hsp := spot_none (a := a) (by simpa [Addr.add] using h0)
      refine ⟨a.block, a.off, by cases a; simp only at hsp; subst hsp; rfl, ?_⟩
      rw [← add_at hsp, hc j (by omega)]
      simp only [List.getElem?_map, Option.map_eq_some_iff] at hj
      obtain ⟨t, ht, rfl⟩ := hj
      rw [List.getElem?_take_of_lt hjl] at ht
      rw [List.getD_eq_getElem?_getD, ht, bs_data]
      rfl
    · simp only [List.mem_map] at hs2
      obtain ⟨t, ht, rfl⟩ := hs2
      have h2 := hs t (List.mem_of_mem_take ht)
      rw [Array.length_toList]
      exact h2

set_option maxRecDepth 100000 in
theorem open_attrs {fuel : Nat} {u : Value} {x : DataW H × List MemPlace} (h : DataW.trod enc Tryz.prog w base spare held fuel 32 [u] = some x) :
    ∃ l : List Attr, AttrsIn w u l ∧ l.length ≤ maxLen ∧ ∀ a ∈ l, a.2.length ≤ maxLen := by
  rcases Deep.open_slice Tryz.underlying32 h with ⟨e, -⟩ | ⟨a, len, cap, m, n, D, Pl, e, -, hl, hm, hmm, -, hi⟩
  · simp only [List.cons.injEq, and_true] at e
    subst e
    exact ⟨[], ⟨none, 0, rfl, fun j s hj => by simp at hj⟩, Nat.zero_le _, by simp⟩
  · simp only [List.cons.injEq, and_true] at e
    subst e
    have hlm : len ≤ m := by rw [hmm]; split <;> omega
    have hel : ∀ i, i < len → ∃ p : Attr, (w.cell? (a.add (i * 2)) = some (.string (Nm.bs p.1)) ∧ ∃ v, w.cell? (a.add (i * 2 + 1)) = some v ∧ StrsIn w v p.2) ∧ p.2.length ≤ maxLen := by
      intro i hil
      obtain ⟨cs', hcs, ht⟩ := hi i (by omega)
      rw [cells_attr] at hcs
      obtain ⟨-, hcl, hat⟩ := World.cells?_some hcs
      obtain ⟨ys, n', -, -, -, hys, hf⟩ := DataW.trod_struct Tryz.underlying36 ht
      obtain ⟨u0, u1, rfl⟩ : ∃ u0 u1, cs' = [u0, u1] := by
        match cs', hcl with
        | [u0, u1], _ => exact ⟨u0, u1, rfl⟩
      have g0 := hf 0 _ rfl
      have g1 := hf 1 _ rfl
      obtain ⟨y0, e0⟩ : ∃ y, ys[0]? = some y := ⟨_, List.getElem?_eq_getElem (show 0 < ys.length by rw [hys]; decide)⟩
      obtain ⟨y1, e1⟩ : ∃ y, ys[1]? = some y := ⟨_, List.getElem?_eq_getElem (show 1 < ys.length by rw [hys]; decide)⟩
      rw [e0] at g0
      rw [e1] at g1
      have g0' : DataW.trod enc Tryz.prog w base spare held n' 9 (([u0, u1].drop 0).take (Tryz.prog.cellsOf 9)) = some y0 := g0
      have g1' : DataW.trod enc Tryz.prog w base spare held n' 34 (([u0, u1].drop 1).take (Tryz.prog.cellsOf 34)) = some y1 := g1
      rw [cells_str] at g0'
      rw [cells_strs] at g1'
      obtain ⟨s, es, -, hsz⟩ := DataW.trod_string Tryz.underlying9 g0'
      obtain ⟨l2, h2, h3, h4⟩ := open_strs (by simpa using g1')
      simp only [List.drop_zero, List.take_succ_cons, List.take_zero, List.cons.injEq, and_true] at es
      subst es
      have c0 := hat 0 (by omega)
      have c1 := hat 1 (by omega)
      rw [Deep.add_add] at c0 c1
      exact ⟨(s.data.toList, l2), ⟨by rw [bs_data]; simpa using c0, u1, by simpa using c1, h2⟩, h3⟩
    obtain ⟨l, hll, hP⟩ := list_of hel
    refine ⟨l, ⟨some a, cap, by rw [hll], fun j p hj => ?_⟩, by omega, fun p hp => ?_⟩
    · obtain ⟨⟨c0, v, c1, hv⟩, -⟩ := hP j p hj
      have hj0 : j < len := by rw [← hll]; exact (List.getElem?_eq_some_iff.1 hj).1
      obtain ⟨p0, ⟨q0, _⟩, _⟩ := hel 0 (by omega)
      have hsp := spot_none (a := a) (by simpa [Addr.add] using q0)
      refine ⟨a.block, a.off, v, by cases a; simp only at hsp; subst hsp; rfl, ?_, ?_, hv⟩
      · rw [← add_at hsp]; exact c0
      · rw [Nat.add_assoc, ← add_at hsp]; exact c1
    · obtain ⟨i, hi2⟩ := List.getElem?_of_mem hp
      exact (hP i p hi2).2
end
end Go.Proofs.YtjmahgefijncaaaGreatFmt

/- The rows' posts behind calls that leave old memory alone; what the rows' lists give. -/
namespace Go.Proofs.YtjmahgefijncaaaGreatFmt
open Go Go.RowKit Go.ChangeShapes Go.WideShapes

/-- A post whose call leaves every old block as it was. -/
theorem post_below {H : Type} {enc : TypeId × Value → H} {P : Program} {f : Func} {s : ChangeSpec} {apart fresh handsOn again : Bool} {W W' : World} {args : Array Value} {v : Value} {ds gs : List (DataW H)} {before pa pv : List MemPlace}
    (hW : DataW.Whole enc P f.params.toList s.vars apart W args.toList ds gs before)
    (hres : ∀ (b : Nat) (sp : Nat → Bool) (hd : Bool), DataW.TrodAll enc P W' b sp hd f.resultTypes.toList (v.resultList f.resultTypes.size) (s.fn H (ds ++ gs)).results [])
    (hargs : ∀ sp : Nat → Bool, (∀ p ∈ before, sp p.block = true) → DataW.TrodAll enc P W' 0 sp true f.params.toList args.toList (s.fn H (ds ++ gs)).args pa)
    (hvars : ∀ sp : Nat → Bool, (∀ p ∈ before, sp p.block = true) → DataW.TrodVars enc P W' sp s.vars (s.fn H (ds ++ gs)).vars pv)
    (hps : before = pa ++ pv) (hb : Below W.heap.size W W')
    (hok : ∀ (j : Nat) (t : TypeId) (r : Value), f.resultTypes[j]? = some t → (v.resultList f.resultTypes.size)[j]? = some r → Value.okWide P W' .any 0 t r) :
    s.post enc P f apart fresh handsOn again W args v W' := by
  have hlt := hW.lt
  have hold : ∀ p ∈ before, (fun b => decide (b < W.heap.size)) p.block = true := fun p hp => decide_eq_true (hlt p hp)
  refine ⟨ds, gs, before, [], pa, pv, hW, hres _ _ _, hargs _ hold, hvars _ hold, World.keptBut_mono (fun p hp => ⟨hp, Or.inr (List.mem_append.1 (hps ▸ hp))⟩) (hb.frame (· ∈ before)), fun _ => ?_⟩
  obtain ⟨_, _, _, _, _, hz, hn⟩ := hW
  refine ⟨hok, _, _, ([] ++ pa) ++ pv, ⟨[] ++ pa, pv, trodAll_append (hargs _ (fun _ _ => rfl)) (hres _ _ _), hvars _ (fun _ _ => rfl), rfl, fun b off hp => ?_, fun ha => ?_⟩, fun p hp _ => by rw [hps]; simpa using hp⟩
  · have hm : MemPlace.cell b off ∈ before := by rw [hps]; simpa using hp
    exact (hb.frozen (p := ⟨b, off, none⟩) (hlt _ hm)).trans (hz b off hm)
  · have := hn ha
    rw [hps] at this
    simpa using this

theorem err_star : "*" ++ "errors.errorString" = "*errors.errorString" := by decide
theorem err_row (u : TypeId) (h : Tryz.prog.typeName? 3 u = some "*errors.errorString") : u = 144 :=
  typeName_ptr_named (nm := "errors.errorString") (by rw [err_star]; kernel_rfl) (by kernel_rfl) (by decide) u (by rw [err_star]; exact h)

/-- encoding/hex.ErrLength's cell. -/
theorem hex_len {W : World} {r : List (String × DataW Unit)} (h : laidMet Tryz.prog (("encoding/hex.ErrLength", Rows.laid_encoding_hex_ErrLength) :: r) W) : ∃ ev, W.cell? ⟨1, 0, none⟩ = some ev := by
  have g1 : Tryz.prog.globalNamed "encoding/hex.ErrLength" = some 1 := by kernel_rfl
  obtain ⟨a, s, hv, -⟩ := laid_sentinel (g := 1) h g1 (show (Tryz.prog.globals[1]?).map (·.type) = some 83 by kernel_rfl) Tryz.underlying83 err_row Tryz.underlying144 Tryz.underlying146 rfl rfl Tryz.underlying9 (by kernel_rfl) (by kernel_rfl)
  exact ⟨_, (World.var?_cell g1 hv 0).trans rfl⟩

theorem own_knobN : ownKnob Tryz.prog.godebug = none := by kernel_rfl
theorem laid_outN : laidOutB Tryz.prog = true := by kernel_rfl
theorem stopsN : Tryz.pinned.checked.prog.stops = ["fmt.Sprintf"] := by kernel_rfl
theorem stopKnobsN : Tryz.pinned.checked.prog.stopKnobs = [] := by kernel_rfl
theorem quietN (os : Os) : Stop.quiet Tryz.pinned.checked.prog os := by
  intro k hk
  rw [stopKnobsN] at hk
  cases hk
end Go.Proofs.YtjmahgefijncaaaGreatFmt

/- io.EOF and io.ErrUnexpectedEOF, as the rows' lists lay them. -/
namespace Go.Proofs.YtjmahgefijncaaaGreatFmt
open Go Go.RowKit Go.ChangeShapes Go.WideShapes

theorem env_laid {W : World} {r : List (String × DataW Unit)} (h5 : laidMet Tryz.prog (("io.EOF", Rows.laid_io_EOF) :: ("io.ErrUnexpectedEOF", Rows.laid_io_ErrUnexpectedEOF) :: r) W) : Env W.heap.size W := by
  have g0 : Tryz.prog.globalNamed "io.EOF" = some 2 := by kernel_rfl
  have g1 : Tryz.prog.globalNamed "io.ErrUnexpectedEOF" = some 3 := by kernel_rfl
  obtain ⟨a0, a1, s0, s1, c0, c1, t0, t1, hv0, hv1, k0, e0, -, k1, e1, -, -, b0, b1⟩ := laid_sentinels2 h5 g0 (show (Tryz.prog.globals[2]?).map (·.type) = some 83 by kernel_rfl) g1 (show (Tryz.prog.globals[3]?).map (·.type) = some 83 by kernel_rfl)
    Tryz.underlying83 err_row Tryz.underlying144 Tryz.underlying146 rfl rfl Tryz.underlying9 (by kernel_rfl) (by kernel_rfl)
  have z0 : s0.size = 3 := by have := congrArg List.length e0; simpa using this
  have z1 : s1.size = 14 := by have := congrArg List.length e1; simpa using this
  have w0 := World.var?_cell g0 hv0 0
  have w1 := World.var?_cell g1 hv1 0
  refine ⟨⟨a0, w0.trans rfl, blockLt b0, s0, c0, t0, b0, k0, by omega, by omega⟩, ⟨a1, w1.trans rfl, blockLt b1, s1, c1, t1, b1, k1, by omega, by omega⟩, World.block_lt_of_cell? W ⟨2, 0, none⟩ (w0.trans rfl), World.block_lt_of_cell? W ⟨3, 0, none⟩ (w1.trans rfl)⟩
end Go.Proofs.YtjmahgefijncaaaGreatFmt

/- The tables that the whole reading asks for, as the rows' lists lay them. -/
namespace Go.Proofs.YtjmahgefijncaaaGreatFmt
open Go Go.RowKit Go.ChangeShapes Go.WideShapes

def renU : Go.Shelf.Ren := ⟨fun n => n, fun | 5 => 5 | 119 => 222 | 138 => 224 | 139 => 225 | n => n, fun | 3 => 4 | 4 => 5 | n => n⟩
theorem renU_types : Go.Proofs.U8Types Tryz.prog renU := ⟨by kernel_rfl, by kernel_rfl, by kernel_rfl, by kernel_rfl⟩
theorem renU_extra : Go.Proofs.U8Extra Tryz.prog renU := ⟨by kernel_rfl, by kernel_rfl, by kernel_rfl, by kernel_rfl, by kernel_rfl, by kernel_rfl, by kernel_rfl⟩
theorem first_eq : Rows.laid_unicode_utf8_first = Lib.firstData := by kernel_rfl
theorem accept_eq : (Rows.laid_unicode_utf8_acceptRanges : DataW Unit) = Lib.acceptData := by kernel_rfl
theorem pow_eq : (Rows.laid_internal_strconv_uint64pow10 : DataW Unit) = Lib.tabData .u64 Lib.pow10Tab := by kernel_rfl

theorem tab_laid {W : World} {l : List (String × DataW Unit)} (h : laidMet Tryz.prog l W) (h1 : ("unicode/utf8.first", Rows.laid_unicode_utf8_first) ∈ l) (h2 : ("unicode/utf8.acceptRanges", Rows.laid_unicode_utf8_acceptRanges) ∈ l) : UtvTab W := by
  have r1 := Go.Lib.laidMet.reads h h1
  have r2 := Go.Lib.laidMet.reads h h2
  rw [first_eq] at r1
  rw [accept_eq] at r2
  have ht := Go.Proofs.utf8Tabs_of_readsT renU_types renU_extra r1 r2
  refine ⟨fun c hc => ?_, fun k hk => ?_⟩
  · refine ⟨_, ?_, ht.1 c hc⟩
    have := Go.Lib.firstT_cases c
    omega
  · obtain ⟨h1, h2⟩ := ht.2 k hk
    exact ⟨_, _, by rw [Nat.mul_comm]; exact h1, by rw [Nat.mul_comm]; exact h2⟩
theorem envT_laid {W : World} {r : List (String × DataW Unit)} {l : List (String × DataW Unit)} (hE : Env W.heap.size W) (h : laidMet Tryz.prog l W) (h1 : ("unicode/utf8.first", Rows.laid_unicode_utf8_first) ∈ l) (h2 : ("unicode/utf8.acceptRanges", Rows.laid_unicode_utf8_acceptRanges) ∈ l)
    (h3 : laidMet Tryz.prog (("internal/strconv.uint64pow10", Rows.laid_internal_strconv_uint64pow10) :: r) W) : EnvT W.heap.size W := by
  refine ⟨hE, Lib.tabBelow_of_tabIs ?_, fun w' hb => (tab_laid h h1 h2).stays hb⟩
  rw [pow_eq] at h3
  exact Lib.tabIs_of_head (g := 9) (t := 243) (e := 165) (n := 20) (by kernel_rfl) (by kernel_rfl) (by kernel_rfl) (by kernel_rfl) (by kernel_rfl) (by kernel_rfl) h3

/-- hex.ErrLength is an error value. -/
theorem hex_err {W : World} {r : List (String × DataW Unit)} (h : laidMet Tryz.prog (("encoding/hex.ErrLength", Rows.laid_encoding_hex_ErrLength) :: r) W) : ∃ et eu, W.cell? ⟨1, 0, none⟩ = some (.iface et eu) := by
  have g1 : Tryz.prog.globalNamed "encoding/hex.ErrLength" = some 1 := by kernel_rfl
  obtain ⟨a, s, hv, -⟩ := laid_sentinel (g := 1) h g1 (show (Tryz.prog.globals[1]?).map (·.type) = some 83 by kernel_rfl) Tryz.underlying83 err_row Tryz.underlying144 Tryz.underlying146 rfl rfl Tryz.underlying9 (by kernel_rfl) (by kernel_rfl)
  exact ⟨_, _, (World.var?_cell g1 hv 0).trans rfl⟩
end Go.Proofs.YtjmahgefijncaaaGreatFmt

