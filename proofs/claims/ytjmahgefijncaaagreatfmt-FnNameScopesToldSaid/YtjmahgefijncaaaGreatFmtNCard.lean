/- io.EOF and io.ErrUnexpectedEOF, as the rows' lists lay them. -/
import Derived.Test.YtjmahgefijncaaaGreatFmtPostN
import Derived.Test.YtjmahgefijncaaaGreatFmtHa
import Derived.Test.YtjmahgefijncaaaGreatFmtNTt
import Derived.Test.YtjmahgefijncaaaGreatFmtNTl
import Derived.Test.YtjmahgefijncaaaGreatFmtNCd
import Derived.Test.YtjmahgefijncaaaGreatFmtAwakeN
import Derived.Test.YtjmahgefijncaaaGreatFmtHe
import Derived.Test.YtjmahgefijncaaaGreatFmtSameN
import Derived.Test.YtjmahgefijncaaaGreatFmtNAv
import Derived.Deep.RegionWith
import Derived.Deep.LoopGhost
import Derived.Test.YtjmahgefijncaaaGreatFmtNOpen
import Derived.ChangeMaps5
set_option linter.unusedVariables false
set_option linter.unusedSimpArgs false
namespace Go.Proofs.YtjmahgefijncaaaGreatFmt
open Go Go.RowKit Go.ChangeShapes Go.WideShapes

theorem env_laid {W : World} {r : List (String × DataW Unit)} (h5 : laidMet Tryz.prog (("io.EOF", Rows.laid_io_EOF) :: ("io.ErrUnexpectedEOF", Rows.laid_io_ErrUnexpectedEOF) :: r) W) : Env W.heap.size W := by
  have g0 : Tryz.prog.globalNamed "io.EOF" = some 2 := by kernel_rfl
  have g1 : Tryz.prog.globalNamed "io.ErrUnexpectedEOF" = some 3 := by kernel_rfl
  obtain ⟨a0, a1, s0, s1, c0, c1, t0, t1, hv0, hv1, k0, e0, -, k1, e1, -, -, b0, b1⟩ := laid_sentinels2 h5 g0 (show (Tryz.prog.globals[2]?).map (·.type) = some 83 by kernel_rfl) g1 (show (Tryz.prog.globals[3]?).map (·.type) = some 83 by kernel_rfl)
    Tryz.underlying83 err_row Tryz.underlying144 Tryz.underlying146 rfl rfl Tryz.underlying9 (by kernel_rfl) (by kernel_rfl)
  have z0 : s0.size = 3 := by have := congrArg List.length e0; simpa using this
  have z1 : s1.size = 14 := by have := congrArg List.length e1; simpa using this
  have w0 := World.var?_cell g0 hv0 0
  have w1 := World.var?_cell g1 hv1 0
  refine ⟨⟨a0, w0.trans rfl, blockLt b0, s0, c0, t0, b0, k0, by omega, by omega⟩, ⟨a1, w1.trans rfl, blockLt b1, s1, c1, t1, b1, k1, by omega, by omega⟩, World.block_lt_of_cell? W ⟨2, 0, none⟩ (w0.trans rfl), World.block_lt_of_cell? W ⟨3, 0, none⟩ (w1.trans rfl)⟩
end Go.Proofs.YtjmahgefijncaaaGreatFmt

/- The law FnNameJoined, as a call. -/
namespace Go.Proofs.YtjmahgefijncaaaGreatFmt
open Go Go.RowKit

/-- The text of a name in a style. -/
def styleText (s : List UInt8) (n : Nm.Name) : List UInt8 := (NT.nameText (stAt s) n false 0).1
theorem styleText_len (s : List UInt8) {n : Nm.Name} (h : NameIs n) : (styleText s n).length ≤ 1190 := by
  have hl := NT.name_len (stAt s) n false 0 h.2
  have h5 := h.1
  have hpt : (styleText s n).length = (NT.nameText (stAt s) n false 0).1.length := rfl
  omega
theorem style_text (v sv : Value) (n : Nm.Name) (h : NameIs n) (s : List UInt8) (hs : s.length ≤ 40) (w : World) (hN : NameIn w v n) (hS : BytesIn w sv s) :
    Calls Tryz.prog 29 #[v, sv] w fun e w' => e = .returned (.string (Nm.bs (styleText s n))) ∧ Below w.heap.size w w' := by
  have hl := NT.name_len (stAt s) n false 0 h.2
  have h5 := h.1
  have hpt := styleText_len s h
  exact text_any v sv n s w hN hS ⟨by omega, fun ps hps => nameIs_fits h |>.2 ps hps⟩ (by omega) _ _ rfl (by show (styleText s n).length < _; omega) (by omega)
theorem joined_above (f : Bool) (n m : Nm.Name) (hn : n ≠ []) (hm : m ≠ []) : NC.above f m (n ++ m) = true := by
  have hl : 0 < n.length := by cases n with | nil => exact absurd rfl hn | cons _ _ => simp
  have hl2 : 0 < m.length := by cases m with | nil => exact absurd rfl hm | cons _ _ => simp
  have h := NC.above_tails f (n ++ m) (i := 0) (k := n.length) (by simp; omega) (by simp; omega)
  rw [List.drop_zero, List.drop_left] at h
  rw [h]
  exact decide_eq_true hl

/-- The cells of a name's relative names. -/
theorem name_cells {w : World} {o : Option Addr} {c : Nat} {n : Nm.Name} (h : NameIn w (.slice o n.length c) n) (hn : n ≠ []) :
    ∃ (b off : Nat) (us : List Value), o = some ⟨b, off, none⟩ ∧ us.length = n.length ∧ (∀ (j : Nat) (u : Value), us[j]? = some u → w.cell? ((⟨b, off, none⟩ : Addr).add j) = some u) ∧ (∀ (j : Nat) (ps : List Nm.Part), n[j]? = some ps → ∃ u, us[j]? = some u ∧ PartsIn w u ps) := by
  obtain ⟨o', c', hv, h1⟩ := h
  injection hv with e1 _ _
  have hl : 0 < n.length := by cases n with | nil => exact absurd rfl hn | cons _ _ => simp
  obtain ⟨b, off, _, e2, _⟩ := h1 0 _ (List.getElem?_eq_getElem hl)
  have hcell : ∀ (j : Nat) (ps : List Nm.Part), n[j]? = some ps → ∃ u, w.cell? ((⟨b, off, none⟩ : Addr).add j) = some u ∧ PartsIn w u ps := fun j ps hj => by
    obtain ⟨b', off', u, e3, h3, h4⟩ := h1 j ps hj
    rw [e2] at e3
    injection e3 with e3
    injection e3 with e3 e4
    subst e3 e4
    exact ⟨u, by rw [Lib.addr_add]; exact h3, h4⟩
  refine ⟨b, off, (List.range n.length).map (fun j => (w.cell? ((⟨b, off, none⟩ : Addr).add j)).getD undef), e1.trans e2, by simp, fun j u hj => ?_, fun j ps hj => ?_⟩
  · simp only [List.getElem?_map, Option.map_eq_some_iff] at hj
    obtain ⟨k, hk, rfl⟩ := hj
    obtain ⟨hkl, hke⟩ := List.getElem?_eq_some_iff.1 hk
    rw [List.length_range] at hkl
    rw [List.getElem_range] at hke
    subst hke
    obtain ⟨u, hu, _⟩ := hcell j _ (List.getElem?_eq_getElem hkl)
    rw [hu]; rfl
  · obtain ⟨u, hu, hp⟩ := hcell j ps hj
    have hjl := (List.getElem?_eq_some_iff.1 hj).1
    refine ⟨u, ?_, hp⟩
    simp only [List.getElem?_map, List.getElem?_range hjl, Option.map_some, hu, Option.getD_some]
theorem parts_one {w : World} {u : Value} {ps : List Nm.Part} (h : PartsIn w u ps) : u.oneCell' = true := by obtain ⟨_, _, rfl, _⟩ := h; rfl
theorem cells_one {w : World} {n : Nm.Name} {us : List Value} (hl : us.length = n.length) (h : ∀ (j : Nat) (ps : List Nm.Part), n[j]? = some ps → ∃ u, us[j]? = some u ∧ PartsIn w u ps) : ∀ u ∈ us, u.oneCell' = true := by
  intro u hu
  obtain ⟨j, hj, rfl⟩ := List.getElem_of_mem hu
  obtain ⟨u', e, hp⟩ := h j _ (List.getElem?_eq_getElem (show j < n.length by omega))
  rw [List.getElem?_eq_getElem hj] at e
  obtain rfl := Option.some.inj e
  exact parts_one hp
/-- A row that the call itself made out of the cells of two names. -/
theorem joined_in {w : World} {B : Nat} {e : TypeId} {v : Value} {n m : Nm.Name} {us vs : List Value} (hv : w.ownsRow B e 1 v (n.length + m.length) (us ++ vs)) (hul : us.length = n.length)
    (hu : ∀ (j : Nat) (ps : List Nm.Part), n[j]? = some ps → ∃ u, us[j]? = some u ∧ PartsIn w u ps) (hvs : ∀ (j : Nat) (ps : List Nm.Part), m[j]? = some ps → ∃ u, vs[j]? = some u ∧ PartsIn w u ps) : NameIn w v (n ++ m) := by
  have hall : ∀ (j : Nat) (ps : List Nm.Part), (n ++ m)[j]? = some ps → ∃ u, (us ++ vs)[j]? = some u ∧ PartsIn w u ps := fun j ps hj => by
    by_cases h : j < n.length
    · rw [List.getElem?_append_left h] at hj
      rw [List.getElem?_append_left (by omega)]
      exact hu j ps hj
    · rw [List.getElem?_append_right (by omega)] at hj
      rw [List.getElem?_append_right (by omega), hul]
      exact hvs _ ps hj
  rcases hv with ⟨hl, ⟨rfl, h0⟩ | ⟨g, cap, cur, rfl, _, hg, hn, hm, hcs, htk⟩⟩
  · refine ⟨none, 0, by rw [List.length_append, h0], fun j ps hj => ?_⟩
    have := (List.getElem?_eq_some_iff.1 hj).1
    rw [List.length_append] at this
    omega
  · refine ⟨_, cap, by rw [List.length_append], fun j ps hj => ?_⟩
    obtain ⟨u, hu, hp⟩ := hall j ps hj
    refine ⟨g, 0, u, rfl, ?_, hp⟩
    rw [Nat.zero_add, blockCell hg j]
    rw [Nat.mul_one] at htk
    rw [← htk] at hu
    simp only [List.getElem?_take] at hu
    split at hu
    · simpa using hu
    · cases hu

theorem cmp_fieldJ (W : World) (a b c d : Bool) : (Instr.field 55 (.agg #[.bool a, .bool b, .bool c, .bool d]) 2).run Tryz.prog W = .ok (.bool c) W := by
  simp [Instr.field, run_underlying Tryz.underlying55, asAgg, part, isAgg, run_underlying Tryz.underlying4, Result.andThen]

set_option maxRecDepth 100000 in
set_option maxHeartbeats 32000000 in
theorem law_joined (n m : Nm.Name) (od oe os ox : Option Addr) (cd ce cs cx : Nat) (s x : List UInt8) (w : World) (hA : NameIn w (.slice od n.length cd) n) (hB : NameIn w (.slice oe m.length ce) m) (hS : BytesIn w (.slice os s.length cs) s) (hX : BytesIn w (.slice ox x.length cx) x)
    (hl : n.length ≤ 9223372036854775807) (hl2 : ∀ ps ∈ n, ps.length ≤ 9223372036854775807 ∧ ∀ p ∈ ps, p.1.length ≤ 9223372036854775807 ∧ p.2.length ≤ 9223372036854775807)
    (hm : m.length ≤ 9223372036854775807) (hm2 : ∀ ps ∈ m, ps.length ≤ 9223372036854775807 ∧ ∀ p ∈ ps, p.1.length ≤ 9223372036854775807 ∧ p.2.length ≤ 9223372036854775807)
    (ev : Value) (hE : w.cell? ⟨1, 0, none⟩ = some ev) (hN : Env w.heap.size w) :
    Calls Tryz.prog 6 #[.slice od n.length cd, .slice oe m.length ce, .slice os s.length cs, .slice ox x.length cx] w fun e w' => e = .returned (.bool true) ∧ Below w.heap.size w w' := by
  have hgl : 1 < w.heap.size := World.block_lt_of_cell? w ⟨1, 0, none⟩ hE
  have HEV := Lib.hid (fun (w2 : World) (h : Below w.heap.size w w2) => (h.cell (p := ⟨1, 0, none⟩) hgl).trans hE)
  have HAW := Lib.hid (fun (w2 : World) (h : Below w.heap.size w w2) => awake_any w2 ev (HEV.out w2 h))
  have HF1 := Lib.hid (fits18_any _ n w hA hl hl2)
  have HF2 := Lib.hid (fun (w2 : World) (h : Below w.heap.size w w2) => fits18_any _ m w2 (hB.stays h) hm hm2)
  have HI1 := Lib.hid (fun (hf : NameFit n) (w2 : World) (h : Below w.heap.size w w2) => isname_any _ n w2 (hA.stays h) hf)
  have HI2 := Lib.hid (fun (hf : NameFit m) (w2 : World) (h : Below w.heap.size w w2) => isname_any _ m w2 (hB.stays h) hf)
  have HT1 := Lib.hid (fun (hi : NameIs n) (hs : s.length ≤ 40) (w2 : World) (h : Below w.heap.size w w2) => style_text _ _ n hi s hs w2 (hA.stays h) (hS.stays h))
  have HT2 := Lib.hid (fun (hi : NameIs m) (hs : x.length ≤ 40) (w2 : World) (h : Below w.heap.size w w2) => style_text _ _ m hi x hs w2 (hB.stays h) (hX.stays h))
  have HT3 := Lib.hid (fun (hi : NameIs m) (hs : s.length ≤ 40) (w2 : World) (h : Below w.heap.size w w2) => style_text _ _ m hi s hs w2 (hB.stays h) (hS.stays h))
  have HRD := Lib.hid (fun (T : List UInt8) (hT : T.length < 100000000) (k : Nm.Name) (hk : Nm.parseDN hashVal T = some k) (w2 : World) (h : Below w.heap.size w w2) => read_in hashVal T hT k hk w2 (hash_works w2 ((hN.below h (Nat.le_refl _)).mono h.size)) ev (HEV.out w2 h))
  have HA := Lib.hid hA
  have HB := Lib.hid hB
  clear hE hl2 hA hB hS hX hm2 hN
  go_enter Tryz.func6, Tryz.ntmps6
  go_wp2_with fail
  refine HF1.out.mono ?_
  rintro e w1 ⟨⟨r, rfl, hr⟩, hb1⟩
  have HB1 := Lib.hid hb1
  have HR1 := Lib.hid hr
  have hs1 := hb1.size
  clear hb1 hr HF1
  cases r with
  | false =>
    go_wp2_with fail
    go_ret
    exact ⟨rfl, HB1.out⟩
  | true =>
  have HFA := Lib.hid (HR1.out rfl)
  clear HR1
  go_wp2_with fail
  refine (HF2.out w1 HB1.out).mono ?_
  rintro e w2 ⟨⟨r, rfl, hr⟩, hb2⟩
  have HB2 := Lib.hid (HB1.out.trans (hb2.mono hs1))
  have hs2 := HB2.out.size
  have HR2 := Lib.hid hr
  clear hb2 hr HF2
  cases r with
  | false =>
    go_wp2_with fail
    go_ret
    exact ⟨rfl, HB2.out⟩
  | true =>
  have HFB := Lib.hid (HR2.out rfl)
  clear HR2
  by_cases hsb : 2147483647 < s.length
  · have t1 : decide ((s.length : Int) > 2147483647) = true := by simp; omega
    go_wp2_with fail
    go_ret
    exact ⟨rfl, HB2.out⟩
  have t1 : decide ((s.length : Int) > 2147483647) = false := by simp; omega
  by_cases hxb : 2147483647 < x.length
  · have t2 : decide ((x.length : Int) > 2147483647) = true := by simp; omega
    go_wp2_with fail
    go_ret
    exact ⟨rfl, HB2.out⟩
  have t2 : decide ((x.length : Int) > 2147483647) = false := by simp; omega
  go_wp2_with fail
  refine (HI1.out HFA.out w2 HB2.out).mono ?_
  rintro e w3 ⟨⟨r, rfl, hr⟩, hb3⟩
  have HB3 := Lib.hid (HB2.out.trans (hb3.mono hs2))
  have hs3 := HB3.out.size
  have HR3 := Lib.hid hr
  clear hb3 hr HI1 t1 t2
  cases r with
  | false =>
    go_wp2_with fail
    refine (HAW.out w3 HB3.out).mono ?_
    rintro e w9 ⟨rfl, hb9⟩
    have HB9 := Lib.hid (HB3.out.trans (hb9.mono hs3))
    clear hb9
    go_wp2_with fail
    go_ret
    exact ⟨rfl, HB9.out⟩
  | true =>
  have HNA := Lib.hid (HR3.out rfl)
  clear HR3
  go_wp2_with fail
  refine (HI2.out HFB.out w3 HB3.out).mono ?_
  rintro e w4 ⟨⟨r, rfl, hr⟩, hb4⟩
  have HB4 := Lib.hid (HB3.out.trans (hb4.mono hs3))
  have hs4 := HB4.out.size
  have HR4 := Lib.hid hr
  clear hb4 hr HI2
  cases r with
  | false =>
    go_wp2_with fail
    refine (HAW.out w4 HB4.out).mono ?_
    rintro e w9 ⟨rfl, hb9⟩
    have HB9 := Lib.hid (HB4.out.trans (hb9.mono hs4))
    clear hb9
    go_wp2_with fail
    go_ret
    exact ⟨rfl, HB9.out⟩
  | true =>
  have HNB := Lib.hid (HR4.out rfl)
  clear HR4
  by_cases hq1 : n.length = 0
  · have q1 : ((n.length : Int) == 0) = true := by rw [beq_iff_eq]; omega
    go_wp2_with fail
    refine (HAW.out w4 HB4.out).mono ?_
    rintro e w9 ⟨rfl, hb9⟩
    have HB9 := Lib.hid (HB4.out.trans (hb9.mono hs4))
    clear hb9
    go_wp2_with fail
    go_ret
    exact ⟨rfl, HB9.out⟩
  have q1 : ((n.length : Int) == 0) = false := by rw [beq_eq_false_iff_ne]; omega
  by_cases hq2 : m.length = 0
  · have q2 : ((m.length : Int) == 0) = true := by rw [beq_iff_eq]; omega
    go_wp2_with fail
    refine (HAW.out w4 HB4.out).mono ?_
    rintro e w9 ⟨rfl, hb9⟩
    have HB9 := Lib.hid (HB4.out.trans (hb9.mono hs4))
    clear hb9
    go_wp2_with fail
    go_ret
    exact ⟨rfl, HB9.out⟩
  have q2 : ((m.length : Int) == 0) = false := by rw [beq_eq_false_iff_ne]; omega
  by_cases hq3 : 40 < s.length
  · have q3 : decide ((s.length : Int) > 40) = true := by simp; omega
    go_wp2_with fail
    refine (HAW.out w4 HB4.out).mono ?_
    rintro e w9 ⟨rfl, hb9⟩
    have HB9 := Lib.hid (HB4.out.trans (hb9.mono hs4))
    clear hb9
    go_wp2_with fail
    go_ret
    exact ⟨rfl, HB9.out⟩
  have q3 : decide ((s.length : Int) > 40) = false := by simp; omega
  by_cases hq4 : 40 < x.length
  · have q4 : decide ((x.length : Int) > 40) = true := by simp; omega
    go_wp2_with fail
    refine (HAW.out w4 HB4.out).mono ?_
    rintro e w9 ⟨rfl, hb9⟩
    have HB9 := Lib.hid (HB4.out.trans (hb9.mono hs4))
    clear hb9
    go_wp2_with fail
    go_ret
    exact ⟨rfl, HB9.out⟩
  have q4 : decide ((x.length : Int) > 40) = false := by simp; omega
  have hne : n ≠ [] := by intro e; rw [e] at hq1; simp at hq1
  have hme : m ≠ [] := by intro e; rw [e] at hq2; simp at hq2
  have h5n := HNA.out.1
  have h5m := HNB.out.1
  have hparse := NT.names_joined (hash_ok (stAt s)) (hash_ok (stAt x)) n m (NT.nameIs_ok HNA.out) (NT.nameIs_ok HNB.out) hne hme 0 0
  have hparse2 := NT.name_parse (hash_ok (stAt s)) m (NT.nameIs_ok HNB.out) 0
  have hfits : (∀ ps ∈ n ++ m, ps.length < 1000000000) ∧ NameFits (n ++ m) := by
    have h1 := nameIs_fits HNA.out
    have h2 := nameIs_fits HNB.out
    have h3 : ∀ ps ∈ n ++ m, ps.length < 1000000000 ∧ ∀ p ∈ ps, p.1.length < 1000000000 ∧ p.2.length < 1000000000 := fun ps hps => by
      rcases List.mem_append.1 hps with h | h
      · exact h1.2 ps h
      · exact h2.2 ps h
    exact ⟨fun ps hps => (h3 ps hps).1, by rw [List.length_append]; omega, h3⟩
  have hlen1 := styleText_len s HNA.out
  have hlen2 := styleText_len x HNB.out
  have hlen3 := styleText_len s HNB.out
  have HTA := Lib.hid (HT1.out HNA.out (by omega))
  have HTB := Lib.hid (HT2.out HNB.out (by omega))
  have HTC := Lib.hid (HT3.out HNB.out (by omega))
  clear HT1 HT2 HT3
  change Nm.parseDN hashVal (styleText s n ++ 44 :: styleText x m) = some (n ++ m) at hparse
  change Nm.parseDN hashVal (styleText s m) = some m at hparse2
  generalize styleText s n = T1 at *
  generalize styleText x m = T2 at *
  generalize styleText s m = T3 at *
  obtain ⟨U, hU⟩ : ∃ U, U = T1 ++ [44] := ⟨_, rfl⟩
  obtain ⟨V, hV⟩ : ∃ V, V = U ++ T2 := ⟨_, rfl⟩
  have hUl : U.length ≤ 1191 := by rw [hU, List.length_append]; simp; omega
  have hVl : V.length < 100000000 := by rw [hV, List.length_append]; omega
  have hap1 : Nm.bs T1 ++ ⟨#[44]⟩ = Nm.bs U := by rw [hU]; exact bs_app T1 [44]
  have hap2 : Nm.bs U ++ Nm.bs T2 = Nm.bs V := by rw [hV]; exact bs_app U T2
  have hVT : V = T1 ++ 44 :: T2 := by rw [hV, hU]; simp
  rw [← hVT] at hparse
  have HR5 := Lib.hid (HRD.out V hVl (n ++ m) hparse)
  have HR6 := Lib.hid (HRD.out T3 (by omega) m hparse2)
  have z1 := bs_size T1
  have z2 := bs_size T2
  have zu := bs_size U
  have o1 : ¬ 9223372036854775807 < T1.length + 1 := by omega
  have o2 : ¬ 9223372036854775807 < U.length + T2.length := by omega
  clear hU hV hVT hparse hparse2 HRD
  go_wp2_with fail
  refine (HTA.out w4 HB4.out).mono ?_
  rintro e w5 ⟨rfl, hb5⟩
  have HB5 := Lib.hid (HB4.out.trans (hb5.mono hs4))
  have hs5 := HB5.out.size
  clear hb5
  go_wp2_with fail
  refine (HTB.out w5 HB5.out).mono ?_
  rintro e w6 ⟨rfl, hb6⟩
  have HB6 := Lib.hid (HB5.out.trans (hb6.mono hs5))
  have hs6 := HB6.out.size
  clear hb6
  go_wp2_with fail
  refine (HR5.out w6 HB6.out).mono ?_
  rintro e w7 ⟨vg, rfl, hown7, hb7⟩
  have HB7 := Lib.hid (HB6.out.trans (hb7.mono hs6))
  have hs7 := HB7.out.size
  have HG := Lib.hid hown7.in'
  clear hb7 hown7 o1 o2 hap1 hap2
  go_wp2_with fail
  refine (HTC.out w7 HB7.out).mono ?_
  rintro e w8 ⟨rfl, hb8⟩
  have HB8 := Lib.hid (HB7.out.trans (hb8.mono hs7))
  have hs8 := HB8.out.size
  have HG8 := Lib.hid (HG.out.stays hb8)
  clear hb8
  go_wp2_with fail
  refine (HR6.out w8 HB8.out).mono ?_
  rintro e w9 ⟨va, rfl, hown9, hb9⟩
  have HB9 := Lib.hid (HB8.out.trans (hb9.mono hs8))
  have hs9 := HB9.out.size
  have HG9 := Lib.hid (HG8.out.stays hb9)
  have HV9 := Lib.hid hown9.in'
  clear hb9 hown9
  obtain ⟨gb, goff, us, rfl, hul, huc, hup⟩ := name_cells (HA.out.stays HB9.out) hne
  obtain ⟨mb, moff, vs, rfl, hvl, hvc, hvp⟩ := name_cells (HB.out.stays HB9.out) hme
  obtain ⟨i0, hi, hz0, hz1, hz2⟩ := info_sparts1
  have h1u := cells_one hul hup
  have h1v := cells_one hvl hvp
  have HUC := Lib.hid (And.intro huc hup)
  have HVC := Lib.hid (And.intro hvc hvp)
  clear huc hup hvc hvp
  have HVG := Lib.hid (fun (w2 : World) (h : Below w9.heap.size w9 w2) => And.intro (name_of vg (n ++ m) w2 (HG9.out.stays h) (by rw [List.length_append]; omega) hfits.1) (names_cmp va vg m (n ++ m) w2 (HV9.out.stays h) (HG9.out.stays h) (nameIs_fits HNB.out) hfits.2))
  have hab := joined_above false n m hne hme
  have hfd := fun (W : World) (a b d : Bool) => cmp_fieldJ W a b true d
  unfold Cmp at HVG
  rw [hab] at HVG
  generalize NC.namesEq false m (n ++ m) = k1 at HVG
  generalize NC.namesEq true m (n ++ m) = k2 at HVG
  generalize NC.above true m (n ++ m) = k3 at HVG
  have hown0 : (w9.alloc (.cells #[] 77)).ownsRow w9.heap.size 77 1 (.slice (some ⟨w9.heap.size, 0, none⟩) 0 0) 0 [] :=
    ⟨rfl, Or.inr ⟨w9.heap.size, 0, #[], rfl, Nat.le_refl _, heap_alloc_new _ _, Nat.le_refl _, by decide, rfl, rfl⟩⟩
  have HO0 := Lib.hid hown0
  clear hown0 hab hne hme
  go_wp2_with (at_builtin; refine wpList_append_own _ rfl _ _ 22 rfl w9.heap.size 77 i0 (.slice none 0 0) 1 24 Tryz.underlying22 hi hz0 hz1 hz2 rfl (by decide) _ _ _ rfl HO0.out ⟨gb, goff, none⟩ n.length cd us rfl ?c0 ?c1 h1u ?c3 ?c4 ?c5 ?_)
  case c0 => rw [hul, Nat.mul_one]
  case c1 => intro j u hj; exact cell_alloc (HUC.out.1 j u hj) _
  case c3 => unfold maxLen; omega
  case c4 => omega
  case c5 => simp
  intro v1 w10 hown1 hgrow1 _
  have hb10 : Below w9.heap.size w9 w10 := ((Below.refl _ w9).alloc (Nat.le_refl _) _).grown hgrow1 (by simp) (fun k hk => (HO0.out.lt k hk).1)
  have HO1 := Lib.hid hown1
  have HB10 := Lib.hid hb10
  clear hown1 hgrow1 hb10
  go_wp2_with (at_builtin; refine wpList_append_own _ rfl _ _ 22 rfl w9.heap.size 77 i0 (.slice none 0 0) 1 24 Tryz.underlying22 hi hz0 hz1 hz2 rfl (by decide) _ _ _ rfl HO1.out ⟨mb, moff, none⟩ m.length ce vs rfl ?e0 ?e1 h1v ?e3 ?e4 ?e5 ?_)
  case e0 => rw [hvl, Nat.mul_one]
  case e1 => intro j u hj; have := HVC.out.1 j u hj; exact (HB10.out.cell (World.block_lt_of_cell? w9 _ this)).trans this
  case e3 => unfold maxLen; omega
  case e4 => omega
  case e5 => exact HB10.out.size
  intro v2 w11 hown2 hgrow2 _
  have hb11 : Below w9.heap.size w9 w11 := HB10.out.grown hgrow2 HB10.out.size (fun k hk => (HO1.out.lt k hk).1)
  have HBOTH := Lib.hid (joined_in hown2 hul (fun j ps hj => by obtain ⟨u, h1, h2⟩ := HUC.out.2 j ps hj; exact ⟨u, h1, h2.stays hb11⟩) (fun j ps hj => by obtain ⟨u, h1, h2⟩ := HVC.out.2 j ps hj; exact ⟨u, h1, h2.stays hb11⟩))
  have HB11 := Lib.hid (HB9.out.trans (hb11.mono hs9))
  have hs11 := HB11.out.size
  have hs911 := hb11.size
  have HB911 := Lib.hid hb11
  clear hown2 hgrow2 hb11 HO0 HO1
  go_wp2_with fail
  refine (HVG.out w11 HB911.out).1.mono ?_
  rintro e w12 ⟨vo, rfl, hown12, hb12⟩
  have HB12 := Lib.hid (HB11.out.trans (hb12.mono hs11))
  have hs12 := HB12.out.size
  have HB912 := Lib.hid (HB911.out.trans (hb12.mono hs911))
  have HSM := Lib.hid (name_same vo v2 (n ++ m) w12 hown12.in' (HBOTH.out.stays hb12) (by rw [List.length_append]; omega) hfits.1)
  have hs912 := HB912.out.size
  clear hb12 hown12
  go_wp2_with fail
  refine HSM.out.mono ?_
  rintro e w13 ⟨rfl, hb13⟩
  have HB13 := Lib.hid (HB12.out.trans (hb13.mono hs12))
  have hs13 := HB13.out.size
  have HB913 := Lib.hid (HB912.out.trans (hb13.mono hs912))
  clear hb13 HSM
  go_wp2_with fail
  refine (HVG.out w13 HB913.out).2.mono ?_
  rintro e w14 ⟨rfl, hb14⟩
  have HB14 := Lib.hid (HB13.out.trans (hb14.mono hs13))
  have hs14 := HB14.out.size
  clear hb14
  go_wp2_with fail
  refine (HAW.out w14 HB14.out).mono ?_
  rintro e w15 ⟨rfl, hb15⟩
  have HB15 := Lib.hid (HB14.out.trans (hb15.mono hs14))
  clear hb15
  go_wp2_with fail
  go_ret
  exact ⟨rfl, HB15.out⟩
end Go.Proofs.YtjmahgefijncaaaGreatFmt

/- The law FnNameScopes, as a call. -/
namespace Go.Proofs.YtjmahgefijncaaaGreatFmt
open Go Go.RowKit

theorem cmp_boxes (w : World) (a b c d a' b' c' d' : Bool) : ∃ W, W = (w.alloc (.cells #[.bool a, .bool b, .bool c, .bool d] 55)).alloc (.cells #[.bool a', .bool b', .bool c', .bool d'] 55) ∧ Below w.heap.size w W ∧ ∀ w2, Below W.heap.size W w2 →
    w2.cell? ⟨w.heap.size, 0, none⟩ = some (.bool a) ∧ w2.cell? ⟨w.heap.size, 1, none⟩ = some (.bool b) ∧ w2.cell? ⟨w.heap.size, 2, none⟩ = some (.bool c) ∧ w2.cell? ⟨w.heap.size, 3, none⟩ = some (.bool d) ∧ w2.cell? ⟨w.heap.size + 1, 0, none⟩ = some (.bool a') ∧ w2.cell? ⟨w.heap.size + 1, 1, none⟩ = some (.bool b') ∧ w2.cell? ⟨w.heap.size + 1, 2, none⟩ = some (.bool c') ∧ w2.cell? ⟨w.heap.size + 1, 3, none⟩ = some (.bool d') := by
  refine ⟨_, rfl, ((Below.refl _ w).alloc (Nat.le_refl _) _).alloc (by simp) _, fun w2 h => ?_⟩
  have hP : ((w.alloc (.cells #[.bool a, .bool b, .bool c, .bool d] 55 (0, 0))).alloc (.cells #[.bool a', .bool b', .bool c', .bool d'] 55 (0, 0))).heap[w.heap.size]? = some (.cells #[.bool a, .bool b, .bool c, .bool d] 55 (0, 0)) := by
    rw [Below.heap_alloc _ _ _ (by simp)]; exact heap_alloc_new w _
  have hQ : ((w.alloc (.cells #[.bool a, .bool b, .bool c, .bool d] 55 (0, 0))).alloc (.cells #[.bool a', .bool b', .bool c', .bool d'] 55 (0, 0))).heap[w.heap.size + 1]? = some (.cells #[.bool a', .bool b', .bool c', .bool d'] 55 (0, 0)) := by
    have := heap_alloc_new (w.alloc (.cells #[.bool a, .bool b, .bool c, .bool d] 55 (0, 0))) (.cells #[.bool a', .bool b', .bool c', .bool d'] 55 (0, 0)); simpa using this
  have f := fun j => blockCell ((h.block _ (blockLt hP)).trans hP) j
  have g := fun j => blockCell ((h.block _ (blockLt hQ)).trans hQ) j
  exact ⟨f 0, f 1, f 2, f 3, g 0, g 1, g 2, g 3⟩

theorem namesEq_comm (f : Bool) (n m : Nm.Name) : NC.namesEq f n m = NC.namesEq f m n := by
  rw [Bool.eq_iff_iff]; exact ⟨NC.namesEq_symm, NC.namesEq_symm⟩

set_option maxRecDepth 100000 in
set_option maxHeartbeats 32000000 in
theorem law_scopes (es : List Nm.Name) (m : Nm.Name) (od oe os : Option Addr) (cd ce cs : Nat) (s : List UInt8) (w : World) (hA : NamesIn w (.slice od es.length cd) es) (hB : NameIn w (.slice oe m.length ce) m) (hcap : m.length ≤ ce) (hS : BytesIn w (.slice os s.length cs) s)
    (hl : es.length ≤ 9223372036854775807) (hl2 : ∀ n ∈ es, NameLen n) (hm : NameLen m)
    (ev : Value) (hE : w.cell? ⟨1, 0, none⟩ = some ev) (hN : Env w.heap.size w) :
    Calls Tryz.prog 8 #[.slice od es.length cd, .slice oe m.length ce, .slice os s.length cs] w fun e w' => e = .returned (.bool true) ∧ Below w.heap.size w w' := by
  have hgl : 1 < w.heap.size := World.block_lt_of_cell? w ⟨1, 0, none⟩ hE
  have HEV := Lib.hid (fun (w2 : World) (h : Below w.heap.size w w2) => (h.cell (p := ⟨1, 0, none⟩) hgl).trans hE)
  have HAW := Lib.hid (fun (w2 : World) (h : Below w.heap.size w w2) => awake_any w2 ev (HEV.out w2 h))
  have HF1 := Lib.hid (fits17_any _ es w hA hl hl2)
  have HF2 := Lib.hid (fun (w2 : World) (h : Below w.heap.size w w2) => fits18_any _ m w2 (hB.stays h) hm.1 hm.2)
  have HI2 := Lib.hid (fun (hf : NameFit m) (w2 : World) (h : Below w.heap.size w w2) => isname_any _ m w2 (hB.stays h) hf)
  have HA2 := Lib.hid (fun (hf : NameFit m) (w2 : World) (h : Below w.heap.size w w2) => ascii_any _ m w2 (hB.stays h) hf)
  have HIX := Lib.hid (fun (n : Nm.Name) (v : Value) (hf : NameFit n) (w2 : World) (h : NameIn w2 v n) => isname_any v n w2 h hf)
  have HAX := Lib.hid (fun (n : Nm.Name) (v : Value) (hf : NameFit n) (w2 : World) (h : NameIn w2 v n) => ascii_any v n w2 h hf)
  have HTX := Lib.hid (fun (n : Nm.Name) (v : Value) (hi : NameIs n) (hs : s.length ≤ 40) (w2 : World) (h : Below w.heap.size w w2) (hv : NameIn w2 v n) => style_text v _ n hi s hs w2 hv (hS.stays h))
  have HRD := Lib.hid (fun (n : Nm.Name) (hi : NameIs n) (w2 : World) (h : Below w.heap.size w w2) => read_in hashVal (styleText s n) (by have := styleText_len s hi; omega) n (NT.name_parse (hash_ok (stAt s)) n (NT.nameIs_ok hi) 0) w2 (hash_works w2 ((hN.below h (Nat.le_refl _)).mono h.size)) ev (HEV.out w2 h))
  obtain ⟨oz, cz, hvz, hzz⟩ := hA
  injection hvz with hz1 _ hz3
  subst hz1 hz3
  have HA := Lib.hid hzz
  have HB := Lib.hid hB
  clear hE hl2 hB hS hm hN hzz
  go_enter Tryz.func8, Tryz.ntmps8
  go_wp2_with fail
  refine HF1.out.mono ?_
  rintro e w1 ⟨⟨r, rfl, hr⟩, hb1⟩
  have HB1 := Lib.hid hb1
  have HR1 := Lib.hid hr
  have hs1 := hb1.size
  clear hb1 hr HF1
  cases r with
  | false =>
    go_wp2_with fail
    go_ret
    exact ⟨rfl, HB1.out⟩
  | true =>
  have HFA := Lib.hid (HR1.out rfl)
  clear HR1
  go_wp2_with fail
  refine (HF2.out w1 HB1.out).mono ?_
  rintro e w2 ⟨⟨r, rfl, hr⟩, hb2⟩
  have HB2 := Lib.hid (HB1.out.trans (hb2.mono hs1))
  have hs2 := HB2.out.size
  have HR2 := Lib.hid hr
  clear hb2 hr HF2
  cases r with
  | false =>
    go_wp2_with fail
    go_ret
    exact ⟨rfl, HB2.out⟩
  | true =>
  have HFB := Lib.hid (HR2.out rfl)
  clear HR2
  by_cases hsb : 2147483647 < s.length
  · have t1 : decide ((s.length : Int) > 2147483647) = true := by simp; omega
    go_wp2_with fail
    go_ret
    exact ⟨rfl, HB2.out⟩
  have t1 : decide ((s.length : Int) > 2147483647) = false := by simp; omega
  by_cases he1 : es.length < 1
  · have q1 : decide ((es.length : Int) < 1) = true := by simp; omega
    go_wp2_with fail
    refine (HAW.out w2 HB2.out).mono ?_
    rintro e w9 ⟨rfl, hb9⟩
    have HB9 := Lib.hid (HB2.out.trans (hb9.mono hs2))
    clear hb9
    go_wp2_with fail
    go_ret
    exact ⟨rfl, HB9.out⟩
  have q1 : decide ((es.length : Int) < 1) = false := by simp; omega
  by_cases he8 : 8 < es.length
  · have q2 : decide ((es.length : Int) > 8) = true := by simp; omega
    go_wp2_with fail
    refine (HAW.out w2 HB2.out).mono ?_
    rintro e w9 ⟨rfl, hb9⟩
    have HB9 := Lib.hid (HB2.out.trans (hb9.mono hs2))
    clear hb9
    go_wp2_with fail
    go_ret
    exact ⟨rfl, HB9.out⟩
  have q2 : decide ((es.length : Int) > 8) = false := by simp; omega
  go_wp2_with fail
  refine (HI2.out HFB.out w2 HB2.out).mono ?_
  rintro e w3 ⟨⟨r, rfl, hr⟩, hb3⟩
  have HB3 := Lib.hid (HB2.out.trans (hb3.mono hs2))
  have hs3 := HB3.out.size
  have HR3 := Lib.hid hr
  clear hb3 hr HI2 t1
  cases r with
  | false =>
    go_wp2_with fail
    refine (HAW.out w3 HB3.out).mono ?_
    rintro e w9 ⟨rfl, hb9⟩
    have HB9 := Lib.hid (HB3.out.trans (hb9.mono hs3))
    clear hb9
    go_wp2_with fail
    go_ret
    exact ⟨rfl, HB9.out⟩
  | true =>
  have HNB := Lib.hid (HR3.out rfl)
  clear HR3
  go_wp2_with fail
  refine (HA2.out HFB.out w3 HB3.out).mono ?_
  rintro e w4 ⟨⟨r, rfl, hr⟩, hb4⟩
  have HB4 := Lib.hid (HB3.out.trans (hb4.mono hs3))
  have hs4 := HB4.out.size
  clear hb4 hr HA2
  cases r with
  | false =>
    go_wp2_with fail
    refine (HAW.out w4 HB4.out).mono ?_
    rintro e w9 ⟨rfl, hb9⟩
    have HB9 := Lib.hid (HB4.out.trans (hb9.mono hs4))
    clear hb9
    go_wp2_with fail
    go_ret
    exact ⟨rfl, HB9.out⟩
  | true =>
  by_cases hq3 : 40 < s.length
  · have q3 : decide ((s.length : Int) > 40) = true := by simp; omega
    go_wp2_with fail
    refine (HAW.out w4 HB4.out).mono ?_
    rintro e w9 ⟨rfl, hb9⟩
    have HB9 := Lib.hid (HB4.out.trans (hb9.mono hs4))
    clear hb9
    go_wp2_with fail
    go_ret
    exact ⟨rfl, HB9.out⟩
  have q3 : decide ((s.length : Int) > 40) = false := by simp; omega
  have hs40 : s.length ≤ 40 := by omega
  have HTA := Lib.hid (HTX.out m _ HNB.out hs40 w4 HB4.out (HB.out.stays HB4.out))
  have HRA := Lib.hid (HRD.out m HNB.out)
  have HTR := Lib.hid (fun (n : Nm.Name) (v : Value) (hi : NameIs n) (w2 : World) (h : Below w.heap.size w w2) (hv : NameIn w2 v n) => HTX.out n v hi hs40 w2 h hv)
  have hfm := nameIs_fits HNB.out
  have HFM := Lib.hid (show NameFits m from hfm)
  have h5 := HNB.out.1
  clear HTX hfm
  generalize styleText s m = T1 at *
  go_wp2_with fail
  refine HTA.out.mono ?_
  rintro e w5 ⟨rfl, hb5⟩
  have HB5 := Lib.hid (HB4.out.trans (hb5.mono hs4))
  have hs5 := HB5.out.size
  clear hb5 HTA
  go_wp2_with fail
  refine (HRA.out w5 HB5.out).mono ?_
  rintro e w6 ⟨vb, rfl, hown6, hb6⟩
  have HB6 := Lib.hid (HB5.out.trans (hb6.mono hs5))
  have hs6 := HB6.out.size
  have HVB := Lib.hid hown6.in'
  obtain ⟨ovb, cvb, rfl, -⟩ := HVB.out
  clear hb6 hown6 HRA
  go_wp2_with fail
  have HM := Lib.hid HB
  clear HB
  go_loopw [66] (fun t66 wr => ∃ (i : Nat), t66 = .int .i64 i ∧ i ≤ es.length ∧ Hid (Below w.heap.size w wr ∧ NameIn wr (.slice ovb m.length cvb) m)) (fun t66 _ => es.length - (intOf t66).toNat)
  case atStart => exact ⟨0, rfl, Nat.zero_le _, Lib.hid ⟨HB6.out, HVB.out⟩⟩
  case round =>
    clear HVB
    obtain ⟨i, rfl, hi, HL⟩ := hrel
    have hsr := HL.out.1.size
    by_cases hend : i = es.length
    · have t1 : decide ((i : Int) < (es.length : Int)) = false := by simp; omega
      go_wp2_with fail
      refine (HAW.out wr HL.out.1).mono ?_
      rintro e w9 ⟨rfl, hb9⟩
      have HB9 := Lib.hid (HL.out.1.trans (hb9.mono hsr))
      clear hb9
      go_wp2_with fail
      go_ret
      exact ⟨rfl, HB9.out⟩
    have hlt : i < es.length := by omega
    have t1 : decide ((i : Int) < (es.length : Int)) = true := by simp; omega
    obtain ⟨n, hp⟩ : ∃ n, es[i]? = some n := ⟨_, List.getElem?_eq_getElem hlt⟩
    obtain ⟨ga, offa, on, cn, rfl, cra, hcn, hna⟩ := HA.out i n hp
    have ka : wr.cell? ⟨ga, offa + i, none⟩ = some (.slice on n.length cn) := (HL.out.1.cell (World.block_lt_of_cell? w ⟨ga, offa + i, none⟩ cra)).trans cra
    have hfn := HFA.out.2 n (List.mem_of_getElem? hp)
    have HNI := Lib.hid (fun (w2 : World) (h : Below w.heap.size w w2) => hna.stays h)
    have HFN := Lib.hid hfn
    have x0 : (0 : Int) ≤ (i : Int) := by omega
    have x1 : (i : Int) < (es.length : Int) := by omega
    clear hp hend cra hna hfn
    go_wp2_with fail
    refine (HIX.out n _ HFN.out wr (HNI.out wr HL.out.1)).mono ?_
    rintro e w7 ⟨⟨r, rfl, hr⟩, hb7⟩
    have HB7 := Lib.hid (HL.out.1.trans (hb7.mono hsr))
    have HV7 := Lib.hid (HL.out.2.stays hb7)
    have hs7 := HB7.out.size
    have HR7 := Lib.hid hr
    clear hb7 hr ka
    cases r with
    | false =>
      go_wp2_with fail
      refine (HAW.out w7 HB7.out).mono ?_
      rintro e w9 ⟨rfl, hb9⟩
      have HB9 := Lib.hid (HB7.out.trans (hb9.mono hs7))
      clear hb9
      go_wp2_with fail
      go_ret
      exact ⟨rfl, HB9.out⟩
    | true =>
    have HNN := Lib.hid (HR7.out rfl)
    clear HR7
    go_wp2_with fail
    refine (HAX.out n _ HFN.out w7 (HNI.out w7 HB7.out)).mono ?_
    rintro e w8 ⟨⟨r, rfl, hr⟩, hb8⟩
    have HB8 := Lib.hid (HB7.out.trans (hb8.mono hs7))
    have HV8 := Lib.hid (HV7.out.stays hb8)
    have hs8 := HB8.out.size
    clear hb8 hr HV7
    cases r with
    | false =>
      go_wp2_with fail
      refine (HAW.out w8 HB8.out).mono ?_
      rintro e w9 ⟨rfl, hb9⟩
      have HB9 := Lib.hid (HB8.out.trans (hb9.mono hs8))
      clear hb9
      go_wp2_with fail
      go_ret
      exact ⟨rfl, HB9.out⟩
    | true =>
    have HTA := Lib.hid (HTR.out n _ HNN.out w8 HB8.out (HNI.out w8 HB8.out))
    have HRA := Lib.hid (HRD.out n HNN.out)
    have h5n := HNN.out.1
    have HFT := Lib.hid (show NameFits n from nameIs_fits HNN.out)
    generalize styleText s n = T2 at *
    go_wp2_with fail
    refine HTA.out.mono ?_
    rintro e w9 ⟨rfl, hb9⟩
    have HB9 := Lib.hid (HB8.out.trans (hb9.mono hs8))
    have HV9 := Lib.hid (HV8.out.stays hb9)
    have hs9 := HB9.out.size
    clear hb9 HTA HV8
    go_wp2_with fail
    refine (HRA.out w9 HB9.out).mono ?_
    rintro e w10 ⟨vn, rfl, hown10, hb10⟩
    have HB10 := Lib.hid (HB9.out.trans (hb10.mono hs9))
    have HV10 := Lib.hid (HV9.out.stays hb10)
    have HVN := Lib.hid hown10.in'
    have hs10 := HB10.out.size
    obtain ⟨ovn, cvn, rfl, -⟩ := HVN.out
    have HC1 := Lib.hid (fun (w2 : World) (h : Below w10.heap.size w10 w2) => And.intro (names_cmp _ _ m n w2 (HV10.out.stays h) (HVN.out.stays h) HFM.out HFT.out) (names_cmp _ _ n m w2 (HVN.out.stays h) (HV10.out.stays h) HFT.out HFM.out))
    have HAL := Lib.hid (fun (f : Bool) (w2 : World) (h : Below w.heap.size w w2) => And.intro (name_alike _ _ m n f w2 (HM.out.out.stays h) (HNI.out w2 h) HFM.out HFT.out) (And.intro (name_above _ _ _ _ m n f w2 (HM.out.out.stays h) (HNI.out w2 h) hcn HFM.out HFT.out) (name_above _ _ _ _ n m f w2 (HNI.out w2 h) (HM.out.out.stays h) hcap HFT.out HFM.out)))
    have hsym := namesEq_comm true n m
    unfold Cmp at HC1
    rw [hsym] at HC1
    have HALt := Lib.hid (HAL.out true)
    have HALf := Lib.hid (HAL.out false)
    clear HAL hsym
    generalize NC.namesEq false m n = k1 at HC1 HALf
    generalize NC.namesEq true m n = k2 at HC1 HALt
    generalize NC.above false m n = k3 at HC1 HALf
    generalize NC.above true m n = k4 at HC1 HALt
    generalize NC.namesEq false n m = j1 at HC1
    generalize NC.above false n m = j3 at HC1 HALf
    generalize NC.above true n m = j4 at HC1 HALt
    clear hb10 HRA HV9 hown10
    go_wp2_with fail
    refine (HC1.out w10 (Below.refl _ _)).1.mono ?_
    rintro e w11 ⟨rfl, hb11⟩
    have HBc11 := Lib.hid hb11
    have HB11 := Lib.hid (HB10.out.trans (hb11.mono hs10))
    have hs11 := HB11.out.size
    have hsc11 := hb11.size
    clear hb11
    go_wp2_with fail
    refine (HC1.out w11 HBc11.out).2.mono ?_
    rintro e w12 ⟨rfl, hb12⟩
    have HB12 := Lib.hid (HB11.out.trans (hb12.mono hs11))
    have HV12 := Lib.hid (HV10.out.stays (HBc11.out.trans (hb12.mono hsc11)))
    have hs12 := HB12.out.size
    clear hb12 HC1 HBc11 hsc11 HVN HV10
    go_wp2_with fail
    obtain ⟨W0, hW0, hbW0, hC0⟩ := cmp_boxes w12 k1 k2 k3 k4 j1 k2 j3 j4
    rw [← hW0]
    have HC0 := Lib.hid hC0
    have HBW := Lib.hid (HB12.out.trans (hbW0.mono hs12))
    have HVW := Lib.hid (HV12.out.stays hbW0)
    have hsW := HBW.out.size
    clear hW0 hbW0 hC0 HV12
    generalize hP : w12.heap.size = P at *
    clear hP
    refine (HALt.out W0 HBW.out).1.mono ?_
    rintro e w13 ⟨rfl, hb13⟩
    have HX13 := Lib.hid hb13
    have HB13 := Lib.hid (HBW.out.trans (hb13.mono hsW))
    have hs13 := HB13.out.size
    have hsx13 := hb13.size
    clear hb13
    go_wp2_with fail
    refine (HALt.out w13 HB13.out).2.1.mono ?_
    rintro e w14 ⟨rfl, hb14⟩
    have HX14 := Lib.hid (HX13.out.trans (hb14.mono hsx13))
    have HB14 := Lib.hid (HB13.out.trans (hb14.mono hs13))
    have hs14 := HB14.out.size
    clear hb14 HX13 hsx13 HB13 hs13
    go_upto_region 18 with (fail)
    go_cut [123] from 100 to 123 (fun t123 wx => t123 = .bool false ∧ Hid (Below W0.heap.size W0 wx))
    case first =>
      obtain ⟨c0, c1, c2, c3, c4, c5, c6, c7⟩ := HC0.out w14 HX14.out
      obtain ⟨d0, d1, d2, d3, d4, d5, d6, d7⟩ := HC0.out w14.drew HX14.out.drew
      have n2 : (k2 != k2) = false := by simp
      have n4 : (k4 != k4) = false := by simp
      have nj : (j4 != j4) = false := by simp
      have HD := Lib.hid (HALt.out w14.drew HB14.out.drew)
      have HXD := Lib.hid HX14.out.drew
      have hsx := HXD.out.size
      go_wp2_with fail
      go_region_with (go_at_call 35; refine (HALt.out _ HB14.out.drew).2.2.mono ?_; rintro e wn ⟨rfl, hbn⟩; have HXN := Lib.hid (HXD.out.trans (hbn.mono hsx)); clear hbn; obtain ⟨g0, g1, g2, g3, g4, g5, g6, g7⟩ := HC0.out wn HXN.out)
      all_goals
        go_wp2_with fail
        go_meet
        exact ⟨rfl, HXN⟩
    case rest =>
      obtain ⟨rfl, HX15⟩ := hcut
      have hsw := HX15.out.size
      have HB15 := Lib.hid (HBW.out.trans (HX15.out.mono hsW))
      have hs15 := HB15.out.size
      obtain ⟨c0, c1, c2, c3, c4, c5, c6, c7⟩ := HC0.out wc HX15.out
      have hfin : ∀ w2, Below W0.heap.size W0 w2 → Below w.heap.size w w2 ∧ NameIn w2 (.slice ovb m.length cvb) m := fun w2 h => ⟨HBW.out.trans (h.mono hsW), HVW.out.stays h⟩
      have HFIN := Lib.hid hfin
      clear hfin HX14 HB14 hs14 HFM HFT HNI HTR HRD
      go_upto_region 20 with (fail)
      go_cut [143] from 124 to 143 (fun t143 wx => t143 = .bool false ∧ wx = wc)
      case first =>
        have HXA := Lib.hid hl
        clear hl hi hlt t1 x0 x1 hs15 hsr hs7 hs8 hs9 hs10 hs11 hs12 hsW hsw hs6 hs5 hs4 hs3 hs2 hs1
        cases k4 with
        | false =>
          go_wp2_with fail
          go_meet
          exact ⟨rfl, rfl⟩
        | true =>
          by_cases hnm : n.length = m.length + 1
          · have hb : ((n.length : Int) == (m.length : Int) + 1) = true := by rw [beq_iff_eq]; omega
            clear hnm
            go_wp2_with fail
            go_meet
            exact ⟨rfl, rfl⟩
          · have hb : ((n.length : Int) == (m.length : Int) + 1) = false := by rw [beq_eq_false_iff_ne]; omega
            clear hnm
            go_wp2_with fail
            go_meet
            exact ⟨rfl, rfl⟩
      case rest =>
        obtain ⟨rfl, rfl⟩ := hcut
        go_wp2_with fail
        refine (HALf.out wc HB15.out).1.mono ?_
        rintro e w16 ⟨rfl, hb16⟩
        have HX16 := Lib.hid (HX15.out.trans (hb16.mono hsw))
        have HB16 := Lib.hid (HB15.out.trans (hb16.mono hs15))
        have hs16 := HX16.out.size
        clear hb16 c0 c1 c2 c3 c4 c5 c6 c7
        go_upto_region 23 with (fail)
        go_cut [158] from 147 to 158 (fun t158 wx => t158 = .bool false ∧ Hid (Below W0.heap.size W0 wx))
        case first =>
          have q1' : (k1 != k1) = false := by simp
          have q3' : (k3 != k3) = false := by simp
          obtain ⟨c0, c1, c2, c3, c4, c5, c6, c7⟩ := HC0.out w16 HX16.out
          obtain ⟨d0, d1, d2, d3, d4, d5, d6, d7⟩ := HC0.out w16.drew HX16.out.drew
          have HXD := Lib.hid HX16.out.drew
          go_wp2_with fail
          go_region_with (go_at_call 35; refine (HALf.out _ HB16.out.drew).2.1.mono ?_; rintro e wn ⟨rfl, hbn⟩; have HXN := Lib.hid (HXD.out.trans (hbn.mono hs16)); clear hbn; obtain ⟨g0, g1, g2, g3, g4, g5, g6, g7⟩ := HC0.out wn HXN.out)
          all_goals
            go_wp2_with fail
            go_meet
            exact ⟨rfl, HXN⟩
        case rest =>
          obtain ⟨rfl, HXN⟩ := hcut
          clear HX16 HB16 hs16 HX15 HB15 hs15
          go_wp2_with fail
          exact ⟨⟨i + 1, by go_num, by omega, Lib.hid (HFIN.out _ HXN.out)⟩, by simp [intOf]; omega⟩
end Go.Proofs.YtjmahgefijncaaaGreatFmt

/- Arguments that are lists of names, opened. -/
namespace Go.Proofs.YtjmahgefijncaaaGreatFmt
open Go Go.RowKit Go.ChangeShapes Go.WideShapes
section
variable {H : Type} {enc : TypeId × Value → H} {w : World} {base : Nat} {spare : Nat → Bool} {held : Bool}
set_option maxRecDepth 100000 in
theorem open_names {fuel : Nat} {u : Value} {x : DataW H × List MemPlace} (h : DataW.trod enc Tryz.prog w base spare held fuel 63 [u] = some x) :
    ∃ es : List Nm.Name, NamesIn w u es ∧ es.length ≤ maxLen ∧ ∀ n ∈ es, NameMax n := by
  rcases Deep.open_slice Tryz.underlying63 h with ⟨e, -⟩ | ⟨a, len, cap, m, n, D, Pl, e, -, hl, hm, hmm, -, hi⟩
  · simp only [List.cons.injEq, and_true] at e
    subst e
    exact ⟨[], ⟨none, 0, rfl, fun j s hj => by simp at hj⟩, Nat.zero_le _, by simp⟩
  · simp only [List.cons.injEq, and_true] at e
    subst e
    have hlm : len ≤ m := by rw [hmm]; split <;> omega
    have hel : ∀ i, i < len → ∃ ps : Nm.Name, (∃ on cn, w.cell? (a.add i) = some (.slice on ps.length cn) ∧ ps.length ≤ cn ∧ NameIn w (.slice on ps.length cn) ps) ∧ NameMax ps := by
      intro i hil
      obtain ⟨cs', hcs, ht⟩ := hi i (by omega)
      rw [cells_sname] at hcs
      obtain ⟨-, hcl, hat⟩ := World.cells?_some hcs
      obtain ⟨u0, rfl⟩ : ∃ u0, cs' = [u0] := by
        match cs', hcl with
        | [u0], _ => exact ⟨u0, rfl⟩
      obtain ⟨ps, h1, h2, h3⟩ := open_name ht
      have c0 := hat 0 (by omega)
      rw [Deep.add_add] at c0
      obtain ⟨on, cn, e, -⟩ := id h1
      subst e
      exact ⟨ps, ⟨on, cn, by simpa using c0, h3 _ _ _ rfl, h1⟩, h2⟩
    obtain ⟨l, hll, hP⟩ := list_of hel
    refine ⟨l, ⟨some a, cap, by rw [hll], fun j p hj => ?_⟩, by omega, fun p hp => ?_⟩
    · obtain ⟨⟨on, cn, c0, hc, hv⟩, -⟩ := hP j p hj
      obtain ⟨p0, ⟨on0, cn0, q0, _⟩, _⟩ := hel 0 (by have := (List.getElem?_eq_some_iff.1 hj).1; omega)
      have hsp := spot_none (a := a) (by simpa [Addr.add] using q0)
      refine ⟨a.block, a.off, on, cn, by cases a; simp only at hsp; subst hsp; rfl, ?_, hc, hv⟩
      rw [← add_at hsp]; exact c0
    · obtain ⟨i, hi2⟩ := List.getElem?_of_mem hp
      exact (hP i p hi2).2
theorem nameLen_of {n : Nm.Name} (h : NameMax n) : NameLen n := by
  have hmx : maxLen ≤ 9223372036854775807 := by decide
  exact ⟨Nat.le_trans h.1 hmx, fun ps hps => ⟨Nat.le_trans (h.2 ps hps).1 hmx, fun p hp => ⟨Nat.le_trans ((h.2 ps hps).2 p hp).1 hmx, Nat.le_trans ((h.2 ps hps).2 p hp).2 hmx⟩⟩⟩
end
end Go.Proofs.YtjmahgefijncaaaGreatFmt

/- The law FnNameScopes holds for every input, where the listed package-level variables start as the program's text lays them; fmt's texts are told. -/
namespace Go.Proofs.YtjmahgefijncaaaGreatFmt
open Go Go.ChangeShapes Go.WideShapes Go.ChangeAt Go.RowKit Go.Extern.Stop Go.Stop Go.Extern

set_option maxRecDepth 100000 in
theorem fnNameScopesContract (H : Type) (enc : TypeId × Value → H) (W : World) (base : Nat) (args : Array Value) (ds gs : List (DataW H)) (before : List MemPlace)
    (hval : ∀ (j : Nat) t v, Tryz.f8.params[j]? = some t → args[j]? = some v → Value.okWide Tryz.prog W .any base t v)
    (hW : DataW.Whole enc Tryz.prog Tryz.f8.params.toList Rows.fnNameScopesSpec.vars false W args.toList ds gs before) (hL : laidMetH Tryz.prog Rows.fnNameScopesRow.laid W) :
    Calls Tryz.prog 8 args W fun e W' => ∃ v, e = .returned v ∧ Rows.fnNameScopesSpec.post enc Tryz.prog Tryz.f8 false true false false W args v W' := by
  have hW' := hW
  obtain ⟨p, q, hA0, hV, rfl, hfz, hnd⟩ := hW
  have hA : DataW.TrodAll enc Tryz.prog W 0 (fun _ => true) true Tryz.f8.params.toList args.toList ds p := hA0
  rw [Tryz.params8] at hA hval
  obtain ⟨v0, vs0, d0, ds0, p0, q0, hvs0, rfl, rfl, h0, r0⟩ := trodAll_cons hA
  obtain ⟨v1, vs1, d1, ds1, p1, q1, hvs1, rfl, rfl, h1, r1⟩ := trodAll_cons r0
  obtain ⟨v2, vs2, d2, ds2, p2, q2, hvs2, rfl, rfl, h2, r2⟩ := trodAll_cons r1
  obtain ⟨rfl, rfl, rfl⟩ := trodAll_nil r2
  subst hvs2
  subst hvs1
  obtain rfl : args = #[v0, v1, v2] := Array.toList_inj.1 hvs0
  obtain ⟨rfl, rfl⟩ := trodVars_none hV
  have h0k := h0
  have h1k := h1
  have h2k := h2
  obtain ⟨a0, n0, c0, rfl⟩ := okWide_slice Tryz.underlying63 (hval 0 63 v0 (by simp) (by simp))
  obtain ⟨u0, hu0⟩ := h0
  obtain ⟨es, hN0, hM0, hM0'⟩ := open_names (u := .slice a0 n0 c0) (x := (d0, p0)) hu0
  obtain rfl : n0 = es.length := by obtain ⟨o', c', hv, _⟩ := hN0; injection hv
  obtain ⟨a1, n1, c1, rfl⟩ := okWide_slice Tryz.underlying22 (hval 1 22 v1 (by simp) (by simp))
  obtain ⟨u1, hu1⟩ := h1
  obtain ⟨nn, hN1, hM1, hC1⟩ := open_name (u := .slice a1 n1 c1) (x := (d1, p1)) hu1
  obtain rfl : n1 = nn.length := by obtain ⟨o', c', hv, _⟩ := hN1; injection hv
  obtain ⟨a2, n2, c2, rfl⟩ := okWide_slice Tryz.underlying51 (hval 2 51 v2 (by simp) (by simp))
  obtain ⟨st, hS2, hl2⟩ := open_style (v := .slice a2 n2 c2) ⟨_, _, _, rfl⟩ h2
  obtain rfl : n2 = st.length := by obtain ⟨o', c', hv, _⟩ := hS2; injection hv
  have hmx : maxLen ≤ 9223372036854775807 := by decide
  have hEnv : Env W.heap.size W := by
    have hL2 := hL
    rw [MakeChecks.laidMetH_plain _ _ _ (by kernel_rfl)] at hL2
    exact env_laid hL2.tail.tail.tail.tail.tail
  obtain ⟨ev, hev⟩ : ∃ ev, W.cell? ⟨1, 0, none⟩ = some ev := by
    have hL2 := hL
    rw [MakeChecks.laidMetH_plain _ _ _ (by kernel_rfl)] at hL2
    exact hex_len hL2.tail.tail.tail.tail.tail.tail.tail.tail
  clear hA0
  simp only [List.append_nil] at hW'
  have hlt := hW'.lt
  have hcall : Calls Tryz.prog 8 #[.slice a0 es.length c0, .slice a1 nn.length c1, .slice a2 st.length c2] W fun e w' => e = .returned (.bool true) ∧ Below W.heap.size W w' := by

    exact law_scopes es nn a0 a1 a2 c0 c1 c2 st W hN0 hN1 (hC1 _ _ _ rfl) hS2 (Nat.le_trans hM0 hmx) (fun n hn => nameLen_of (hM0' n hn)) (nameLen_of hM1) ev hev hEnv
  refine hcall.mono fun e W' ⟨he, hb⟩ => ?_
  subst he
  have hs100 : ∀ x ∈ p0, W.sameAt W' x := fun x hx => hb.same (hlt x (List.mem_append_left _ hx))
  have hs101 : ∀ x ∈ p1, W.sameAt W' x := fun x hx => hb.same (hlt x (List.mem_append_right _ (List.mem_append_left _ hx)))
  have hs102 : ∀ x ∈ p2, W.sameAt W' x := fun x hx => hb.same (hlt x (List.mem_append_right _ (List.mem_append_right _ hx)))
  refine ⟨_, rfl, post_below (pa := (p0 ++ (p1 ++ (p2 ++ [])))) (pv := []) hW' (fun _ _ _ => trodAll_cons_mk (shut_bool Tryz.underlying4 _) trodAll_mk0) (fun sp hsp => ?_) (fun _ _ => rfl) (by simp) hb (ok_one (by kernel_rfl) rfl (okWide_bool_mk Tryz.underlying4 _))⟩
  have hsp : ∀ x ∈ (p0 ++ (p1 ++ (p2 ++ []))), sp x.block = true := by simpa using hsp
  exact trodAll_cons_mk (WideElems.Trod_stays laid_outN (by kernel_rfl) (of_decide_eq_true (by kernel_rfl)) h0k hs100 (fun x hx => hsp x (List.mem_append_left _ hx))) (trodAll_cons_mk (WideElems.Trod_stays laid_outN (by kernel_rfl) (of_decide_eq_true (by kernel_rfl)) h1k hs101 (fun x hx => hsp x (List.mem_append_right _ (List.mem_append_left _ hx)))) (trodAll_cons_mk (WideElems.Trod_stays laid_outN (by kernel_rfl) (of_decide_eq_true (by kernel_rfl)) h2k hs102 (fun x hx => hsp x (List.mem_append_right _ (List.mem_append_right _ (List.mem_append_left _ hx))))) (trodAll_mk0)))

theorem fnNameScopesFits (os : Os) : (World.holding Tryz.prog os ⟨#[], #[], []⟩).layFits Tryz.prog Rows.fnNameScopesRow.laid [] = true := by kernel_rfl
theorem fnNameScopesIfaces (os : Os) : (World.holding Tryz.prog os ⟨#[], #[], []⟩).layIfaces Tryz.prog Rows.fnNameScopesRow.laid (World.laidAll Tryz.prog os Rows.fnNameScopesRow.laid) = true := by kernel_rfl

theorem fnNameScopesReads (os : Os) {H : Type} (enc : TypeId × Value → H) : ∃ places, DataW.whole enc Tryz.prog ((World.laidAll Tryz.prog os Rows.fnNameScopesRow.laid).forCall (fun _ _ => 0) ⟨#[], #[Value.slice none 0 0, Value.slice none 0 0, Value.slice none 0 0], []⟩).memory Tryz.f8.params.toList Rows.fnNameScopesSpec.vars false #[Value.slice none 0 0, Value.slice none 0 0, Value.slice none 0 0].toList 8 = some ([.nil, .nil, .nil], [], places) :=
  ⟨[], by kernel_rfl⟩

set_option maxRecDepth 100000 in
theorem fnNameScopesLifted (os : Os) (started : os.Started) (H : Type) (enc : TypeId × Value → H) :
    ReturnsInTold none {} Tryz.checked os 8 .any Input.okWide ((OpenSpec.ofChange Rows.fnNameScopesSpec).preRow enc Tryz.prog Tryz.f8 Rows.fnNameScopesRow.domain false Rows.fnNameScopesRow.laid) (fun F => ((OpenSpec.ofChange Rows.fnNameScopesSpec).at F).post enc Tryz.prog Tryz.f8 false true false false) (aloneAtReturn Tryz.prog) nothingAlways := by
  obtain ⟨places, hx⟩ := fnNameScopesReads os enc
  refine returnsInTold_of_row (C := Tryz.checked) (s := OpenSpec.ofChange Rows.fnNameScopesSpec) (by kernel_rfl) own_knobN started (by kernel_rfl) Tryz.func8
    (OpenSpec.witness_stopped_atRef (enc := enc) (C := Tryz.checked) false (World.laidAll Tryz.prog os Rows.fnNameScopesRow.laid) #[Value.slice none 0 0, Value.slice none 0 0, Value.slice none 0 0] (World.laidAll_os _ _ _) (by kernel_rfl) (by kernel_rfl) (by kernel_rfl)
      (OpenSpec.preRow_of_cond 8 hx (by kernel_rfl) (fun k hk => by cases hk) (by kernel_rfl) (laidMet_laidAll (laid := Rows.fnNameScopesRow.laid) _ (fnNameScopesFits os) (fnNameScopesIfaces os)))) ?_
  intro F W base args ds gs before _ _ hval hW _ _ _ hL _
  exact fnNameScopesContract H enc W base args ds gs before hval hW hL

theorem fnNameScopes_card : Rows.FnNameScopesToldSaid :=
  Claim7.holds_of_told_tied_any_at .later 8 Tryz.f8 "fmt.Sprintf" [] [] _ _ _ _ _ (by kernel_rfl) rfl rfl rfl laid_outN (by kernel_rfl) rfl ⟨rfl, rfl, rfl, rfl, rfl, rfl, rfl⟩ rfl rfl (by kernel_rfl) (by kernel_rfl) Tryz.func8 (by kernel_rfl)
    (of_decide_eq_true (by kernel_rfl)) (of_decide_eq_true (by kernel_rfl)) stopsN.symm rfl stopKnobsN.symm (by kernel_rfl)
    (by kernel_rfl) (by kernel_rfl) (by kernel_rfl) (by kernel_rfl) (by kernel_rfl) (by kernel_rfl) (by kernel_rfl) (by kernel_rfl) (by kernel_rfl) rfl (by kernel_rfl) rfl rfl
    rfl rfl
    rfl (by kernel_rfl) (by kernel_rfl) (by kernel_rfl) (by decide) (by kernel_rfl) fnNameScopes_row_tie
    (OpenClaim.moreEntering_of (by kernel_rfl) (by kernel_rfl) (by kernel_rfl) (by kernel_rfl) (by kernel_rfl) (by kernel_rfl) (by kernel_rfl) (by kernel_rfl) (by kernel_rfl) (by kernel_rfl))
    ⟨_, WideRow.started_initial, quietN _⟩
    (fun os started _ H enc _ => fnNameScopesLifted os started H enc)
end Go.Proofs.YtjmahgefijncaaaGreatFmt

