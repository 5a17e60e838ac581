/- The law FnNameTails, as a call. -/
import Derived.Test.YtjmahgefijncaaaGreatFmtNTt
import Derived.Test.YtjmahgefijncaaaGreatFmtNTl
import Derived.Test.YtjmahgefijncaaaGreatFmtNTo
import Derived.Test.YtjmahgefijncaaaGreatFmtNCd
import Derived.Test.YtjmahgefijncaaaGreatFmtAwakeN
namespace Go.Proofs.YtjmahgefijncaaaGreatFmt
open Go Go.RowKit

theorem nil_plain : NT.ValOK plainVal (stAt []) :=
  ⟨fun t h => by unfold plainVal; rw [if_neg h], fun ⟨k, hk⟩ => by
    have : stAt [] k = 0 := by unfold stAt; rw [if_pos rfl]
    rw [this] at hk; exact absurd hk (by decide)⟩
theorem bytes_nil (w : World) : BytesIn w (.slice none 0 0) [] := ⟨none, 0, rfl, fun j b h => by simp at h⟩

/-- The text of a name without a style. -/
def plainText (n : Nm.Name) : List UInt8 := (NT.nameText (stAt []) n false 0).1
theorem plain_text (v : Value) (n : Nm.Name) (h : NameIs n) (w : World) (hN : NameIn w v n) :
    Calls Tryz.prog 29 #[v, .slice none 0 0] w fun e w' => e = .returned (.string (Nm.bs (plainText n))) ∧ Below w.heap.size w w' := by
  have hl := NT.name_len (stAt []) n false 0 h.2
  have h5 := h.1
  exact text_any v (.slice none 0 0) n [] w hN (bytes_nil w) ⟨by omega, fun ps hps => nameIs_fits h |>.2 ps hps⟩ (by simp) _ _ rfl (by have hpt : (plainText n).length = (NT.nameText (stAt []) n false 0).1.length := rfl; omega) (by omega)
theorem plain_read (n : Nm.Name) (h : NameIs n) (w : World) (ev : Value) (hE : w.cell? ⟨1, 0, none⟩ = some ev) :
    Calls Tryz.prog 13 #[.string (Nm.bs (plainText n))] w fun e w' => ∃ v, e = .returned (.tuple #[v, .string ⟨#[]⟩]) ∧ NameOwn 71 70 w.heap.size w' v n ∧ Below w.heap.size w w' := by
  have hl := NT.name_len (stAt []) n false 0 h.2
  have h5 := h.1
  exact read_some plainVal plain_works (plainText n) (by have hpt : (plainText n).length = (NT.nameText (stAt []) n false 0).1.length := rfl; omega) n (NT.name_parse nil_plain n (NT.nameIs_ok h) 0) w ev hE

theorem nameIn_drop {w : World} {g off c k : Nat} {n : Nm.Name} (h : NameIn w (.slice (some ⟨g, off, none⟩) n.length c) n) (hk : k ≤ n.length) : NameIn w (.slice (some ⟨g, off + k, none⟩) (n.length - k) (c - k)) (n.drop k) := by
  obtain ⟨o', c', hv, h1⟩ := h
  injection hv with e1 _ e3
  refine ⟨_, _, by rw [List.length_drop], fun j ps hj => ?_⟩
  rw [List.getElem?_drop] at hj
  obtain ⟨b', off', u, h2, h3, h4⟩ := h1 (k + j) ps hj
  rw [← e1] at h2
  injection h2 with h2
  injection h2 with h2 h5
  subst h2 h5
  exact ⟨_, _, u, rfl, by rw [show off + k + j = off + (k + j) by omega]; exact h3, h4⟩

/-- The slice v holds the first m tails of n. -/
def TailsIn (w : World) (v : Value) (n : Nm.Name) (m : Nat) : Prop :=
  ∃ o cap, v = .slice o m cap ∧ ∀ j, j < m → ∃ b off u, o = some ⟨b, off, none⟩ ∧ w.cell? ⟨b, off + j, none⟩ = some u ∧ NameIn w u (n.drop j)
theorem TailsIn.stays {w w' : World} {v : Value} {n : Nm.Name} {m : Nat} (h : TailsIn w v n m) (k : Below w.heap.size w w') : TailsIn w' v n m := by
  obtain ⟨o, c, hv, h1⟩ := h
  refine ⟨o, c, hv, fun j hj => ?_⟩
  obtain ⟨b, off, u, e, c0, c1⟩ := h1 j hj
  exact ⟨b, off, u, e, (k.cell (World.block_lt_of_cell? w ⟨b, off + j, none⟩ c0)).trans c0, c1.stays k⟩

/-- While the tails are collected. -/
structure TlI (n : Nm.Name) (i : Nat) (v : Value) (vs : List Value) (w wr : World) : Prop where
  own : wr.ownsRow w.heap.size 26 1 v i vs
  each : ∀ j, j < i → ∃ u, vs[j]? = some u ∧ NameOwn 71 70 0 wr u (n.drop j)
  bel : Below w.heap.size w wr
def TlE (n : Nm.Name) (i : Nat) (v : Value) (w wr : World) : Prop := ∃ vs, TlI n i v vs w wr

theorem NameOwn.stays {e1 e2 : TypeId} {B : Nat} {w w' : World} {v : Value} {n : Nm.Name} (h : NameOwn e1 e2 B w v n) (k1 : ∀ (g : Nat) (c : Array Value), w.heap[g]? = some (Obj.cells c e1 (0, 0)) → w'.heap[g]? = w.heap[g]?) (k2 : ∀ (g : Nat) (c : Array Value), w.heap[g]? = some (Obj.cells c e2 (0, 0)) → w'.heap[g]? = w.heap[g]?) : NameOwn e1 e2 B w' v n := by
  obtain ⟨vs, h1, h2⟩ := h
  refine ⟨vs, ⟨h1.1, h1.2.imp id ?_⟩, h2.stays k2⟩
  rintro ⟨g, cap, cur, a1, a2, a3, a4⟩
  exact ⟨g, cap, cur, a1, a2, (k1 g _ a3).trans a3, a4⟩
theorem NameOwn.lower {e1 e2 : TypeId} {B B' : Nat} {w : World} {v : Value} {n : Nm.Name} (h : NameOwn e1 e2 B w v n) (hB : B' ≤ B) : NameOwn e1 e2 B' w v n := by
  obtain ⟨vs, h1, h2⟩ := h
  refine ⟨vs, ⟨h1.1, h1.2.imp id ?_⟩, rowsOwn_lower hB h2⟩
  rintro ⟨g, cap, cur, a1, a2, a3⟩
  exact ⟨g, cap, cur, a1, Nat.le_trans hB a2, a3⟩

theorem TlI.step {n : Nm.Name} {i : Nat} {v v' : Value} {vs : List Value} {w wr w2 w4 : World} {u : Value} {o : Obj} (h : TlI n i v vs w wr) (hb : Below wr.heap.size wr w2) (hu : NameOwn 71 70 wr.heap.size w2 u (n.drop i))
    (hown : w4.ownsRow w.heap.size 26 1 v' (i + 1) (vs ++ [u])) (hg : (w2.alloc o).grownBy w4 v.ownBlock) : TlI n (i + 1) v' (vs ++ [u]) w w4 := by
  have hl : vs.length = i := by have := h.own.1; omega
  have hv2 : w2.ownsRow w.heap.size 26 1 v i vs := owns_stays h.own (fun g hg => hb.block g (owns_lt h.own g hg))
  have hkeep : ∀ (e : TypeId), 26 ≠ e → ∀ (g : Nat) (c : Array Value), w2.heap[g]? = some (Obj.cells c e (0, 0)) → w4.heap[g]? = w2.heap[g]? := fun e he g c hc => by
    have hlt := blockLt hc
    rw [hg.block g (by simp; omega) (fun e2 => own_ne hv2 hc he e2.symm), Below.heap_alloc _ _ _ hlt]
  refine ⟨hown, fun j hj => ?_, ?_⟩
  · by_cases e : j = i
    · subst e
      exact ⟨u, by rw [List.getElem?_append_right (by omega), hl, Nat.sub_self]; rfl, (hu.lower (Nat.zero_le _)).stays (hkeep _ (by decide)) (hkeep _ (by decide))⟩
    · obtain ⟨x, hx, hn⟩ := h.each j (by omega)
      refine ⟨x, by rw [List.getElem?_append_left (by omega)]; exact hx, ?_⟩
      have h2 : NameOwn 71 70 0 w2 x (n.drop j) := hn.stays (fun g c hc => hb.block g (blockLt hc)) (fun g c hc => hb.block g (blockLt hc))
      exact h2.stays (hkeep _ (by decide)) (hkeep _ (by decide))
  · have h1 : Below w.heap.size w w2 := h.bel.trans (hb.mono h.bel.size)
    exact (h1.alloc (by have := h1.size; omega) o).grown hg (by have := h1.size; simp; omega) (fun k hk => (hv2.lt k hk).1)
theorem TlI.done {n : Nm.Name} {i : Nat} {v : Value} {vs : List Value} {w wr : World} (h : TlI n i v vs w wr) : TailsIn wr v n i := by
  obtain ⟨o, c, hv⟩ := owns_form h.own
  refine ⟨o, c, hv, fun j hj => ?_⟩
  obtain ⟨u, hu, hn⟩ := h.each j hj
  obtain ⟨g, c2, e1, e2⟩ := owns_cell2 h.own hu
  rw [hv] at e1
  injection e1 with a1 _ _
  exact ⟨g, 0, u, a1, by rw [Nat.zero_add]; exact e2, hn.in'⟩

theorem info_iname : ∃ i, Tryz.prog.info? 26 = some i ∧ i.zero = some (.slice none 0 0) ∧ i.size = 1 ∧ i.bytes = 24 := info_parts (by kernel_rfl)

/-- A name whose first value at k was written anew. -/
theorem chg_in {n : Nm.Name} {B : Nat} {v vk : Value} {vs : List Value} {w W : World} {k gk ck : Nat} {p : Nm.Part} {r : List Nm.Part} {x : List UInt8} (ho : w.ownsRow B 71 1 v n.length vs) (hrows : RowsOwn 70 B w vs n) (hap : Apart vs)
    (hn : n[k]? = some (p :: r)) (hv : vs[k]? = some vk) (hvk : vk = .slice (some ⟨gk, 0, none⟩) (p :: r).length ck) (hother : ∀ b, b < w.heap.size → b ≠ gk → W.heap[b]? = w.heap[b]?)
    (hnew : W.cell? ⟨gk, 1, none⟩ = some (.string (Nm.bs (p.2 ++ x)))) (hrest : ∀ o, o ≠ 1 → W.cell? ⟨gk, o, none⟩ = w.cell? ⟨gk, o, none⟩) : NameIn W v (NC.chg n k p r x) := by
  obtain ⟨vk2, hvk2, hpk⟩ := hrows.nth hn
  rw [hv] at hvk2
  obtain rfl := Option.some.inj hvk2
  have hkl : k < n.length := (List.getElem?_eq_some_iff.1 hn).1
  obtain ⟨o, c, hform⟩ := owns_form ho
  have hgk : vk.ownBlock = some gk := by rw [hvk]; rfl
  have hvne : v.ownBlock ≠ some gk := by
    obtain ⟨g', cap', cur, e1, _, hcur, _⟩ : ∃ g cap cur, vk = .slice (some ⟨g, 0, none⟩) (p :: r).length cap ∧ B ≤ g ∧ w.heap[g]? = some (.cells cur 70 (0, 0)) ∧ True := by
      rcases hpk.2 with ⟨h, h0⟩ | ⟨g, cap, cur, h, hb, hc, _⟩
      · simp at h0
      · exact ⟨g, cap, cur, h, hb, hc, trivial⟩
    rw [hvk] at e1
    injection e1 with e1 _ _
    injection e1 with e1
    injection e1 with e1 _ _
    subst e1
    exact own_ne ho hcur (by decide)
  refine ⟨o, c, by rw [hform]; unfold NC.chg; rw [List.length_set], fun j ps hj => ?_⟩
  by_cases hjk : j = k
  · subst hjk
    rw [NC.chg_get hkl] at hj
    obtain rfl := Option.some.inj hj
    obtain ⟨g, c2, e1, e2⟩ := owns_cell2 ho hv
    rw [hform] at e1
    injection e1 with e1 _ _
    have hg : g ≠ gk := fun e => hvne (by rw [hform, e1, e]; rfl)
    refine ⟨g, 0, vk, e1, by rw [Nat.zero_add]; exact (World.cell?_of_block (w := w) (hother g (World.block_lt_of_cell? w _ e2) hg)).trans e2, some ⟨gk, 0, none⟩, ck, by rw [hvk]; rfl, fun i q hi => ⟨gk, 0, rfl, ?_⟩⟩
    obtain ⟨o', c', hv', hcells⟩ := hpk.in'
    rw [hvk] at hv'
    injection hv' with hv' _ _
    cases i with
    | zero =>
      simp only [List.getElem?_cons_zero, Option.some.injEq] at hi
      subst hi
      obtain ⟨b, off, e3, e4, _⟩ := hcells 0 p rfl
      rw [← hv'] at e3
      injection e3 with e3
      injection e3 with e3 e5
      subst e3 e5
      exact ⟨(hrest _ (by omega)).trans e4, hnew⟩
    | succ i =>
      have hi2 : (p :: r)[i + 1]? = some q := by simpa using hi
      obtain ⟨b, off, e3, e4, e6⟩ := hcells (i + 1) q hi2
      rw [← hv'] at e3
      injection e3 with e3
      injection e3 with e3 e5
      subst e3 e5
      exact ⟨(hrest _ (by omega)).trans e4, (hrest _ (by omega)).trans e6⟩
  · have hj2 : n[j]? = some ps := by
      unfold NC.chg at hj
      rwa [List.getElem?_set_ne (fun e => hjk e.symm)] at hj
    obtain ⟨u, hu, hpu⟩ := hrows.nth hj2
    obtain ⟨g, c2, e1, e2⟩ := owns_cell2 ho hu
    rw [hform] at e1
    injection e1 with e1 _ _
    have hg : g ≠ gk := fun e => hvne (by rw [hform, e1, e]; rfl)
    have hpu2 : PartsOwn 70 B W u ps := owns_stays hpu (fun b hb => hother b (hpu.lt b hb) (fun e => hjk (hap j k u vk gk hu hv (by rw [hb, e]) hgk)))
    exact ⟨g, 0, u, e1, by rw [Nat.zero_add]; exact (World.cell?_of_block (w := w) (hother g (World.block_lt_of_cell? w _ e2) hg)).trans e2, hpu2.in'⟩

theorem chg_fits {n : Nm.Name} (h : NameIs n) {k : Nat} {p : Nm.Part} {r : List Nm.Part} (hk : n[k]? = some (p :: r)) (x : UInt8) : NameFits (NC.chg n k p r [x]) := by
  have hf := nameIs_fits h
  refine ⟨by unfold NC.chg; rw [List.length_set]; exact hf.1, fun ps hps => ?_⟩
  unfold NC.chg at hps
  rcases List.mem_or_eq_of_mem_set hps with h1 | h1
  · exact hf.2 ps h1
  · subst h1
    have h2 := h.2 _ (List.mem_of_getElem? hk)
    have h3 := hf.2 _ (List.mem_of_getElem? hk)
    refine ⟨by simpa using h3.1, fun q hq => ?_⟩
    rcases List.mem_cons.1 hq with rfl | hq
    · have := h2.2.2 p (List.mem_cons_self ..)
      obtain ⟨_, a, b, _⟩ := this
      refine ⟨by show p.1.length < _; omega, ?_⟩
      show (p.2 ++ [x]).length < _
      rw [List.length_append, List.length_singleton]; omega
    · exact h3.2 q (List.mem_cons_of_mem _ hq)

theorem cmp_field0 (W : World) (a b c d : Bool) : (Instr.field 55 (.agg #[.bool a, .bool b, .bool c, .bool d]) 0).run Tryz.prog W = .ok (.bool a) W := by
  simp [Instr.field, run_underlying Tryz.underlying55, asAgg, part, isAgg, run_underlying Tryz.underlying4, Result.andThen]
theorem cmp_field2 (W : World) (a b c d : Bool) : (Instr.field 55 (.agg #[.bool a, .bool b, .bool c, .bool d]) 2).run Tryz.prog W = .ok (.bool c) W := by
  simp [Instr.field, run_underlying Tryz.underlying55, asAgg, part, isAgg, run_underlying Tryz.underlying4, Result.andThen]

set_option maxRecDepth 100000 in
set_option maxHeartbeats 32000000 in
theorem law_tails (n : Nm.Name) (od : Option Addr) (cd : Nat) (at' c : UInt8) (w : World) (hA : NameIn w (.slice od n.length cd) n) (hcap : n.length ≤ cd) (hl : n.length ≤ 9223372036854775807) (hl2 : ∀ ps ∈ n, ps.length ≤ 9223372036854775807 ∧ ∀ p ∈ ps, p.1.length ≤ 9223372036854775807 ∧ p.2.length ≤ 9223372036854775807) (ev : Value) (hE : w.cell? ⟨1, 0, none⟩ = some ev) :
    Calls Tryz.prog 9 #[.slice od n.length cd, .int .u8 (at'.toNat : Int), .int .u8 (c.toNat : Int)] w fun e w' => e = .returned (.bool true) ∧ Below w.heap.size w w' := by
  have hgl : 1 < w.heap.size := World.block_lt_of_cell? w ⟨1, 0, none⟩ hE
  have HEV := Lib.hid (fun (w2 : World) (h : Below w.heap.size w w2) => (h.cell (p := ⟨1, 0, none⟩) hgl).trans hE)
  have HAW := Lib.hid (fun (w2 : World) (h : Below w.heap.size w w2) => awake_any w2 ev (HEV.out w2 h))
  have HFIT := Lib.hid (fits18_any _ n w hA hl hl2)
  have HA := Lib.hid hA
  have HIS := Lib.hid (fun (hf : NameFit n) (w2 : World) (h : Below w.heap.size w w2) => isname_any _ n w2 (hA.stays h) hf)
  clear hE hl2 hA
  go_enter Tryz.func9, Tryz.ntmps9
  go_wp2_with fail
  refine HFIT.out.mono ?_
  rintro e w1 ⟨⟨r, rfl, hr⟩, hb1⟩
  have HB1 := Lib.hid hb1
  have HR := Lib.hid hr
  have hs1 := hb1.size
  clear hb1 hr HFIT
  cases r with
  | false =>
    go_wp2_with fail
    go_ret
    exact ⟨rfl, HB1.out⟩
  | true =>
    have HFT := Lib.hid (HR.out rfl)
    clear HR
    go_wp2_with fail
    refine (HIS.out HFT.out w1 HB1.out).mono ?_
    rintro e w2 ⟨⟨r, rfl, hr⟩, hb2⟩
    have HB2 := Lib.hid (HB1.out.trans (hb2.mono hs1))
    have hs2 := HB2.out.size
    have HR := Lib.hid hr
    clear hb2 hr HIS
    cases r with
    | false =>
      go_wp2_with fail
      refine (HAW.out w2 HB2.out).mono ?_
      rintro e w3 ⟨rfl, hb3⟩
      have HB3 := Lib.hid (HB2.out.trans (hb3.mono hs2))
      clear hb3
      go_wp2_with fail
      go_ret
      exact ⟨rfl, HB3.out⟩
    | true =>
      have HIS := Lib.hid (HR.out rfl)
      have h5 := HIS.out.1
      clear HR
      by_cases hn0 : n.length < 1
      · have t1 : decide ((n.length : Int) < 1) = true := by simp; omega
        go_wp2_with fail
        refine (HAW.out w2 HB2.out).mono ?_
        rintro e w3 ⟨rfl, hb3⟩
        have HB3 := Lib.hid (HB2.out.trans (hb3.mono hs2))
        clear hb3
        go_wp2_with fail
        go_ret
        exact ⟨rfl, HB3.out⟩
      · have t1 : decide ((n.length : Int) < 1) = false := by simp; omega
        obtain ⟨g0, off0, rfl⟩ : ∃ g off, od = some ⟨g, off, none⟩ := by
          obtain ⟨o', c', hv, h1⟩ := HA.out
          injection hv with e1 _ _
          obtain ⟨b, off, _, h2, _⟩ := h1 0 _ (List.getElem?_eq_getElem (show 0 < n.length by omega))
          exact ⟨b, off, e1.trans h2⟩
        have HTX := Lib.hid (fun (m : Nm.Name) (hm : NameIs m) (v : Value) (w2 : World) (h : NameIn w2 v m) => plain_text v m hm w2 h)
        have HRD := Lib.hid (fun (m : Nm.Name) (hm : NameIs m) (w2 : World) (h : Below w.heap.size w w2) => plain_read m hm w2 ev (HEV.out w2 h))
        go_wp2_with fail
        refine (HTX.out n HIS.out _ w2 (HA.out.stays HB2.out)).mono ?_
        rintro e w3 ⟨rfl, hb3⟩
        have HB3 := Lib.hid (HB2.out.trans (hb3.mono hs2))
        have hs3 := HB3.out.size
        clear hb3
        go_wp2_with fail
        refine (HRD.out n HIS.out w3 HB3.out).mono ?_
        rintro e w4 ⟨vw, rfl, hown, hb4⟩
        have HB4 := Lib.hid (HB3.out.trans (hb4.mono hs3))
        have hs4 := HB4.out.size
        have HW := Lib.hid hown.in'
        clear hb4 hown
        go_wp2_with fail
        go_loopw [9, 42] (fun t9 t42 wr => ∃ (i : Nat) (o : Option Addr) (c : Nat), t42 = .int .i64 i ∧ t9 = .slice o i c ∧ i ≤ n.length ∧ Hid (TlE n i (.slice o i c) w4 wr)) (fun _ t42 _ => n.length - (intOf t42).toNat)
        case atStart => exact ⟨0, none, 0, rfl, rfl, Nat.zero_le _, Lib.hid ⟨[], owns_start _ _ _ _, fun j hj => absurd hj (Nat.not_lt_zero j), Below.refl _ _⟩⟩
        case round =>
          obtain ⟨i, o, ct, rfl, rfl, hi, HE⟩ := hrel
          obtain ⟨vs, hinv⟩ := HE.out
          have HI := Lib.hid hinv
          have hbr := HB4.out.trans (hinv.bel.mono hs4)
          have HBR := Lib.hid hbr
          have hsr := hbr.size
          have hsr4 := hinv.bel.size
          clear hinv hbr HE
          by_cases hend : i = n.length
          · subst hend
            have t2 : decide ((n.length : Int) < (n.length : Int)) = false := by simp
            have HTL := Lib.hid HI.out.done
            have HWR := Lib.hid (HW.out.stays HI.out.bel)
            have HCM := Lib.hid (fun (a b : Nm.Name) (ha : NameFits a) (hb : NameFits b) (va vb : Value) (w2 : World) (h1 : NameIn w2 va a) (h2 : NameIn w2 vb b) => names_cmp va vb a b w2 h1 h2 ha hb)
            clear HW HI HTX HRD hsr4
            obtain ⟨wT, rfl⟩ : ∃ wT, wT = wr := ⟨_, rfl⟩
            go_wp2_with fail
            go_loopw [62] (fun t62 wr => ∃ (i : Nat), t62 = .int .i64 i ∧ i ≤ n.length ∧ Hid (Below wT.heap.size wT wr)) (fun t62 _ => n.length - (intOf t62).toNat)
            case atStart => exact ⟨0, rfl, Nat.zero_le _, Lib.hid (Below.refl _ _)⟩
            case round =>
              clear t2
              obtain ⟨i, rfl, hi, HL⟩ := hrel
              have hsl := HL.out.size
              by_cases hend : i = n.length
              · subst hend
                have t2 : decide ((n.length : Int) < (n.length : Int)) = false := by simp
                have hbe := HBR.out.trans (HL.out.mono hsr)
                have HBE := Lib.hid hbe
                have hse := hbe.size
                have hTO := name_to _ n wr (HA.out.stays hbe) (by omega) (fun ps hps => (nameIs_fits HIS.out).2 ps hps |>.1)
                have HTO := Lib.hid hTO
                have hnpos : 0 < n.length := by omega
                obtain ⟨k, hkd⟩ : ∃ k : Nat, k = at'.toNat % n.length := ⟨_, rfl⟩
                have hk1 : (at'.toNat : Int).tmod (n.length : Int) = (k : Int) := by rw [Int.tmod_eq_emod_of_nonneg (by omega), hkd]; exact (Int.natCast_emod ..).symm
                have hk2 : (at'.toNat : Int) % (n.length : Int) = (k : Int) := by rw [hkd]; exact (Int.natCast_emod ..).symm
                have hkl : k < n.length := by rw [hkd]; exact Nat.mod_lt _ hnpos
                have hd0 : (n.length : Int) ≠ 0 := by omega
                have hal := UInt8.toNat_lt at'
                clear hbe hTO hkd
                go_wp2_with fail
                refine HTO.out.mono ?_
                rintro e w8 ⟨vc, rfl, hapn, hb8⟩
                have HB8 := Lib.hid (HBE.out.trans (hb8.mono hse))
                have HL8 := Lib.hid (HL.out.trans (hb8.mono hsl))
                obtain ⟨vs2, hown, hrows, hapart⟩ := hapn
                obtain ⟨prs, hps⟩ : ∃ ps, n[k]? = some ps := ⟨_, List.getElem?_eq_getElem hkl⟩
                have hprs := HIS.out.2 prs (List.mem_of_getElem? hps)
                obtain ⟨p, r, rfl⟩ : ∃ p r, prs = p :: r := by
                  cases prs with
                  | nil => have := hprs.1; simp at this
                  | cons p r => exact ⟨p, r, rfl⟩
                obtain ⟨vk, hvk, hpk⟩ := hrows.nth hps
                obtain ⟨gc, cc, rfl⟩ : ∃ gc cc, vc = .slice (some ⟨gc, 0, none⟩) n.length cc := by
                  obtain ⟨g, c2, e1, _⟩ := owns_cell2 hown hvk
                  exact ⟨g, c2, e1⟩
                obtain ⟨gk, ck, cur, rfl, hgkc⟩ : ∃ gk ck cur, vk = .slice (some ⟨gk, 0, none⟩) (p :: r).length ck ∧ w8.heap[gk]? = some (.cells cur 70 (0, 0)) := by
                  rcases hpk.2 with ⟨h, h0⟩ | ⟨g, cap, cur, h, hb, hc, _⟩
                  · simp at h0
                  · exact ⟨g, cap, cur, h, hc⟩
                have kc : w8.cell? ⟨gc, k, none⟩ = some (.slice (some ⟨gk, 0, none⟩) (p :: r).length ck) := by
                  obtain ⟨g, c2, e1, e2⟩ := owns_cell2 hown hvk
                  injection e1 with e1 _ _
                  injection e1 with e1
                  injection e1 with e1 _ _
                  rw [e1]; exact e2
                have k01 : w8.cell? ⟨gk, 0, none⟩ = some (.string (Nm.bs p.1)) ∧ w8.cell? ⟨gk, 1, none⟩ = some (.string (Nm.bs p.2)) := by
                  obtain ⟨o', c', hv', hcells⟩ := hpk.in'
                  injection hv' with hv' _ _
                  obtain ⟨b, off, e3, e4, e6⟩ := hcells 0 p rfl
                  rw [← hv'] at e3
                  injection e3 with e3
                  injection e3 with e3 e5
                  subst e3 e5
                  exact ⟨by simpa using e4, by simpa using e6⟩
                obtain ⟨m26, hm26⟩ : ∃ m26 : Nat, m26 = c.toNat % 26 := ⟨_, rfl⟩
                have hcl := UInt8.toNat_lt c
                have r1 : (c.toNat : Int).tmod 26 = (m26 : Int) := by rw [Int.tmod_eq_emod_of_nonneg (by omega)]; omega
                have r2 : (c.toNat : Int) % 26 = (m26 : Int) := by omega
                have hm26l : m26 < 26 := by omega
                obtain ⟨x, hx⟩ : ∃ x : UInt8, x = (97 + m26).toUInt8 := ⟨_, rfl⟩
                have hxn : (97 : Int) + (m26 : Int) = (x.toNat : Int) := by rw [hx, toNat_u8 (by omega)]; omega
                have hxs : IntKind.u8.wrap ((97 : Int) + (m26 : Int)) = (x.toNat : Int) := by rw [IntKind.wrap_u8, hxn]; have := UInt8.toNat_lt x; omega
                have hap := bs_app p.2 [x]
                have hp20 := (hprs.2.2 p (List.mem_cons_self ..)).2.2.1
                have hz1 := bs_size p.2
                have hz2 : (Nm.bs [x]).size = 1 := rfl
                have hnov : ¬ 9223372036854775807 < p.2.length + 1 := by omega
                have hcv : ∀ W : World, W.heap[w8.heap.size]? = some (.cells #[.int .u8 (x.toNat : Int)] 5 (0, 0)) → (convert 51 9 (.slice (some ⟨w8.heap.size, 0, none⟩) 1 1)).run Tryz.prog W = .ok (.string (Nm.bs [x])) W := by
                  intro W hW
                  exact run_convert_bytes_back W 51 9 5 ⟨w8.heap.size, 0, none⟩ 1 [x] Tryz.underlying51 Tryz.underlying5 Tryz.underlying9 (by
                    intro j hj
                    match j, hj with
                    | 0, _ => exact blockCell hW 0)
                have hnw := heap_alloc_new w8 (.cells #[.int .u8 (x.toNat : Int)] 5 (0, 0))
                have hc1 := hcv (w8.drew.alloc (.cells #[.int .u8 (x.toNat : Int)] 5)) hnw
                have hc2 := hcv (w8.alloc (.cells #[.int .u8 (x.toNat : Int)] 5)) hnw
                have hc3 := hcv (w8.alloc (.cells #[.int .u8 (x.toNat : Int)] 5)).drew hnw
                have hgkl := blockLt hgkc
                have hgcl := World.block_lt_of_cell? w8 _ kc
                have hold : ∀ (b o : Nat) (u : Value), w8.cell? ⟨b, o, none⟩ = some u → (w8.alloc (.cells #[.int .u8 (x.toNat : Int)] 5 (0, 0))).cell? ⟨b, o, none⟩ = some u := fun b o u h => cell_alloc h _
                have kc2 := hold _ _ _ kc
                have k02 := hold _ _ _ k01.1
                have k12 := hold _ _ _ k01.2
                have k11 := k01.2
                have k00 := k01.1
                have hgk2 : (w8.alloc (.cells #[.int .u8 (x.toNat : Int)] 5 (0, 0))).heap[gk]? = some (.cells cur 70 (0, 0)) := (Below.heap_alloc _ _ _ hgkl).trans hgkc
                have kf := blockFrozen hgk2 1
                have kf0 := blockFrozen hgkc 1
                have kk0 : (0 : Int) ≤ (k : Int) := by omega
                have kk1 : (k : Int) < (n.length : Int) := by omega
                have hl0 : (0 : Int) < ((p :: r).length : Int) := by simp
                have hgkb : wr.heap.size ≤ gk := hpk.base rfl
                obtain ⟨W9, hW9⟩ : ∃ W9, W9 = ((w8.setCell ⟨gk, 1, none⟩ (.string (Nm.bs (p.2 ++ [x])))).alloc (.cells #[.int .u8 (x.toNat : Int)] 5 (0, 0))).drew := ⟨_, rfl⟩
                have hsetsz : (w8.setCell ⟨gk, 1, none⟩ (.string (Nm.bs (p.2 ++ [x])))).heap.size = w8.heap.size := by simp [World.setCell]
                have hset := blockSet hgkc 1 (.string (Nm.bs (p.2 ++ [x])))
                have hchg : NameIn W9 (.slice (some ⟨gc, 0, none⟩) n.length cc) (NC.chg n k p r [x]) := by
                  refine chg_in (W := W9) hown hrows hapart hps hvk rfl (fun b hb hne => ?_) ?_ (fun o ho => ?_)
                  · rw [hW9]
                    show ((w8.setCell ⟨gk, 1, none⟩ (.string (Nm.bs (p.2 ++ [x])))).alloc _).heap[b]? = _
                    rw [Below.heap_alloc _ _ _ (by rw [hsetsz]; exact hb), Below.heap_setCell _ _ _ _ hne]
                  · rw [hW9]
                    have e : ((w8.setCell ⟨gk, 1, none⟩ (.string (Nm.bs (p.2 ++ [x])))).alloc (.cells #[.int .u8 (x.toNat : Int)] 5 (0, 0))).drew.heap[gk]? = _ := (Below.heap_alloc _ _ _ (by rw [hsetsz]; exact hgkl)).trans hset
                    rw [blockCell e 1]
                    have h1s : 1 < cur.size := by
                      have := blockCell hgkc 1
                      rw [k01.2] at this
                      exact (Array.getElem?_eq_some_iff.1 this.symm).1
                    simp [h1s]
                  · rw [hW9]
                    have e : ((w8.setCell ⟨gk, 1, none⟩ (.string (Nm.bs (p.2 ++ [x])))).alloc (.cells #[.int .u8 (x.toNat : Int)] 5 (0, 0))).drew.heap[gk]? = _ := (Below.heap_alloc _ _ _ (by rw [hsetsz]; exact hgkl)).trans hset
                    rw [blockCell e o, blockCell hgkc o, Array.getElem?_setIfInBounds, if_neg (fun h => ho h.symm)]
                have hb9 : Below wT.heap.size wT W9 := by
                  rw [hW9]
                  exact (((HL8.out.setCell (p := ⟨gk, 1, none⟩) (by show wT.heap.size ≤ gk; omega) _).alloc (by rw [hsetsz]; have := HL8.out.size; omega) _).drew)
                have HC9 := Lib.hid hchg
                have HB9 := Lib.hid hb9
                have HPS := Lib.hid hps
                clear hold hcv hnw k01 hx hm26 hchg hb9 hset hsetsz hps hown hrows hapart hvk hpk hprs HTO
                go_wp2_with fail
                go_region
                rw [← hW9]
                clear hW9 hc1 hc2 hc3 kc kc2 k02 k12 k11 k00 hgk2 hgkc kf kf0 r1 r2 hxn hxs hap hz1 hz2 hnov hk1 hk2 HL8 HB8
                have hs9 := HB9.out.size
                go_wp2_with fail
                go_loopw [110] (fun t110 wr => ∃ (i : Nat), t110 = .int .i64 i ∧ i ≤ n.length ∧ Hid (Below W9.heap.size W9 wr)) (fun t110 _ => n.length - (intOf t110).toNat)
                case atStart => exact ⟨0, rfl, Nat.zero_le _, Lib.hid (Below.refl _ _)⟩
                case round =>
                  clear t2
                  obtain ⟨i, rfl, hi, HM⟩ := hrel
                  have hsm := HM.out.size
                  have HTM := Lib.hid (HTL.out.stays (HB9.out.trans (HM.out.mono hs9)))
                  have HBM := Lib.hid ((HBR.out.trans (HB9.out.mono hsr)).trans (HM.out.mono (by omega)))
                  by_cases hend : i = n.length
                  · subst hend
                    have t2 : decide ((n.length : Int) < (n.length : Int)) = false := by simp
                    obtain ⟨o', c', hv, htl⟩ := HTM.out
                    injection hv with e1 _ e3
                    subst e1 e3
                    obtain ⟨b1, f1, u0, rfl, c0, hn0'⟩ := htl 0 hnpos
                    rw [List.drop_zero] at hn0'
                    have HC := Lib.hid (HCM.out n n (nameIs_fits HIS.out) (nameIs_fits HIS.out) vw u0 wr (HWR.out.stays (HB9.out.trans (HM.out.mono hs9))) hn0')
                    unfold Cmp at HC
                    rw [NC.namesEq_refl] at HC
                    have hfd := fun (W : World) (b c d : Bool) => cmp_field0 W true b c d
                    have hl00 : (0 : Int) < (n.length : Int) := by omega
                    have c0' : wr.cell? ⟨b1, f1, none⟩ = some u0 := by simpa using c0
                    obtain ⟨ow, cw, rfl⟩ : ∃ ow cw, vw = .slice ow n.length cw := by obtain ⟨a, b, h, _⟩ := HWR.out; exact ⟨a, b, h⟩
                    clear htl hn0' c0
                    go_wp2_with fail
                    refine HC.out.mono ?_
                    rintro e w5 ⟨rfl, hb5⟩
                    have HB5 := Lib.hid (HBM.out.trans (hb5.mono (HBM.out.size)))
                    have hs5 := HB5.out.size
                    clear hb5 HC
                    go_wp2_with fail
                    refine (HAW.out w5 HB5.out).mono ?_
                    rintro e w6 ⟨rfl, hb6⟩
                    have HB6 := Lib.hid (HB5.out.trans (hb6.mono hs5))
                    clear hb6
                    go_wp2_with fail
                    go_ret
                    exact ⟨rfl, HB6.out⟩
                  · have hlt : i < n.length := by omega
                    have t2 : decide ((i : Int) < (n.length : Int)) = true := by simp; omega
                    obtain ⟨o', c', hv, htl⟩ := HTM.out
                    injection hv with e1 _ e3
                    subst e1 e3
                    obtain ⟨b1, f1, ui, rfl, ci, hni⟩ := htl i hlt
                    have i0 : (0 : Int) ≤ (i : Int) := by omega
                    have i1 : (i : Int) < (n.length : Int) := by omega
                    have HC := Lib.hid (HCM.out (n.drop i) (NC.chg n k p r [x]) (nameIs_fits (nameIs_drop HIS.out i)) (chg_fits HIS.out HPS.out x) ui _ wr hni (HC9.out.stays HM.out))
                    unfold Cmp at HC
                    rw [NC.above_chg HPS.out hlt (by simp), NC.eq_chg HPS.out hlt (by simp)] at HC
                    generalize NC.namesEq true (n.drop i) (NC.chg n k p r [x]) = r2 at *
                    generalize NC.above true (n.drop i) (NC.chg n k p r [x]) = r4 at *
                    have hxx : (decide (k < i) != decide (k < i)) = false := by simp
                    clear htl hni hend
                    go_wp2_with fail
                    refine HC.out.mono ?_
                    rintro e w5 ⟨rfl, hb5⟩
                    have HQ := Lib.hid ((HM.out.trans (hb5.mono hsm)).alloc (by have := (HM.out.trans (hb5.mono hsm)).size; omega) (.cells #[.bool false, .bool r2, .bool (decide (k < i)), .bool r4] 55 (0, 0)))
                    have hnewc := heap_alloc_new w5 (.cells #[.bool false, .bool r2, .bool (decide (k < i)), .bool r4] 55 (0, 0))
                    have cc0 := blockCell hnewc 0
                    have cc2 := blockCell hnewc 2
                    clear hb5 HC hnewc
                    go_wp2_with fail
                    exact ⟨⟨i + 1, by go_num, by omega, HQ⟩, by simp [intOf]; omega⟩
              · have hlt : i < n.length := by omega
                have t2 : decide ((i : Int) < (n.length : Int)) = true := by simp; omega
                obtain ⟨wo, rfl⟩ : ∃ wo, wo = wr := ⟨_, rfl⟩
                go_wp2_with fail
                go_loopw [67] (fun t67 wr => ∃ (k : Nat), t67 = .int .i64 k ∧ k ≤ n.length ∧ Hid (Below wT.heap.size wT wr)) (fun t67 _ => n.length - (intOf t67).toNat)
                case atStart => exact ⟨0, rfl, Nat.zero_le _, HL⟩
                case round =>
                  clear t2
                  obtain ⟨k, rfl, hk, HL2⟩ := hrel
                  have hsl2 := HL2.out.size
                  by_cases hke : k = n.length
                  · subst hke
                    have t3 : decide ((n.length : Int) < (n.length : Int)) = false := by simp
                    go_wp2_with fail
                    exact ⟨⟨i + 1, by go_num, by omega, HL2⟩, by simp [intOf]; omega⟩
                  · have hkl : k < n.length := by omega
                    have t3 : decide ((k : Int) < (n.length : Int)) = true := by simp; omega
                    obtain ⟨o', c', hv, htl⟩ := HTL.out.stays HL2.out
                    injection hv with e1 _ e3
                    subst e1 e3
                    obtain ⟨b1, f1, ui, rfl, ci, hni⟩ := htl i hlt
                    obtain ⟨b2, f2, uk, hbk, ck, hnk⟩ := htl k hkl
                    injection hbk with hbk
                    injection hbk with hbk1 hbk2
                    subst hbk1 hbk2
                    have i0 : (0 : Int) ≤ (i : Int) := by omega
                    have i1 : (i : Int) < (n.length : Int) := by omega
                    have k0 : (0 : Int) ≤ (k : Int) := by omega
                    have k1 : (k : Int) < (n.length : Int) := by omega
                    have hq : decide ((k : Int) > (i : Int)) = decide (i < k) := by rw [Bool.eq_iff_iff, decide_eq_true_iff, decide_eq_true_iff]; omega
                    have HC := Lib.hid (HCM.out (n.drop k) (n.drop i) (nameIs_fits (nameIs_drop HIS.out k)) (nameIs_fits (nameIs_drop HIS.out i)) uk ui wr.drew hnk hni)
                    unfold Cmp at HC
                    rw [NC.above_tails false n hlt hkl] at HC
                    have hfd := fun (W : World) (a b d : Bool) => cmp_field2 W a b (decide (i < k)) d
                    have hxx : (decide (i < k) != decide (i < k)) = false := by simp
                    generalize NC.namesEq false (n.drop k) (n.drop i) = r1 at *
                    generalize NC.namesEq true (n.drop k) (n.drop i) = r2 at *
                    generalize NC.above true (n.drop k) (n.drop i) = r4 at *
                    clear htl hni hnk hke hend
                    go_wp2_with fail
                    go_region_law (first
                      | (go_simp; go_at_call 30; refine HC.out.mono ?_; rintro e w5 ⟨rfl, hb5⟩; have HQ := Lib.hid (HL2.out.trans ((Below.drew (Below.refl _ wr) |>.trans hb5).mono hsl2)); clear hb5; go_wp2_with fail))
                    all_goals
                      clear HC hfd
                      go_wp2_with fail
                      exact ⟨⟨k + 1, by go_num, by omega, HQ⟩, by simp [intOf]; omega⟩
          · have hlt : i < n.length := by omega
            have t2 : decide ((i : Int) < (n.length : Int)) = true := by simp; omega
            have i0 : (0 : Int) ≤ (i : Int) := by omega
            have i1 : (i : Int) ≤ (n.length : Int) := by omega
            have hci : ¬ cd = i := by omega
            have hdn := nameIn_drop (HA.out.stays HBR.out) hi
            have hdi := nameIs_drop HIS.out i
            have HD := Lib.hid hdn
            have HDI := Lib.hid hdi
            clear hdn hdi
            go_wp2_with fail
            refine (HTX.out (n.drop i) HDI.out _ wr HD.out).mono ?_
            rintro e w5 ⟨rfl, hb5⟩
            have HB5 := Lib.hid hb5
            have hs5 := hb5.size
            clear hb5
            go_wp2_with fail
            refine (HRD.out (n.drop i) HDI.out w5 (HBR.out.trans (HB5.out.mono hsr))).mono ?_
            rintro e w6 ⟨u, rfl, hown, hb6⟩
            have HB6 := Lib.hid (HB5.out.trans (hb6.mono hs5))
            have hs6 := hb6.size
            have HU := Lib.hid (hown.lower hs5)
            clear hown hb6
            obtain ⟨j0, hj0, hjz0, hjz1, hjz2⟩ := info_iname
            obtain ⟨uo, uc, rfl⟩ : ∃ uo uc, u = .slice uo (n.drop i).length uc := by obtain ⟨_, h1, _⟩ := HU.out; exact owns_form h1
            generalize (n.drop i).length = dl at *
            obtain ⟨u, hu⟩ : ∃ u, u = Value.slice uo dl uc := ⟨_, rfl⟩
            rw [← hu] at HU
            have hownW : (w6.alloc (.cells #[u] 26 (0, 0))).ownsRow w4.heap.size 26 1 (.slice o i ct) i vs := (owns_stays HI.out.own (fun g hg => HB6.out.block g (owns_lt HI.out.own g hg))).alloc _
            have hnews : ∀ k x, ([u] : List Value)[k]? = some x → (w6.alloc (.cells #[u] 26 (0, 0))).cell? ((⟨w6.heap.size, 0, none⟩ : Addr).add k) = some x :=
              fun k x hk => World.news_of_block (B := w6.heap.size) (heap_alloc_new w6 _) k x (by simpa using hk)
            have h1c : ∀ x ∈ ([u] : List Value), x.oneCell' = true := by intro x hx; simp at hx; subst hx; rw [hu]; rfl
            have h63 : i + 1 ≤ maxLen := by simp only [maxLen]; omega
            have hby : (i + 1) * 24 ≤ 140737488355328 := by omega
            rw [hu] at hownW hnews h1c HU
            clear hu
            go_wp2_with (at_builtin; go_loud (refine wpList_append_lies _ (by rfl) _ _ _ (by rfl) w4.heap.size 26 j0 (.slice none 0 0) 1 24 Tryz.underlying67 hj0 hjz0 hjz1 hjz2 rfl (by decide) (.slice o i ct) i vs (by rfl) hownW ⟨w6.heap.size, 0, none⟩ 1 1 [.slice uo dl uc] (by rfl) rfl hnews h1c (by decide) h63 hby (by have := HB6.out.size; simp; omega) (w6.heap.size + 1) (by simp) ?_))
            intro g' cap w7 hown' hgr hat hlt'
            have hst := HI.out.step HB6.out HU.out hown' hgr
            have HST : Hid (TlE n (i + 1) (.slice (some ⟨g', 0, none⟩) (i + 1) cap) w4 w7) := Lib.hid ⟨_, hst⟩
            clear hst hown' hgr hat hnews h1c hownW
            go_wp2_with fail
            exact ⟨⟨i + 1, _, _, by go_num, rfl, by omega, HST⟩, by simp [intOf]; omega⟩
end Go.Proofs.YtjmahgefijncaaaGreatFmt
