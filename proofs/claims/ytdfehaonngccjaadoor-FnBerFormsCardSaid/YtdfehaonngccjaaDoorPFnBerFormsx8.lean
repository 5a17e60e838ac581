-- PRINTED BY print.sh 35421559b90ae4d0a3588c463048766b98c2df88dd9212a6774a882060cdf62d: not written by this session
import Derived.Test.YtdfehaonngccjaaDoorPFnBerFormsx0
namespace Go.Proofs.YtdfehaonngccjaaDoor.PFnBerForms
open Go.RowKit Go.Proofs.YtdfehaonngccjaaDoorW.PrintWords Go.Proofs.YtdfehaonngccjaaDoorW.PrintLast Go.Proofs.YtdfehaonngccjaaDoorW.PrintMore
attribute [local go_sem] max2_int min2_int max_two min_two max_three min_three max_four min_four   -- for this text's walks alone
set_option linter.unusedVariables false
set_option linter.unusedSimpArgs false

/-! ### spec_BerTag: function 35 -/
mutual
def spec_BerTag.j0 : Nat → Int → Int → Bool → Int → ByteArray → List (S26) → Option (ByteArray)
  | 0, _, _, _, _, _, _ => none
  | k + 1, x3, x207000, x207001, x207002, x207003, x207004 => if x207002 < 31 then (some (strOfNums (([Go.bits .or .u8 x3 ((x207002) % 256)] : List Int)))) else (spec_BerTag.l0 k x3 (strOfNums (([(Go.bits .and .u64 x207002 127) % 256] : List Int))) (x207002 / 128))
def spec_BerTag.l0 : Nat → Int → ByteArray → Int → Option (ByteArray)
  | 0, _, _, _ => none
  | k + 1, x3, x4, x5 => if x5 > 0 then ((some (([Go.bits .or .u8 ((Go.bits .and .u64 x5 127) % 256) 128] : List Int) : List Int)).bind fun y213 => (if (strOfNums y213).size + x4.size ≤ 9223372036854775807 then (spec_BerTag.l0 k x3 ((strOfNums y213) ++ x4) (x5 / 128)) else (none))) else ((some (([Go.bits .or .u8 x3 31] : List Int) : List Int)).bind fun y216 => (if (strOfNums y216).size + x4.size ≤ 9223372036854775807 then (some ((strOfNums y216) ++ x4)) else (none)))
end
def spec_BerTag.f (k : Nat) (a0_0 : Int) (a0_1 : Bool) (a0_2 : Int) (a0_3 : ByteArray) (l0_4 : List (S26)) : Option (ByteArray) := if a0_1 = true then (spec_BerTag.j0 k (Go.bits .or .u8 ((a0_0 * 64) % 256) 32) a0_0 a0_1 a0_2 a0_3 l0_4) else (spec_BerTag.j0 k ((a0_0 * 64) % 256) a0_0 a0_1 a0_2 a0_3 l0_4)
theorem spec_BerTag.mono_l : ∀ k, (∀ y0 y1 y2 y3 y4 y5, LeO (spec_BerTag.j0 k y0 y1 y2 y3 y4 y5) (spec_BerTag.j0 (k + 1) y0 y1 y2 y3 y4 y5)) ∧ (∀ y0 y1 y2, LeO (spec_BerTag.l0 k y0 y1 y2) (spec_BerTag.l0 (k + 1) y0 y1 y2))
  | 0 => ⟨fun _ _ _ _ _ _ r h => by simp [spec_BerTag.j0] at h, fun _ _ _ r h => by simp [spec_BerTag.l0] at h⟩
  | k + 1 => by
    obtain ⟨ih0, ih1⟩ := spec_BerTag.mono_l k
    refine ⟨?_, ?_⟩
    · intro y0 y1 y2 y3 y4 y5
      unfold spec_BerTag.j0
      repeat' first
      | (with_reducible exact ih0 _ _ _ _ _ _)
      | (with_reducible exact ih1 _ _ _)
      | (with_reducible exact LeO.refl _)
      | (with_reducible exact LeO.none _)
      | (with_reducible refine LeO.ite ?_ ?_)
      | (with_reducible refine LeO.bind ?_ (fun _ => ?_))
      | exact ih0 _ _ _ _ _ _
      | exact ih1 _ _ _
      | exact LeO.none _
      | refine LeO.ite ?_ ?_
      | refine LeO.bind ?_ (fun _ => ?_)
    · intro y0 y1 y2
      unfold spec_BerTag.l0
      repeat' first
      | (with_reducible exact ih0 _ _ _ _ _ _)
      | (with_reducible exact ih1 _ _ _)
      | (with_reducible exact LeO.refl _)
      | (with_reducible exact LeO.none _)
      | (with_reducible refine LeO.ite ?_ ?_)
      | (with_reducible refine LeO.bind ?_ (fun _ => ?_))
      | exact ih0 _ _ _ _ _ _
      | exact ih1 _ _ _
      | exact LeO.none _
      | refine LeO.ite ?_ ?_
      | refine LeO.bind ?_ (fun _ => ?_)
theorem spec_BerTag.mono : ∀ a0 a1 a2 a3 a4 k, LeO (spec_BerTag.f k a0 a1 a2 a3 a4) (spec_BerTag.f (k + 1) a0 a1 a2 a3 a4) := by
  intro a0 a1 a2 a3 a4 k
  obtain ⟨ih0, ih1⟩ := spec_BerTag.mono_l k
  unfold spec_BerTag.f
  repeat' first
      | (with_reducible exact ih0 _ _ _ _ _ _)
      | (with_reducible exact ih1 _ _ _)
      | (with_reducible exact LeO.refl _)
      | (with_reducible exact LeO.none _)
      | (with_reducible refine LeO.ite ?_ ?_)
      | (with_reducible refine LeO.bind ?_ (fun _ => ?_))
      | exact ih0 _ _ _ _ _ _
      | exact ih1 _ _ _
      | exact LeO.none _
      | refine LeO.ite ?_ ?_
      | refine LeO.bind ?_ (fun _ => ?_)
set_option maxHeartbeats 8000000 in
set_option maxRecDepth 100000 in
theorem spec_BerTag.calls (k : Nat) (a0_0 : Int) (a0_1 : Bool) (a0_2 : Int) (a0_3 : ByteArray) (A0_4 : Option Addr) (c0_4 : Nat) (l0_4 : List (S26)) (r : ByteArray) (w : World) (hr0_4 : Kd.C k26 w A0_4 l0_4.length l0_4) (hc0_4 : l0_4.length ≤ c0_4) (h : spec_BerTag.f k a0_0 a0_1 a0_2 a0_3 l0_4 = some r) :
    Calls Tryd.prog 35 #[.agg #[.int .u8 a0_0, .bool a0_1, .int .u64 a0_2, .string a0_3, .slice A0_4 l0_4.length c0_4]] w fun e w' => e = .returned (.string r) ∧ Below w.heap.size w w' := by
  have hu26 := Tryd.underlying26
  have HR0_4 := Aside0.mk hr0_4
  have HC0_4 := Aside0.mk hc0_4
  clear hr0_4 hc0_4
  have HB := Aside0.mk (Below.refl w.heap.size w)
  have H : (if a0_1 = true then (spec_BerTag.j0 k (Go.bits .or .u8 ((a0_0 * 64) % 256) 32) a0_0 a0_1 a0_2 a0_3 l0_4) else (spec_BerTag.j0 k ((a0_0 * 64) % 256) a0_0 a0_1 a0_2 a0_3 l0_4)) = some r := h
  clear h
  have HC2 := Aside0.mk H
  clear H
  go_enter Tryd.func35, Tryd.ntmps35
  go_upto_if 10 with (first | ((with_reducible refine gate_dst (N := 1) rfl ?_); refine box_event ?hg (N := 1) ?hd (cs := #[.int .u8 a0_0, .bool a0_1, .int .u64 a0_2, .string a0_3, .slice A0_4 l0_4.length c0_4]) (t := 26) ?hr ?_; (case hd => rfl); (case hg => rfl); (case hr => first | (go_simp; done) | (go_simp; rfl)); intro gb206 hg w3 hbox hb; have n0_ := Aside0.mk (below_step (by repeat (first | (with_reducible first | exact HB.out | apply below_alloc | apply pw_below_drewN | apply below_drew1) | exact HB.out)) hb); have n1_ := Aside0.mk (hbox); have n2_ := Aside0.mk ((by rw [hg]; exact (below_size (by repeat (first | (with_reducible first | exact HB.out | apply below_alloc | apply pw_below_drewN | apply below_drew1) | exact HB.out))) : w.heap.size ≤ gb206)); have n3_ := Aside0.mk ((by rw [hg]; exact (below_size (by repeat (first | (with_reducible first | exact HB.out | apply below_alloc | apply pw_below_drewN | apply below_drew1) | exact HB.out))) : w.heap.size ≤ gb206)); clear HB; have HB := n0_; have BK206 := n1_; have GW206 := n2_; have GE206 := n3_; clear n0_ n1_ n2_ n3_; clear hb hbox hg; have hcz4_0 : w3.cell? ⟨gb206, 0, none⟩ = some (.int .u8 a0_0) := (blk_cell BK206.out 0).trans rfl; have hcz4_1 : w3.cell? ⟨gb206, 1, none⟩ = some (.bool a0_1) := (blk_cell BK206.out 1).trans rfl; have hcz4_2 : w3.cell? ⟨gb206, 2, none⟩ = some (.int .u64 a0_2) := (blk_cell BK206.out 2).trans rfl; have hcz4_3 : w3.cell? ⟨gb206, 3, none⟩ = some (.string a0_3) := (blk_cell BK206.out 3).trans rfl; have hcz4_4 : w3.cell? ⟨gb206, 4, none⟩ = some (.slice A0_4 l0_4.length c0_4) := (blk_cell BK206.out 4).trans rfl; have hfz4_0 := blk_frozen BK206.out 0; have hfz4_1 := blk_frozen BK206.out 1; have hfz4_2 := blk_frozen BK206.out 2; have hfz4_3 := blk_frozen BK206.out 3; have hfz4_4 := blk_frozen BK206.out 4))
  (try simp only [Act.put, List.setIfInBounds_toArray, List.set_cons_zero, List.set_cons_succ])
  go_cut [3] (fun v3 wc => ∃ (kq : Nat) (x3_1 : Int), v3 = .int .u8 x3_1 ∧ Aside0 (spec_BerTag.j0 kq x3_1 a0_0 a0_1 a0_2 a0_3 l0_4 = some r) ∧ Aside0 (kq ≤ k) ∧ Aside0 (wc.heap[gb206]? = some (.cells #[.int .u8 a0_0, .bool a0_1, .int .u64 a0_2, .string a0_3, (.slice A0_4 l0_4.length c0_4)] 26 (0, 0))) ∧ Aside0 (Below w.heap.size w wc))
  case first =>
    have H := HC2.out
    clear HC2
    by_cases c5 : a0_1 = true
    · subst c5
      have H1 : (spec_BerTag.j0 k (Go.bits .or .u8 ((a0_0 * 64) % 256) 32) a0_0 true a0_2 a0_3 l0_4) = some r := by rw [if_pos rfl] at H; exact H
      clear H
      have H := H1
      clear H1
      have H' := Aside0.mk H
      clear H
      go_wp2
      go_meet
      case rel => exact ⟨_, (Go.bits .or .u8 ((a0_0 * 64) % 256) 32), (by first | rfl | (simp; done) | (simp [*]; done)), H', ⟨by first | omega | exact Nat.le_refl _⟩, ⟨by (with_reducible repeat (first | refine blk_drewN ?_ _ | refine blk_drew ?_ | refine blk_alloc ?_ _)); exact BK206.out⟩, ⟨by repeat (first | (with_reducible first | exact HB.out | apply below_alloc | apply pw_below_drewN | apply below_drew1 | refine below_set ?_ GE206.out) | exact HB.out)⟩⟩
    · replace c5 := Bool.eq_false_iff.mpr c5
      subst c5
      have H1 : (spec_BerTag.j0 k ((a0_0 * 64) % 256) a0_0 false a0_2 a0_3 l0_4) = some r := by rw [if_neg (show ¬ (false = true) by decide)] at H; exact H
      clear H
      have H := H1
      clear H1
      have H' := Aside0.mk H
      clear H
      go_wp2
      go_meet
      case rel => exact ⟨_, ((a0_0 * 64) % 256), (by first | rfl | (simp; done) | (simp [*]; done)), H', ⟨by first | omega | exact Nat.le_refl _⟩, ⟨by (with_reducible repeat (first | refine blk_drewN ?_ _ | refine blk_drew ?_ | refine blk_alloc ?_ _)); exact BK206.out⟩, ⟨by repeat (first | (with_reducible first | exact HB.out | apply below_alloc | apply pw_below_drewN | apply below_drew1 | refine below_set ?_ GE206.out) | exact HB.out)⟩⟩
  case rest =>
    clear HC2
    try clear p2
    try clear c3
    try clear c5
    try clear hcz4_0
    try clear hcz4_1
    try clear hcz4_2
    try clear hcz4_3
    try clear hcz4_4
    try clear hfz4_0
    try clear hfz4_1
    try clear hfz4_2
    try clear hfz4_3
    try clear hfz4_4
    obtain ⟨kq, x3_1, rfl, HA, HJ1, BK206, HB⟩ := hcut
    cases kq with
    | zero => exact absurd HA.out (by simp [spec_BerTag.j0])
    | succ kj1 =>
      have H := HA.out
      clear HA
      simp only [spec_BerTag.j0] at H
      by_cases c6 : a0_2 < 31
      · rw [if_pos c6] at H
        have c6b0 : decide (a0_2 < 31) = true := decide_eq_true c6
        clear c6
        obtain ⟨y207, hy207⟩ : ∃ y_ : List Int, y_ = (([Go.bits .or .u8 x3_1 ((a0_2) % 256)] : List Int)) := ⟨_, rfl⟩
        replace H : (some (strOfNums y207)) = some r := by first | (rw [hy207]; with_reducible exact H) | (have H2_ := (Option.bind_some _ _).symm.trans H; rw [hy207]; with_reducible exact H2_) | (have H2_ := (Option.bind_some _ _).symm.trans H; with_reducible exact H2_) | with_reducible exact H | (rw [hy207]; exact H) | exact H
        have Ny207 := Aside0.mk hy207
        clear hy207
        obtain rfl := Option.some.inj H
        have hcz7_0 : wc.cell? ⟨gb206, 0, none⟩ = some (.int .u8 a0_0) := (blk_cell BK206.out 0).trans rfl
        have hcz7_1 : wc.cell? ⟨gb206, 1, none⟩ = some (.bool a0_1) := (blk_cell BK206.out 1).trans rfl
        have hcz7_2 : wc.cell? ⟨gb206, 2, none⟩ = some (.int .u64 a0_2) := (blk_cell BK206.out 2).trans rfl
        have hcz7_3 : wc.cell? ⟨gb206, 3, none⟩ = some (.string a0_3) := (blk_cell BK206.out 3).trans rfl
        have hcz7_4 : wc.cell? ⟨gb206, 4, none⟩ = some (.slice A0_4 l0_4.length c0_4) := (blk_cell BK206.out 4).trans rfl
        have hfz7_0 := blk_frozen BK206.out 0
        have hfz7_1 := blk_frozen BK206.out 1
        have hfz7_2 := blk_frozen BK206.out 2
        have hfz7_3 := blk_frozen BK206.out 3
        have hfz7_4 := blk_frozen BK206.out 4
        go_wp2_with (first | ((with_reducible refine gate_dst (N := 21) rfl ?_); refine Kd.R_lit (Kd.int .u8) _ 5 ?hg (N := 21) ?hd (xs := ([Go.bits .or .u8 x3_1 ((a0_2) % 256)] : List Int)) (inner := [.int .u8 (Go.bits .or .u8 x3_1 ((a0_2) % 256))]) (ok := fun _ => True) (okp := fun _ => True) ?hr ?hp (fun _ hk => hk) trivial (Below.refl _ _) (Nat.le_refl _) (by simp) ?_; (case hd => rfl); (case hg => rfl); (case hr => first | (go_simp; done) | (go_simp; rfl)); (case hp => exact (Reps.one (show Kd.M (Kd.int .u8) _ _ _ (Go.bits .or .u8 x3_1 ((a0_2) % 256)) [.int .u8 (Go.bits .or .u8 x3_1 ((a0_2) % 256))] from rfl) (Reps.none _ _))); intro v208 w8 ho9 hb hg_ hnew_; clear hg_ hnew_; (first | rw [← Ny207.out] at ho9 | (simp only [Int.reduceToNat] at ho9; rw [← Ny207.out] at ho9)); have n0_ := Aside0.mk (Kd.R_lower ho9 (below_size (by repeat (first | (with_reducible first | exact HB.out | apply below_alloc | apply pw_below_drewN | apply below_drew1 | refine below_set ?_ GE206.out) | exact HB.out)))); have n1_ := Aside0.mk (blk_below (g := gb206) (o := .cells #[.int .u8 a0_0, .bool a0_1, .int .u64 a0_2, .string a0_3, .slice A0_4 l0_4.length c0_4] 26 (0, 0)) (by (with_reducible repeat (first | refine blk_drewN ?_ _ | refine blk_drew ?_ | refine blk_alloc ?_ _)); exact BK206.out) hb); have n2_ := Aside0.mk (below_step (by repeat (first | (with_reducible first | exact HB.out | apply below_alloc | apply pw_below_drewN | apply below_drew1 | refine below_set ?_ GE206.out) | exact HB.out)) hb); clear BK206; clear HB; have HO209 := n0_; have BK206 := n1_; have HB := n2_; clear n0_ n1_ n2_; clear hb ho9; have hcv10 := own_string (P := Tryd.prog) Tryd.underlying37 Tryd.underlying5 Tryd.underlying9 (Kd.own_of_R HO209.out)))
        go_ret
        exact ⟨by first | rfl | (simp [errW_none, errW_some] <;> rfl) | (simp [*, errW_none, errW_some] <;> rfl), by repeat (first | (with_reducible first | exact HB.out | apply below_alloc | apply pw_below_drewN | apply below_drew1 | refine below_set ?_ GE206.out) | exact HB.out)⟩
      · rw [if_neg c6] at H
        have c6b0 : decide (a0_2 < 31) = false := decide_eq_false c6
        clear c6
        obtain ⟨y210, hy210⟩ : ∃ y_ : List Int, y_ = (([(Go.bits .and .u64 a0_2 127) % 256] : List Int)) := ⟨_, rfl⟩
        replace H : (spec_BerTag.l0 kj1 x3_1 (strOfNums y210) (a0_2 / 128)) = some r := by first | (rw [hy210]; with_reducible exact H) | (have H2_ := (Option.bind_some _ _).symm.trans H; rw [hy210]; with_reducible exact H2_) | (have H2_ := (Option.bind_some _ _).symm.trans H; with_reducible exact H2_) | with_reducible exact H | (rw [hy210]; exact H) | exact H
        have Ny210 := Aside0.mk hy210
        clear hy210
        have H' := Aside0.mk H
        clear H
        have hcz11_0 : wc.cell? ⟨gb206, 0, none⟩ = some (.int .u8 a0_0) := (blk_cell BK206.out 0).trans rfl
        have hcz11_1 : wc.cell? ⟨gb206, 1, none⟩ = some (.bool a0_1) := (blk_cell BK206.out 1).trans rfl
        have hcz11_2 : wc.cell? ⟨gb206, 2, none⟩ = some (.int .u64 a0_2) := (blk_cell BK206.out 2).trans rfl
        have hcz11_3 : wc.cell? ⟨gb206, 3, none⟩ = some (.string a0_3) := (blk_cell BK206.out 3).trans rfl
        have hcz11_4 : wc.cell? ⟨gb206, 4, none⟩ = some (.slice A0_4 l0_4.length c0_4) := (blk_cell BK206.out 4).trans rfl
        have hfz11_0 := blk_frozen BK206.out 0
        have hfz11_1 := blk_frozen BK206.out 1
        have hfz11_2 := blk_frozen BK206.out 2
        have hfz11_3 := blk_frozen BK206.out 3
        have hfz11_4 := blk_frozen BK206.out 4
        go_wp2_with (first | ((with_reducible refine gate_dst (N := 27) rfl ?_); refine Kd.R_lit (Kd.int .u8) _ 5 ?hg (N := 27) ?hd (xs := ([(Go.bits .and .u64 a0_2 127) % 256] : List Int)) (inner := [.int .u8 ((Go.bits .and .u64 a0_2 127) % 256)]) (ok := fun _ => True) (okp := fun _ => True) ?hr ?hp (fun _ hk => hk) trivial (Below.refl _ _) (Nat.le_refl _) (by simp) ?_; (case hd => rfl); (case hg => rfl); (case hr => first | (go_simp; done) | (go_simp; rfl)); (case hp => exact (Reps.one (show Kd.M (Kd.int .u8) _ _ _ ((Go.bits .and .u64 a0_2 127) % 256) [.int .u8 ((Go.bits .and .u64 a0_2 127) % 256)] from rfl) (Reps.none _ _))); intro v211 w12 ho13 hb hg_ hnew_; clear hg_ hnew_; (first | rw [← Ny210.out] at ho13 | (simp only [Int.reduceToNat] at ho13; rw [← Ny210.out] at ho13)); have n0_ := Aside0.mk (Kd.R_lower ho13 (below_size (by repeat (first | (with_reducible first | exact HB.out | apply below_alloc | apply pw_below_drewN | apply below_drew1 | refine below_set ?_ GE206.out) | exact HB.out)))); have n1_ := Aside0.mk (blk_below (g := gb206) (o := .cells #[.int .u8 a0_0, .bool a0_1, .int .u64 a0_2, .string a0_3, .slice A0_4 l0_4.length c0_4] 26 (0, 0)) (by (with_reducible repeat (first | refine blk_drewN ?_ _ | refine blk_drew ?_ | refine blk_alloc ?_ _)); exact BK206.out) hb); have n2_ := Aside0.mk (below_step (by repeat (first | (with_reducible first | exact HB.out | apply below_alloc | apply pw_below_drewN | apply below_drew1 | refine below_set ?_ GE206.out) | exact HB.out)) hb); clear BK206; clear HB; have HO212 := n0_; have BK206 := n1_; have HB := n2_; clear n0_ n1_ n2_; clear hb ho13; have hcv14 := own_string (P := Tryd.prog) Tryd.underlying37 Tryd.underlying5 Tryd.underlying9 (Kd.own_of_R HO212.out); have hcz15_0 : w12.cell? ⟨gb206, 0, none⟩ = some (.int .u8 a0_0) := (blk_cell BK206.out 0).trans rfl; have hcz15_1 : w12.cell? ⟨gb206, 1, none⟩ = some (.bool a0_1) := (blk_cell BK206.out 1).trans rfl; have hcz15_2 : w12.cell? ⟨gb206, 2, none⟩ = some (.int .u64 a0_2) := (blk_cell BK206.out 2).trans rfl; have hcz15_3 : w12.cell? ⟨gb206, 3, none⟩ = some (.string a0_3) := (blk_cell BK206.out 3).trans rfl; have hcz15_4 : w12.cell? ⟨gb206, 4, none⟩ = some (.slice A0_4 l0_4.length c0_4) := (blk_cell BK206.out 4).trans rfl; have hfz15_0 := blk_frozen BK206.out 0; have hfz15_1 := blk_frozen BK206.out 1; have hfz15_2 := blk_frozen BK206.out 2; have hfz15_3 := blk_frozen BK206.out 3; have hfz15_4 := blk_frozen BK206.out 4))
        go_loopg [4, 5] kj1 (fun kq v4 v5 w' => ∃ (x4_2 : ByteArray) (x5_2 : Int), v4 = .string x4_2 ∧ v5 = .int .u64 x5_2 ∧ Aside0 (spec_BerTag.l0 kq x3_1 x4_2 x5_2 = some r) ∧ Aside0 (kq ≤ kj1) ∧ Aside0 (w'.heap[gb206]? = some (.cells #[.int .u8 a0_0, .bool a0_1, .int .u64 a0_2, .string a0_3, (.slice A0_4 l0_4.length c0_4)] 26 (0, 0))) ∧ Aside0 (Below w.heap.size w w'))
        case atStart => exact ⟨(strOfNums y210), (a0_2 / 128), (by first | rfl | (simp; done) | (simp [*]; done)), (by first | rfl | (simp; done) | (simp [*]; done)), H', ⟨Nat.le_refl _⟩, ⟨by (with_reducible repeat (first | refine blk_drewN ?_ _ | refine blk_drew ?_ | refine blk_alloc ?_ _)); exact BK206.out⟩, ⟨by repeat (first | (with_reducible first | exact HB.out | apply below_alloc | apply pw_below_drewN | apply below_drew1 | refine below_set ?_ GE206.out) | exact HB.out)⟩⟩
        case round =>
          clear H'
          try clear hcv1
          try clear p2
          try clear c3
          try clear c5
          try clear c6
          try clear c6b0
          try clear hcv10
          try clear hcv14
          try clear hcz11_0
          try clear hcz11_1
          try clear hcz11_2
          try clear hcz11_3
          try clear hcz11_4
          try clear hcz15_0
          try clear hcz15_1
          try clear hcz15_2
          try clear hcz15_3
          try clear hcz15_4
          try clear hcz4_0
          try clear hcz4_1
          try clear hcz4_2
          try clear hcz4_3
          try clear hcz4_4
          try clear hcz7_0
          try clear hcz7_1
          try clear hcz7_2
          try clear hcz7_3
          try clear hcz7_4
          try clear hfz11_0
          try clear hfz11_1
          try clear hfz11_2
          try clear hfz11_3
          try clear hfz11_4
          try clear hfz15_0
          try clear hfz15_1
          try clear hfz15_2
          try clear hfz15_3
          try clear hfz15_4
          try clear hfz4_0
          try clear hfz4_1
          try clear hfz4_2
          try clear hfz4_3
          try clear hfz4_4
          try clear hfz7_0
          try clear hfz7_1
          try clear hfz7_2
          try clear hfz7_3
          try clear hfz7_4
          try clear p2
          obtain ⟨x4_2, x5_2, rfl, rfl, HA, HK2, BK206, HB⟩ := hrel
          cases gk with
          | zero => exact absurd HA.out (by simp [spec_BerTag.l0])
          | succ k2 =>
            have H := HA.out
            clear HA
            simp only [spec_BerTag.l0] at H
            by_cases c16 : x5_2 > 0
            · rw [if_pos c16] at H
              have c16b0 : decide (0 < x5_2) = true := decide_eq_true c16
              clear c16
              obtain ⟨y213, hy213⟩ : ∃ y_ : List Int, y_ = (([Go.bits .or .u8 ((Go.bits .and .u64 x5_2 127) % 256) 128] : List Int)) := ⟨_, rfl⟩
              replace H : (if (strOfNums y213).size + x4_2.size ≤ 9223372036854775807 then (spec_BerTag.l0 k2 x3_1 ((strOfNums y213) ++ x4_2) (x5_2 / 128)) else (none)) = some r := by first | (rw [hy213]; with_reducible exact H) | (have H2_ := (Option.bind_some _ _).symm.trans H; rw [hy213]; with_reducible exact H2_) | (have H2_ := (Option.bind_some _ _).symm.trans H; with_reducible exact H2_) | with_reducible exact H | (rw [hy213]; exact H) | exact H
              have Ny213 := Aside0.mk hy213
              clear hy213
              by_cases c17 : (strOfNums y213).size + x4_2.size ≤ 9223372036854775807
              · rw [if_pos c17] at H
                have c17b0 := eq_true c17
                have c17b1 : decide ((strOfNums y213).size + x4_2.size ≤ 9223372036854775807) = true := decide_eq_true c17
                try have c17b2 : (9223372036854775807 < (strOfNums y213).size + x4_2.size) = False := eq_false (Nat.not_lt.2 c17)
                have H' := Aside0.mk H
                clear H
                go_wp2_with (first | ((with_reducible refine gate_dst (N := 40) rfl ?_); refine Kd.R_lit (Kd.int .u8) _ 5 ?hg (N := 40) ?hd (xs := ([Go.bits .or .u8 ((Go.bits .and .u64 x5_2 127) % 256) 128] : List Int)) (inner := [.int .u8 (Go.bits .or .u8 ((Go.bits .and .u64 x5_2 127) % 256) 128)]) (ok := fun _ => True) (okp := fun _ => True) ?hr ?hp (fun _ hk => hk) trivial (Below.refl _ _) (Nat.le_refl _) (by simp) ?_; (case hd => rfl); (case hg => rfl); (case hr => first | (go_simp; done) | (go_simp; rfl)); (case hp => exact (Reps.one (show Kd.M (Kd.int .u8) _ _ _ (Go.bits .or .u8 ((Go.bits .and .u64 x5_2 127) % 256) 128) [.int .u8 (Go.bits .or .u8 ((Go.bits .and .u64 x5_2 127) % 256) 128)] from rfl) (Reps.none _ _))); intro v214 w18 ho19 hb hg_ hnew_; clear hg_ hnew_; (first | rw [← Ny213.out] at ho19 | (simp only [Int.reduceToNat] at ho19; rw [← Ny213.out] at ho19)); have n0_ := Aside0.mk (Kd.R_lower ho19 (below_size (by repeat (first | (with_reducible first | exact HB.out | apply below_alloc | apply pw_below_drewN | apply below_drew1 | refine below_set ?_ GE206.out) | exact HB.out)))); have n1_ := Aside0.mk (blk_below (g := gb206) (o := .cells #[.int .u8 a0_0, .bool a0_1, .int .u64 a0_2, .string a0_3, .slice A0_4 l0_4.length c0_4] 26 (0, 0)) (by (with_reducible repeat (first | refine blk_drewN ?_ _ | refine blk_drew ?_ | refine blk_alloc ?_ _)); exact BK206.out) hb); have n2_ := Aside0.mk (below_step (by repeat (first | (with_reducible first | exact HB.out | apply below_alloc | apply pw_below_drewN | apply below_drew1 | refine below_set ?_ GE206.out) | exact HB.out)) hb); clear BK206; clear HB; have HO215 := n0_; have BK206 := n1_; have HB := n2_; clear n0_ n1_ n2_; clear hb ho19; have hcv20 := own_string (P := Tryd.prog) Tryd.underlying37 Tryd.underlying5 Tryd.underlying9 (Kd.own_of_R HO215.out)))
                go_roundg k2
                case measure => have := HJ1.out; have := HK2.out; omega
                case rel => exact ⟨((strOfNums y213) ++ x4_2), (x5_2 / 128), (by first | rfl | (simp; done) | (simp [*]; done)), (by first | rfl | (simp; done) | (simp [*]; done)), H', ⟨by have := HJ1.out; have := HK2.out; omega⟩, ⟨by (with_reducible repeat (first | refine blk_drewN ?_ _ | refine blk_drew ?_ | refine blk_alloc ?_ _)); exact BK206.out⟩, ⟨by repeat (first | (with_reducible first | exact HB.out | apply below_alloc | apply pw_below_drewN | apply below_drew1 | refine below_set ?_ GE206.out) | exact HB.out)⟩⟩
              · rw [if_neg c17] at H
                exact absurd H (by simp)
            · rw [if_neg c16] at H
              have c16b0 : decide (0 < x5_2) = false := decide_eq_false c16
              clear c16
              obtain ⟨y216, hy216⟩ : ∃ y_ : List Int, y_ = (([Go.bits .or .u8 x3_1 31] : List Int)) := ⟨_, rfl⟩
              replace H : (if (strOfNums y216).size + x4_2.size ≤ 9223372036854775807 then (some ((strOfNums y216) ++ x4_2)) else (none)) = some r := by first | (rw [hy216]; with_reducible exact H) | (have H2_ := (Option.bind_some _ _).symm.trans H; rw [hy216]; with_reducible exact H2_) | (have H2_ := (Option.bind_some _ _).symm.trans H; with_reducible exact H2_) | with_reducible exact H | (rw [hy216]; exact H) | exact H
              have Ny216 := Aside0.mk hy216
              clear hy216
              by_cases c21 : (strOfNums y216).size + x4_2.size ≤ 9223372036854775807
              · rw [if_pos c21] at H
                have c21b0 := eq_true c21
                have c21b1 : decide ((strOfNums y216).size + x4_2.size ≤ 9223372036854775807) = true := decide_eq_true c21
                try have c21b2 : (9223372036854775807 < (strOfNums y216).size + x4_2.size) = False := eq_false (Nat.not_lt.2 c21)
                obtain rfl := Option.some.inj H
                go_wp2_with (first | ((with_reducible refine gate_dst (N := 46) rfl ?_); refine Kd.R_lit (Kd.int .u8) _ 5 ?hg (N := 46) ?hd (xs := ([Go.bits .or .u8 x3_1 31] : List Int)) (inner := [.int .u8 (Go.bits .or .u8 x3_1 31)]) (ok := fun _ => True) (okp := fun _ => True) ?hr ?hp (fun _ hk => hk) trivial (Below.refl _ _) (Nat.le_refl _) (by simp) ?_; (case hd => rfl); (case hg => rfl); (case hr => first | (go_simp; done) | (go_simp; rfl)); (case hp => exact (Reps.one (show Kd.M (Kd.int .u8) _ _ _ (Go.bits .or .u8 x3_1 31) [.int .u8 (Go.bits .or .u8 x3_1 31)] from rfl) (Reps.none _ _))); intro v217 w22 ho23 hb hg_ hnew_; clear hg_ hnew_; (first | rw [← Ny216.out] at ho23 | (simp only [Int.reduceToNat] at ho23; rw [← Ny216.out] at ho23)); have n0_ := Aside0.mk (Kd.R_lower ho23 (below_size (by repeat (first | (with_reducible first | exact HB.out | apply below_alloc | apply pw_below_drewN | apply below_drew1 | refine below_set ?_ GE206.out) | exact HB.out)))); have n1_ := Aside0.mk (blk_below (g := gb206) (o := .cells #[.int .u8 a0_0, .bool a0_1, .int .u64 a0_2, .string a0_3, .slice A0_4 l0_4.length c0_4] 26 (0, 0)) (by (with_reducible repeat (first | refine blk_drewN ?_ _ | refine blk_drew ?_ | refine blk_alloc ?_ _)); exact BK206.out) hb); have n2_ := Aside0.mk (below_step (by repeat (first | (with_reducible first | exact HB.out | apply below_alloc | apply pw_below_drewN | apply below_drew1 | refine below_set ?_ GE206.out) | exact HB.out)) hb); clear BK206; clear HB; have HO218 := n0_; have BK206 := n1_; have HB := n2_; clear n0_ n1_ n2_; clear hb ho23; have hcv24 := own_string (P := Tryd.prog) Tryd.underlying37 Tryd.underlying5 Tryd.underlying9 (Kd.own_of_R HO218.out)))
                go_ret
                exact ⟨by first | rfl | (simp [errW_none, errW_some] <;> rfl) | (simp [*, errW_none, errW_some] <;> rfl), by repeat (first | (with_reducible first | exact HB.out | apply below_alloc | apply pw_below_drewN | apply below_drew1 | refine below_set ?_ GE206.out) | exact HB.out)⟩
              · rw [if_neg c21] at H
                exact absurd H (by simp)

/-! ### spec_BerLength: function 36 -/
mutual
def spec_BerLength.j0 : Nat → Int → Int → Bool → Option (ByteArray)
  | 0, _, _, _ => none
  | k + 1, x0, x1, x12 => if x12 = true then (some (strOfNums (([(x0) % 256] : List Int)))) else (spec_BerLength.l0 k x1 (⟨#[]⟩ : ByteArray) x0)
def spec_BerLength.l0 : Nat → Int → ByteArray → Int → Option (ByteArray)
  | 0, _, _, _ => none
  | k + 1, x1, x5, x6 => if x6 > 0 then ((some (([(x6) % 256] : List Int) : List Int)).bind fun y222 => (if (strOfNums y222).size + x5.size ≤ 9223372036854775807 then (spec_BerLength.l0 k x1 ((strOfNums y222) ++ x5) (x6 / 256)) else (none))) else (if x5.toList = ([] : List UInt8) then ((some (([(x6) % 256] : List Int) : List Int)).bind fun y225 => (if (strOfNums y225).size + x5.size ≤ 9223372036854775807 then (spec_BerLength.l0 k x1 ((strOfNums y225) ++ x5) (x6 / 256)) else (none))) else (spec_BerLength.l1 k x5 (mx (wrap64 (x1 - 1)) 0) 0))
def spec_BerLength.l1 : Nat → ByteArray → Int → Int → Option (ByteArray)
  | 0, _, _, _ => none
  | k + 1, x5, x34, x35 => if x35 < x34 then (if 1 + x5.size ≤ 9223372036854775807 then (spec_BerLength.l1 k ((⟨#[0]⟩ : ByteArray) ++ x5) x34 (wrap64 (x35 + 1))) else (none)) else ((some (([Go.bits .or .u8 128 (((x5.size : Int)) % 256)] : List Int) : List Int)).bind fun y228 => (if (strOfNums y228).size + x5.size ≤ 9223372036854775807 then (some ((strOfNums y228) ++ x5)) else (none)))
end
def spec_BerLength.f (k : Nat) (a0 : Int) (a1 : Int) : Option (ByteArray) := if a0 < 128 then (spec_BerLength.j0 k a0 a1 (a1 == 0)) else (spec_BerLength.j0 k a0 a1 false)
theorem spec_BerLength.mono_l : ∀ k, (∀ y0 y1 y2, LeO (spec_BerLength.j0 k y0 y1 y2) (spec_BerLength.j0 (k + 1) y0 y1 y2)) ∧ (∀ y0 y1 y2, LeO (spec_BerLength.l0 k y0 y1 y2) (spec_BerLength.l0 (k + 1) y0 y1 y2)) ∧ (∀ y0 y1 y2, LeO (spec_BerLength.l1 k y0 y1 y2) (spec_BerLength.l1 (k + 1) y0 y1 y2))
  | 0 => ⟨fun _ _ _ r h => by simp [spec_BerLength.j0] at h, fun _ _ _ r h => by simp [spec_BerLength.l0] at h, fun _ _ _ r h => by simp [spec_BerLength.l1] at h⟩
  | k + 1 => by
    obtain ⟨ih0, ih1, ih2⟩ := spec_BerLength.mono_l k
    refine ⟨?_, ?_, ?_⟩
    · intro y0 y1 y2
      unfold spec_BerLength.j0
      repeat' first
      | (with_reducible exact ih0 _ _ _)
      | (with_reducible exact ih1 _ _ _)
      | (with_reducible exact ih2 _ _ _)
      | (with_reducible exact LeO.refl _)
      | (with_reducible exact LeO.none _)
      | (with_reducible refine LeO.ite ?_ ?_)
      | (with_reducible refine LeO.bind ?_ (fun _ => ?_))
      | exact ih0 _ _ _
      | exact ih1 _ _ _
      | exact ih2 _ _ _
      | exact LeO.none _
      | refine LeO.ite ?_ ?_
      | refine LeO.bind ?_ (fun _ => ?_)
    · intro y0 y1 y2
      unfold spec_BerLength.l0
      repeat' first
      | (with_reducible exact ih0 _ _ _)
      | (with_reducible exact ih1 _ _ _)
      | (with_reducible exact ih2 _ _ _)
      | (with_reducible exact LeO.refl _)
      | (with_reducible exact LeO.none _)
      | (with_reducible refine LeO.ite ?_ ?_)
      | (with_reducible refine LeO.bind ?_ (fun _ => ?_))
      | exact ih0 _ _ _
      | exact ih1 _ _ _
      | exact ih2 _ _ _
      | exact LeO.none _
      | refine LeO.ite ?_ ?_
      | refine LeO.bind ?_ (fun _ => ?_)
    · intro y0 y1 y2
      unfold spec_BerLength.l1
      repeat' first
      | (with_reducible exact ih0 _ _ _)
      | (with_reducible exact ih1 _ _ _)
      | (with_reducible exact ih2 _ _ _)
      | (with_reducible exact LeO.refl _)
      | (with_reducible exact LeO.none _)
      | (with_reducible refine LeO.ite ?_ ?_)
      | (with_reducible refine LeO.bind ?_ (fun _ => ?_))
      | exact ih0 _ _ _
      | exact ih1 _ _ _
      | exact ih2 _ _ _
      | exact LeO.none _
      | refine LeO.ite ?_ ?_
      | refine LeO.bind ?_ (fun _ => ?_)
theorem spec_BerLength.mono : ∀ a0 a1 k, LeO (spec_BerLength.f k a0 a1) (spec_BerLength.f (k + 1) a0 a1) := by
  intro a0 a1 k
  obtain ⟨ih0, ih1, ih2⟩ := spec_BerLength.mono_l k
  unfold spec_BerLength.f
  repeat' first
      | (with_reducible exact ih0 _ _ _)
      | (with_reducible exact ih1 _ _ _)
      | (with_reducible exact ih2 _ _ _)
      | (with_reducible exact LeO.refl _)
      | (with_reducible exact LeO.none _)
      | (with_reducible refine LeO.ite ?_ ?_)
      | (with_reducible refine LeO.bind ?_ (fun _ => ?_))
      | exact ih0 _ _ _
      | exact ih1 _ _ _
      | exact ih2 _ _ _
      | exact LeO.none _
      | refine LeO.ite ?_ ?_
      | refine LeO.bind ?_ (fun _ => ?_)
set_option maxHeartbeats 8000000 in
set_option maxRecDepth 100000 in
theorem spec_BerLength.calls (k : Nat) (a0 : Int) (a1 : Int) (r : ByteArray) (w : World) (h : spec_BerLength.f k a0 a1 = some r) :
    Calls Tryd.prog 36 #[.int .i64 a0, .int .i64 a1] w fun e w' => e = .returned (.string r) ∧ Below w.heap.size w w' := by
  have HB := Aside0.mk (Below.refl w.heap.size w)
  have H : (if a0 < 128 then (spec_BerLength.j0 k a0 a1 (a1 == 0)) else (spec_BerLength.j0 k a0 a1 false)) = some r := h
  clear h
  have HC3 := Aside0.mk H
  clear H
  go_enter Tryd.func36, Tryd.ntmps36
  go_upto_region 1 with (fail)
  go_cut [12] (fun v12 wc => ∃ (kq : Nat) (x12_2 : Bool), v12 = .bool x12_2 ∧ Aside0 (spec_BerLength.j0 kq a0 a1 x12_2 = some r) ∧ Aside0 (kq ≤ k) ∧ Aside0 (Below w.heap.size w wc))
  case first =>
    have H := HC3.out
    clear HC3
    by_cases c4 : a0 < 128
    · rw [if_pos c4] at H
      have c4b0 : decide (a0 < 128) = true := decide_eq_true c4
      clear c4
      (first | rw [c4b0] | (simp only [i64_w, i32_w]; rw [c4b0]) | skip)
      have H' := Aside0.mk H
      clear H
      go_wp2
      go_meet
      case rel => exact ⟨_, ((a1 == 0)), (by first | rfl | (simp; done) | (simp [*]; done)), H', ⟨by first | omega | exact Nat.le_refl _⟩, ⟨by repeat (first | (with_reducible first | exact HB.out | apply below_alloc | apply pw_below_drewN | apply below_drew1) | exact HB.out)⟩⟩
    · rw [if_neg c4] at H
      have c4b0 : decide (a0 < 128) = false := decide_eq_false c4
      clear c4
      (first | rw [c4b0] | (simp only [i64_w, i32_w]; rw [c4b0]) | skip)
      have H' := Aside0.mk H
      clear H
      go_wp2
      go_meet
      case rel => exact ⟨_, (false), (by first | rfl | (simp; done) | (simp [*]; done)), H', ⟨by first | omega | exact Nat.le_refl _⟩, ⟨by repeat (first | (with_reducible first | exact HB.out | apply below_alloc | apply pw_below_drewN | apply below_drew1) | exact HB.out)⟩⟩
  case rest =>
    clear HC3
    try clear p2
    try clear c3
    try clear c4
    try clear c4b0
    obtain ⟨kq, x12_2, rfl, HA, HJ2, HB⟩ := hcut
    cases kq with
    | zero => exact absurd HA.out (by simp [spec_BerLength.j0])
    | succ kj2 =>
      have H := HA.out
      clear HA
      simp only [spec_BerLength.j0] at H
      by_cases c5 : x12_2 = true
      · subst c5
        have H1 : (some (strOfNums (([(a0) % 256] : List Int)))) = some r := by rw [if_pos rfl] at H; exact H
        clear H
        have H := H1
        clear H1
        obtain ⟨y219, hy219⟩ : ∃ y_ : List Int, y_ = (([(a0) % 256] : List Int)) := ⟨_, rfl⟩
        replace H : (some (strOfNums y219)) = some r := by first | (rw [hy219]; with_reducible exact H) | (have H2_ := (Option.bind_some _ _).symm.trans H; rw [hy219]; with_reducible exact H2_) | (have H2_ := (Option.bind_some _ _).symm.trans H; with_reducible exact H2_) | with_reducible exact H | (rw [hy219]; exact H) | exact H
        have Ny219 := Aside0.mk hy219
        clear hy219
        obtain rfl := Option.some.inj H
        go_wp2_with (first | ((with_reducible refine gate_dst (N := 15) rfl ?_); refine Kd.R_lit (Kd.int .u8) _ 5 ?hg (N := 15) ?hd (xs := ([(a0) % 256] : List Int)) (inner := [.int .u8 ((a0) % 256)]) (ok := fun _ => True) (okp := fun _ => True) ?hr ?hp (fun _ hk => hk) trivial (Below.refl _ _) (Nat.le_refl _) (by simp) ?_; (case hd => rfl); (case hg => rfl); (case hr => first | (go_simp; done) | (go_simp; rfl)); (case hp => exact (Reps.one (show Kd.M (Kd.int .u8) _ _ _ ((a0) % 256) [.int .u8 ((a0) % 256)] from rfl) (Reps.none _ _))); intro v220 w6 ho7 hb hg_ hnew_; clear hg_ hnew_; (first | rw [← Ny219.out] at ho7 | (simp only [Int.reduceToNat] at ho7; rw [← Ny219.out] at ho7)); have n0_ := Aside0.mk (Kd.R_lower ho7 (below_size (by repeat (first | (with_reducible first | exact HB.out | apply below_alloc | apply pw_below_drewN | apply below_drew1) | exact HB.out)))); have n1_ := Aside0.mk (below_step (by repeat (first | (with_reducible first | exact HB.out | apply below_alloc | apply pw_below_drewN | apply below_drew1) | exact HB.out)) hb); clear HB; have HO221 := n0_; have HB := n1_; clear n0_ n1_; clear hb ho7; have hcv8 := own_string (P := Tryd.prog) Tryd.underlying37 Tryd.underlying5 Tryd.underlying9 (Kd.own_of_R HO221.out)))
        go_ret
        exact ⟨by first | rfl | (simp [errW_none, errW_some] <;> rfl) | (simp [*, errW_none, errW_some] <;> rfl), by repeat (first | (with_reducible first | exact HB.out | apply below_alloc | apply pw_below_drewN | apply below_drew1) | exact HB.out)⟩
      · replace c5 := Bool.eq_false_iff.mpr c5
        subst c5
        have H1 : (spec_BerLength.l0 kj2 a1 (⟨#[]⟩ : ByteArray) a0) = some r := by rw [if_neg (show ¬ (false = true) by decide)] at H; exact H
        clear H
        have H := H1
        clear H1
        have H' := Aside0.mk H
        clear H
        go_wp2
        go_loopg [5, 6] kj2 (fun kq v5 v6 w' => ∃ (x5_2 : ByteArray) (x6_2 : Int), v5 = .string x5_2 ∧ v6 = .int .i64 x6_2 ∧ Aside0 (spec_BerLength.l0 kq a1 x5_2 x6_2 = some r) ∧ Aside0 (kq ≤ kj2) ∧ Aside0 (Below w.heap.size w w'))
        case atStart => exact ⟨((⟨#[]⟩ : ByteArray)), (a0), (by first | rfl | (simp; done) | (simp [*]; done)), (by first | rfl | (simp; done) | (simp [*]; done)), H', ⟨Nat.le_refl _⟩, ⟨by repeat (first | (with_reducible first | exact HB.out | apply below_alloc | apply pw_below_drewN | apply below_drew1) | exact HB.out)⟩⟩
        case round =>
          clear H'
          try clear p2
          try clear c3
          try clear c4
          try clear c4b0
          try clear c5
          try clear hcv8
          try clear p2
          obtain ⟨x5_2, x6_2, rfl, rfl, HA, HK2, HB⟩ := hrel
          cases gk with
          | zero => exact absurd HA.out (by simp [spec_BerLength.l0])
          | succ k2 =>
            have H := HA.out
            clear HA
            simp only [spec_BerLength.l0] at H
            by_cases c9 : x6_2 > 0
            · rw [if_pos c9] at H
              have c9b0 : decide (0 < x6_2) = true := decide_eq_true c9
              clear c9
              obtain ⟨y222, hy222⟩ : ∃ y_ : List Int, y_ = (([(x6_2) % 256] : List Int)) := ⟨_, rfl⟩
              replace H : (if (strOfNums y222).size + x5_2.size ≤ 9223372036854775807 then (spec_BerLength.l0 k2 a1 ((strOfNums y222) ++ x5_2) (x6_2 / 256)) else (none)) = some r := by first | (rw [hy222]; with_reducible exact H) | (have H2_ := (Option.bind_some _ _).symm.trans H; rw [hy222]; with_reducible exact H2_) | (have H2_ := (Option.bind_some _ _).symm.trans H; with_reducible exact H2_) | with_reducible exact H | (rw [hy222]; exact H) | exact H
              have Ny222 := Aside0.mk hy222
              clear hy222
              by_cases c10 : (strOfNums y222).size + x5_2.size ≤ 9223372036854775807
              · rw [if_pos c10] at H
                have c10b0 := eq_true c10
                have c10b1 : decide ((strOfNums y222).size + x5_2.size ≤ 9223372036854775807) = true := decide_eq_true c10
                try have c10b2 : (9223372036854775807 < (strOfNums y222).size + x5_2.size) = False := eq_false (Nat.not_lt.2 c10)
                have H' := Aside0.mk H
                clear H
                go_wp2_with (first | ((with_reducible refine gate_dst (N := 28) rfl ?_); refine Kd.R_lit (Kd.int .u8) _ 5 ?hg (N := 28) ?hd (xs := ([(x6_2) % 256] : List Int)) (inner := [.int .u8 ((x6_2) % 256)]) (ok := fun _ => True) (okp := fun _ => True) ?hr ?hp (fun _ hk => hk) trivial (Below.refl _ _) (Nat.le_refl _) (by simp) ?_; (case hd => rfl); (case hg => rfl); (case hr => first | (go_simp; done) | (go_simp; rfl)); (case hp => exact (Reps.one (show Kd.M (Kd.int .u8) _ _ _ ((x6_2) % 256) [.int .u8 ((x6_2) % 256)] from rfl) (Reps.none _ _))); intro v223 w11 ho12 hb hg_ hnew_; clear hg_ hnew_; (first | rw [← Ny222.out] at ho12 | (simp only [Int.reduceToNat] at ho12; rw [← Ny222.out] at ho12)); have n0_ := Aside0.mk (Kd.R_lower ho12 (below_size (by repeat (first | (with_reducible first | exact HB.out | apply below_alloc | apply pw_below_drewN | apply below_drew1) | exact HB.out)))); have n1_ := Aside0.mk (below_step (by repeat (first | (with_reducible first | exact HB.out | apply below_alloc | apply pw_below_drewN | apply below_drew1) | exact HB.out)) hb); clear HB; have HO224 := n0_; have HB := n1_; clear n0_ n1_; clear hb ho12; have hcv13 := own_string (P := Tryd.prog) Tryd.underlying37 Tryd.underlying5 Tryd.underlying9 (Kd.own_of_R HO224.out)))
                go_roundg k2
                case measure => have := HJ2.out; have := HK2.out; omega
                case rel => exact ⟨((strOfNums y222) ++ x5_2), (x6_2 / 256), (by first | rfl | (simp; done) | (simp [*]; done)), (by first | rfl | (simp; done) | (simp [*]; done)), H', ⟨by have := HJ2.out; have := HK2.out; omega⟩, ⟨by repeat (first | (with_reducible first | exact HB.out | apply below_alloc | apply pw_below_drewN | apply below_drew1) | exact HB.out)⟩⟩
              · rw [if_neg c10] at H
                exact absurd H (by simp)
            · rw [if_neg c9] at H
              have c9b0 : decide (0 < x6_2) = false := decide_eq_false c9
              clear c9
              by_cases c14 : x5_2.toList = ([] : List UInt8)
              · rw [if_pos c14] at H
                have c14b0 : (x5_2.toList == ([] : List UInt8)) = true := beq_iff_eq.mpr c14
                have c14b1 : (x5_2.toList != ([] : List UInt8)) = false := bne_eq_false_iff_eq.mpr c14
                clear c14
                obtain ⟨y225, hy225⟩ : ∃ y_ : List Int, y_ = (([(x6_2) % 256] : List Int)) := ⟨_, rfl⟩
                replace H : (if (strOfNums y225).size + x5_2.size ≤ 9223372036854775807 then (spec_BerLength.l0 k2 a1 ((strOfNums y225) ++ x5_2) (x6_2 / 256)) else (none)) = some r := by first | (rw [hy225]; with_reducible exact H) | (have H2_ := (Option.bind_some _ _).symm.trans H; rw [hy225]; with_reducible exact H2_) | (have H2_ := (Option.bind_some _ _).symm.trans H; with_reducible exact H2_) | with_reducible exact H | (rw [hy225]; exact H) | exact H
                have Ny225 := Aside0.mk hy225
                clear hy225
                by_cases c15 : (strOfNums y225).size + x5_2.size ≤ 9223372036854775807
                · rw [if_pos c15] at H
                  have c15b0 := eq_true c15
                  have c15b1 : decide ((strOfNums y225).size + x5_2.size ≤ 9223372036854775807) = true := decide_eq_true c15
                  try have c15b2 : (9223372036854775807 < (strOfNums y225).size + x5_2.size) = False := eq_false (Nat.not_lt.2 c15)
                  have H' := Aside0.mk H
                  clear H
                  go_wp2_with (first | ((with_reducible refine gate_dst (N := 28) rfl ?_); refine Kd.R_lit (Kd.int .u8) _ 5 ?hg (N := 28) ?hd (xs := ([(x6_2) % 256] : List Int)) (inner := [.int .u8 ((x6_2) % 256)]) (ok := fun _ => True) (okp := fun _ => True) ?hr ?hp (fun _ hk => hk) trivial (Below.refl _ _) (Nat.le_refl _) (by simp) ?_; (case hd => rfl); (case hg => rfl); (case hr => first | (go_simp; done) | (go_simp; rfl)); (case hp => exact (Reps.one (show Kd.M (Kd.int .u8) _ _ _ ((x6_2) % 256) [.int .u8 ((x6_2) % 256)] from rfl) (Reps.none _ _))); intro v226 w16 ho17 hb hg_ hnew_; clear hg_ hnew_; (first | rw [← Ny225.out] at ho17 | (simp only [Int.reduceToNat] at ho17; rw [← Ny225.out] at ho17)); have n0_ := Aside0.mk (Kd.R_lower ho17 (below_size (by repeat (first | (with_reducible first | exact HB.out | apply below_alloc | apply pw_below_drewN | apply below_drew1) | exact HB.out)))); have n1_ := Aside0.mk (below_step (by repeat (first | (with_reducible first | exact HB.out | apply below_alloc | apply pw_below_drewN | apply below_drew1) | exact HB.out)) hb); clear HB; have HO227 := n0_; have HB := n1_; clear n0_ n1_; clear hb ho17; have hcv18 := own_string (P := Tryd.prog) Tryd.underlying37 Tryd.underlying5 Tryd.underlying9 (Kd.own_of_R HO227.out)))
                  go_roundg k2
                  case measure => have := HJ2.out; have := HK2.out; omega
                  case rel => exact ⟨((strOfNums y225) ++ x5_2), (x6_2 / 256), (by first | rfl | (simp; done) | (simp [*]; done)), (by first | rfl | (simp; done) | (simp [*]; done)), H', ⟨by have := HJ2.out; have := HK2.out; omega⟩, ⟨by repeat (first | (with_reducible first | exact HB.out | apply below_alloc | apply pw_below_drewN | apply below_drew1) | exact HB.out)⟩⟩
                · rw [if_neg c15] at H
                  exact absurd H (by simp)
              · rw [if_neg c14] at H
                have c14b0 : (x5_2.toList == ([] : List UInt8)) = false := beq_eq_false_iff_ne.mpr c14
                have c14b1 : (x5_2.toList != ([] : List UInt8)) = true := bne_iff_ne.mpr c14
                obtain ⟨ji19, hji19⟩ : ∃ j_ : Int, (mx (wrap64 (a1 - 1)) 0) = j_ := ⟨_, rfl⟩
                replace H : (spec_BerLength.l1 k2 x5_2 ji19 0) = some r := by first | (rw [hji19] at H; exact H) | (simp only [hji19] at H ⊢; exact H)
                have hji19_ : (if (wrap64 (a1 - 1)) < 0 then 0 else (wrap64 (a1 - 1))) = ji19 := hji19
                have H' := Aside0.mk H
                clear H
                go_wp2
                go_loopg [5, 35] k2 (fun kq v5 v35 w' => ∃ (x5_3 : ByteArray) (x35_3 : Int), v5 = .string x5_3 ∧ v35 = .int .i64 x35_3 ∧ Aside0 (spec_BerLength.l1 kq x5_3 ji19 x35_3 = some r) ∧ Aside0 (kq ≤ k2) ∧ Aside0 (Below w.heap.size w w'))
                case atStart => exact ⟨(x5_2), (0), (by first | rfl | (simp; done) | (simp [*]; done)), (by first | rfl | (simp; done) | (simp [*]; done)), H', ⟨Nat.le_refl _⟩, ⟨by repeat (first | (with_reducible first | exact HB.out | apply below_alloc | apply pw_below_drewN | apply below_drew1) | exact HB.out)⟩⟩
                case round =>
                  clear H'
                  try clear c1
                  try clear hcv1
                  try clear p2
                  try clear c3
                  try clear c4
                  try clear c4b0
                  try clear c5
                  try clear p6
                  try clear hcv8
                  try clear c9
                  try clear c9b0
                  try clear c10
                  try clear c10b0
                  try clear c10b1
                  try clear c10b2
                  try clear hcv13
                  try clear c14
                  try clear c14b0
                  try clear c14b1
                  try clear c15
                  try clear c15b0
                  try clear c15b1
                  try clear c15b2
                  try clear hcv18
                  try clear p2
                  obtain ⟨x5_3, x35_3, rfl, rfl, HA, HK3, HB⟩ := hrel
                  cases gk with
                  | zero => exact absurd HA.out (by simp [spec_BerLength.l1])
                  | succ k3 =>
                    have H := HA.out
                    clear HA
                    simp only [spec_BerLength.l1] at H
                    by_cases c20 : x35_3 < ji19
                    · rw [if_pos c20] at H
                      have c20b0 : decide (x35_3 < ji19) = true := decide_eq_true c20
                      clear c20
                      by_cases c21 : 1 + x5_3.size ≤ 9223372036854775807
                      · rw [if_pos c21] at H
                        have c21b0 := eq_true c21
                        have c21b1 : decide (1 + x5_3.size ≤ 9223372036854775807) = true := decide_eq_true c21
                        try have c21b2 : (9223372036854775807 < 1 + x5_3.size) = False := eq_false (Nat.not_lt.2 c21)
                        have H' := Aside0.mk H
                        clear H
                        go_wp2
                        go_roundg k3
                        case measure => have := HJ2.out; have := HK2.out; have := HK3.out; omega
                        case rel => exact ⟨((⟨#[0]⟩ : ByteArray) ++ x5_3), (wrap64 (x35_3 + 1)), (by first | rfl | (simp; done) | (simp [*]; done)), (by first | rfl | (simp; done) | (simp [*]; done)), H', ⟨by have := HJ2.out; have := HK2.out; have := HK3.out; omega⟩, ⟨by repeat (first | (with_reducible first | exact HB.out | apply below_alloc | apply pw_below_drewN | apply below_drew1) | exact HB.out)⟩⟩
                      · rw [if_neg c21] at H
                        exact absurd H (by simp)
                    · rw [if_neg c20] at H
                      have c20b0 : decide (x35_3 < ji19) = false := decide_eq_false c20
                      clear c20
                      obtain ⟨y228, hy228⟩ : ∃ y_ : List Int, y_ = (([Go.bits .or .u8 128 (((x5_3.size : Int)) % 256)] : List Int)) := ⟨_, rfl⟩
                      replace H : (if (strOfNums y228).size + x5_3.size ≤ 9223372036854775807 then (some ((strOfNums y228) ++ x5_3)) else (none)) = some r := by first | (rw [hy228]; with_reducible exact H) | (have H2_ := (Option.bind_some _ _).symm.trans H; rw [hy228]; with_reducible exact H2_) | (have H2_ := (Option.bind_some _ _).symm.trans H; with_reducible exact H2_) | with_reducible exact H | (rw [hy228]; exact H) | exact H
                      have Ny228 := Aside0.mk hy228
                      clear hy228
                      by_cases c22 : (strOfNums y228).size + x5_3.size ≤ 9223372036854775807
                      · rw [if_pos c22] at H
                        have c22b0 := eq_true c22
                        have c22b1 : decide ((strOfNums y228).size + x5_3.size ≤ 9223372036854775807) = true := decide_eq_true c22
                        try have c22b2 : (9223372036854775807 < (strOfNums y228).size + x5_3.size) = False := eq_false (Nat.not_lt.2 c22)
                        obtain rfl := Option.some.inj H
                        go_wp2_with (first | ((with_reducible refine gate_dst (N := 44) rfl ?_); refine Kd.R_lit (Kd.int .u8) _ 5 ?hg (N := 44) ?hd (xs := ([Go.bits .or .u8 128 (((x5_3.size : Int)) % 256)] : List Int)) (inner := [.int .u8 (Go.bits .or .u8 128 (((x5_3.size : Int)) % 256))]) (ok := fun _ => True) (okp := fun _ => True) ?hr ?hp (fun _ hk => hk) trivial (Below.refl _ _) (Nat.le_refl _) (by simp) ?_; (case hd => rfl); (case hg => rfl); (case hr => first | (go_simp; done) | (go_simp; rfl)); (case hp => exact (Reps.one (show Kd.M (Kd.int .u8) _ _ _ (Go.bits .or .u8 128 (((x5_3.size : Int)) % 256)) [.int .u8 (Go.bits .or .u8 128 (((x5_3.size : Int)) % 256))] from rfl) (Reps.none _ _))); intro v229 w23 ho24 hb hg_ hnew_; clear hg_ hnew_; (first | rw [← Ny228.out] at ho24 | (simp only [Int.reduceToNat] at ho24; rw [← Ny228.out] at ho24)); have n0_ := Aside0.mk (Kd.R_lower ho24 (below_size (by repeat (first | (with_reducible first | exact HB.out | apply below_alloc | apply pw_below_drewN | apply below_drew1) | exact HB.out)))); have n1_ := Aside0.mk (below_step (by repeat (first | (with_reducible first | exact HB.out | apply below_alloc | apply pw_below_drewN | apply below_drew1) | exact HB.out)) hb); clear HB; have HO230 := n0_; have HB := n1_; clear n0_ n1_; clear hb ho24; have hcv25 := own_string (P := Tryd.prog) Tryd.underlying37 Tryd.underlying5 Tryd.underlying9 (Kd.own_of_R HO230.out)))
                        go_ret
                        exact ⟨by first | rfl | (simp [errW_none, errW_some] <;> rfl) | (simp only [← hji19]; first | rfl | (simp [errW_none, errW_some] <;> rfl)) | (simp [*, errW_none, errW_some] <;> rfl), by repeat (first | (with_reducible first | exact HB.out | apply below_alloc | apply pw_below_drewN | apply below_drew1) | exact HB.out)⟩
                      · rw [if_neg c22] at H
                        exact absurd H (by simp)

-- NOT PRINTED: function 28 (spec_berForms)

-- NOT PRINTED: function 14 (spec_BerForms)

-- NOT PRINTED: function 17 (spec_BerText)

/-! ### laws_zzFits5: function 18 -/
def laws_zzFits5.f (a0_0 : Int) (a0_1 : Bool) (a0_2 : Int) (a0_3 : ByteArray) (l0_4 : List (S26)) : Option (Bool) := if (a0_3.size : Int) > 2147483647 then (some false) else (if (l0_4.length : Int) > 2147483647 then (some false) else (some true))
set_option maxHeartbeats 8000000 in
set_option maxRecDepth 100000 in
theorem laws_zzFits5.calls (a0_0 : Int) (a0_1 : Bool) (a0_2 : Int) (a0_3 : ByteArray) (A0_4 : Option Addr) (c0_4 : Nat) (l0_4 : List (S26)) (r : Bool) (w : World) (hr0_4 : Kd.C k26 w A0_4 l0_4.length l0_4) (hc0_4 : l0_4.length ≤ c0_4) (h : laws_zzFits5.f a0_0 a0_1 a0_2 a0_3 l0_4 = some r) :
    Calls Tryd.prog 18 #[.agg #[.int .u8 a0_0, .bool a0_1, .int .u64 a0_2, .string a0_3, .slice A0_4 l0_4.length c0_4]] w fun e w' => e = .returned (.bool r) ∧ Below w.heap.size w w' := by
  have hu26 := Tryd.underlying26
  have HR0_4 := Aside0.mk hr0_4
  have HC0_4 := Aside0.mk hc0_4
  clear hr0_4 hc0_4
  have HB := Aside0.mk (Below.refl w.heap.size w)
  have H : (if (a0_3.size : Int) > 2147483647 then (some false) else (if (l0_4.length : Int) > 2147483647 then (some false) else (some true))) = some r := h
  clear h
  by_cases c2 : (a0_3.size : Int) > 2147483647
  · rw [if_pos c2] at H
    have c2b0 : decide (2147483647 < (a0_3.size : Int)) = true := decide_eq_true c2
    have c2b1 : decide (2147483647 < a0_3.size) = true := decide_eq_true (by omega)
    clear c2
    obtain rfl := Option.some.inj H
    go_enter Tryd.func18, Tryd.ntmps18
    go_wp2_with (first | ((with_reducible refine gate_dst (N := 1) rfl ?_); refine box_event ?hg (N := 1) ?hd (cs := #[.int .u8 a0_0, .bool a0_1, .int .u64 a0_2, .string a0_3, .slice A0_4 l0_4.length c0_4]) (t := 26) ?hr ?_; (case hd => rfl); (case hg => rfl); (case hr => first | (go_simp; done) | (go_simp; rfl)); intro gb233 hg w3 hbox hb; have n0_ := Aside0.mk (below_step (by repeat (first | (with_reducible first | exact HB.out | apply below_alloc | apply pw_below_drewN | apply below_drew1) | exact HB.out)) hb); have n1_ := Aside0.mk (hbox); have n2_ := Aside0.mk ((by rw [hg]; exact (below_size (by repeat (first | (with_reducible first | exact HB.out | apply below_alloc | apply pw_below_drewN | apply below_drew1) | exact HB.out))) : w.heap.size ≤ gb233)); have n3_ := Aside0.mk ((by rw [hg]; exact (below_size (by repeat (first | (with_reducible first | exact HB.out | apply below_alloc | apply pw_below_drewN | apply below_drew1) | exact HB.out))) : w.heap.size ≤ gb233)); clear HB; have HB := n0_; have BK233 := n1_; have GW233 := n2_; have GE233 := n3_; clear n0_ n1_ n2_ n3_; clear hb hbox hg; have hcz4_0 : w3.cell? ⟨gb233, 0, none⟩ = some (.int .u8 a0_0) := (blk_cell BK233.out 0).trans rfl; have hcz4_1 : w3.cell? ⟨gb233, 1, none⟩ = some (.bool a0_1) := (blk_cell BK233.out 1).trans rfl; have hcz4_2 : w3.cell? ⟨gb233, 2, none⟩ = some (.int .u64 a0_2) := (blk_cell BK233.out 2).trans rfl; have hcz4_3 : w3.cell? ⟨gb233, 3, none⟩ = some (.string a0_3) := (blk_cell BK233.out 3).trans rfl; have hcz4_4 : w3.cell? ⟨gb233, 4, none⟩ = some (.slice A0_4 l0_4.length c0_4) := (blk_cell BK233.out 4).trans rfl; have hfz4_0 := blk_frozen BK233.out 0; have hfz4_1 := blk_frozen BK233.out 1; have hfz4_2 := blk_frozen BK233.out 2; have hfz4_3 := blk_frozen BK233.out 3; have hfz4_4 := blk_frozen BK233.out 4))
    go_ret
    exact ⟨by first | rfl | (simp [errW_none, errW_some] <;> rfl) | (simp [*, errW_none, errW_some] <;> rfl), by repeat (first | (with_reducible first | exact HB.out | apply below_alloc | apply pw_below_drewN | apply below_drew1 | refine below_set ?_ GE233.out) | exact HB.out)⟩
  · rw [if_neg c2] at H
    have c2b0 : decide (2147483647 < (a0_3.size : Int)) = false := decide_eq_false c2
    have c2b1 : decide (2147483647 < a0_3.size) = false := decide_eq_false (by omega)
    clear c2
    by_cases c5 : (l0_4.length : Int) > 2147483647
    · rw [if_pos c5] at H
      have c5b0 : decide (2147483647 < (l0_4.length : Int)) = true := decide_eq_true c5
      have c5b1 : decide (2147483647 < l0_4.length) = true := decide_eq_true (by omega)
      clear c5
      obtain rfl := Option.some.inj H
      go_enter Tryd.func18, Tryd.ntmps18
      go_wp2_with (first | ((with_reducible refine gate_dst (N := 1) rfl ?_); refine box_event ?hg (N := 1) ?hd (cs := #[.int .u8 a0_0, .bool a0_1, .int .u64 a0_2, .string a0_3, .slice A0_4 l0_4.length c0_4]) (t := 26) ?hr ?_; (case hd => rfl); (case hg => rfl); (case hr => first | (go_simp; done) | (go_simp; rfl)); intro gb233 hg w6 hbox hb; have n0_ := Aside0.mk (below_step (by repeat (first | (with_reducible first | exact HB.out | apply below_alloc | apply pw_below_drewN | apply below_drew1) | exact HB.out)) hb); have n1_ := Aside0.mk (hbox); have n2_ := Aside0.mk ((by rw [hg]; exact (below_size (by repeat (first | (with_reducible first | exact HB.out | apply below_alloc | apply pw_below_drewN | apply below_drew1) | exact HB.out))) : w.heap.size ≤ gb233)); have n3_ := Aside0.mk ((by rw [hg]; exact (below_size (by repeat (first | (with_reducible first | exact HB.out | apply below_alloc | apply pw_below_drewN | apply below_drew1) | exact HB.out))) : w.heap.size ≤ gb233)); clear HB; have HB := n0_; have BK233 := n1_; have GW233 := n2_; have GE233 := n3_; clear n0_ n1_ n2_ n3_; clear hb hbox hg; have hcz7_0 : w6.cell? ⟨gb233, 0, none⟩ = some (.int .u8 a0_0) := (blk_cell BK233.out 0).trans rfl; have hcz7_1 : w6.cell? ⟨gb233, 1, none⟩ = some (.bool a0_1) := (blk_cell BK233.out 1).trans rfl; have hcz7_2 : w6.cell? ⟨gb233, 2, none⟩ = some (.int .u64 a0_2) := (blk_cell BK233.out 2).trans rfl; have hcz7_3 : w6.cell? ⟨gb233, 3, none⟩ = some (.string a0_3) := (blk_cell BK233.out 3).trans rfl; have hcz7_4 : w6.cell? ⟨gb233, 4, none⟩ = some (.slice A0_4 l0_4.length c0_4) := (blk_cell BK233.out 4).trans rfl; have hfz7_0 := blk_frozen BK233.out 0; have hfz7_1 := blk_frozen BK233.out 1; have hfz7_2 := blk_frozen BK233.out 2; have hfz7_3 := blk_frozen BK233.out 3; have hfz7_4 := blk_frozen BK233.out 4))
      go_ret
      exact ⟨by first | rfl | (simp [errW_none, errW_some] <;> rfl) | (simp [*, errW_none, errW_some] <;> rfl), by repeat (first | (with_reducible first | exact HB.out | apply below_alloc | apply pw_below_drewN | apply below_drew1 | refine below_set ?_ GE233.out) | exact HB.out)⟩
    · rw [if_neg c5] at H
      have c5b0 : decide (2147483647 < (l0_4.length : Int)) = false := decide_eq_false c5
      have c5b1 : decide (2147483647 < l0_4.length) = false := decide_eq_false (by omega)
      clear c5
      obtain rfl := Option.some.inj H
      go_enter Tryd.func18, Tryd.ntmps18
      go_wp2_with (first | ((with_reducible refine gate_dst (N := 1) rfl ?_); refine box_event ?hg (N := 1) ?hd (cs := #[.int .u8 a0_0, .bool a0_1, .int .u64 a0_2, .string a0_3, .slice A0_4 l0_4.length c0_4]) (t := 26) ?hr ?_; (case hd => rfl); (case hg => rfl); (case hr => first | (go_simp; done) | (go_simp; rfl)); intro gb233 hg w8 hbox hb; have n0_ := Aside0.mk (below_step (by repeat (first | (with_reducible first | exact HB.out | apply below_alloc | apply pw_below_drewN | apply below_drew1) | exact HB.out)) hb); have n1_ := Aside0.mk (hbox); have n2_ := Aside0.mk ((by rw [hg]; exact (below_size (by repeat (first | (with_reducible first | exact HB.out | apply below_alloc | apply pw_below_drewN | apply below_drew1) | exact HB.out))) : w.heap.size ≤ gb233)); have n3_ := Aside0.mk ((by rw [hg]; exact (below_size (by repeat (first | (with_reducible first | exact HB.out | apply below_alloc | apply pw_below_drewN | apply below_drew1) | exact HB.out))) : w.heap.size ≤ gb233)); clear HB; have HB := n0_; have BK233 := n1_; have GW233 := n2_; have GE233 := n3_; clear n0_ n1_ n2_ n3_; clear hb hbox hg; have hcz9_0 : w8.cell? ⟨gb233, 0, none⟩ = some (.int .u8 a0_0) := (blk_cell BK233.out 0).trans rfl; have hcz9_1 : w8.cell? ⟨gb233, 1, none⟩ = some (.bool a0_1) := (blk_cell BK233.out 1).trans rfl; have hcz9_2 : w8.cell? ⟨gb233, 2, none⟩ = some (.int .u64 a0_2) := (blk_cell BK233.out 2).trans rfl; have hcz9_3 : w8.cell? ⟨gb233, 3, none⟩ = some (.string a0_3) := (blk_cell BK233.out 3).trans rfl; have hcz9_4 : w8.cell? ⟨gb233, 4, none⟩ = some (.slice A0_4 l0_4.length c0_4) := (blk_cell BK233.out 4).trans rfl; have hfz9_0 := blk_frozen BK233.out 0; have hfz9_1 := blk_frozen BK233.out 1; have hfz9_2 := blk_frozen BK233.out 2; have hfz9_3 := blk_frozen BK233.out 3; have hfz9_4 := blk_frozen BK233.out 4))
      go_ret
      exact ⟨by first | rfl | (simp [errW_none, errW_some] <;> rfl) | (simp [*, errW_none, errW_some] <;> rfl), by repeat (first | (with_reducible first | exact HB.out | apply below_alloc | apply pw_below_drewN | apply below_drew1 | refine below_set ?_ GE233.out) | exact HB.out)⟩

-- NOT PRINTED: function 37 (asn1ber_Encode)

-- NOT PRINTED: function 30 (impl_packet)

-- NOT PRINTED: function 19 (impl_BerWrite)

end Go.Proofs.YtdfehaonngccjaaDoor.PFnBerForms
