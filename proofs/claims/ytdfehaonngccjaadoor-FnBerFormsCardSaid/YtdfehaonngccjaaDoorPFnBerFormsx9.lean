-- PRINTED BY print.sh 35421559b90ae4d0a3588c463048766b98c2df88dd9212a6774a882060cdf62d: not written by this session
import Derived.Test.YtdfehaonngccjaaDoorPFnBerFormsx0
namespace Go.Proofs.YtdfehaonngccjaaDoor.PFnBerForms
open Go.RowKit Go.Proofs.YtdfehaonngccjaaDoorW.PrintWords Go.Proofs.YtdfehaonngccjaaDoorW.PrintLast Go.Proofs.YtdfehaonngccjaaDoorW.PrintMore
attribute [local go_sem] max2_int min2_int max_two min_two max_three min_three max_four min_four   -- for this text's walks alone
set_option linter.unusedVariables false
set_option linter.unusedSimpArgs false

/-! ### laws_berTo: function 20 -/
mutual
def laws_berTo.l0 : Nat → List (S26) → Int → Int → Int → Bool → Int → ByteArray → List (S31) → Option (Int × Bool × Int × ByteArray × (List (S31)))
  | 0, _, _, _, _, _, _, _, _ => none
  | k + 1, x16, x17, x18, x238000, x238001, x238002, x238003, x238004 => if x18 < x17 then (if 0 ≤ x18 then (if x18 < (x16.length : Int) then ((laws_berTo.f k ((rd_T26 x16 x18).f0) ((rd_T26 x16 x18).f1) ((rd_T26 x16 x18).f2) ((rd_T26 x16 x18).f3) ((rd_T26 x16 x18).f4)).bind fun bt240 => (if x238004.length < 2513169434916 then (laws_berTo.l0 k x16 x17 (wrap64 (x18 + 1)) x238000 x238001 x238002 x238003 (x238004 ++ [(⟨bt240.1, bt240.2.1, bt240.2.2.1, bt240.2.2.2.1, bt240.2.2.2.2⟩ : S31)])) else (none))) else (none)) else (none)) else (some (x238000, x238001, x238002, x238003, x238004))
def laws_berTo.f : Nat → Int → Bool → Int → ByteArray → List (S26) → Option (Int × Bool × Int × ByteArray × (List (S31)))
  | 0, _, _, _, _, _ => none
  | k + 1, a0_0, a0_1, a0_2, a0_3, l0_4 => laws_berTo.l0 k l0_4 (l0_4.length : Int) 0 a0_0 a0_1 a0_2 a0_3 ([] : List (S31))
end
theorem laws_berTo.mono_l : ∀ k, (∀ y0 y1 y2 y3 y4, LeO (laws_berTo.f k y0 y1 y2 y3 y4) (laws_berTo.f (k + 1) y0 y1 y2 y3 y4)) ∧ (∀ y0 y1 y2 y3 y4 y5 y6 y7, LeO (laws_berTo.l0 k y0 y1 y2 y3 y4 y5 y6 y7) (laws_berTo.l0 (k + 1) y0 y1 y2 y3 y4 y5 y6 y7))
  | 0 => ⟨fun _ _ _ _ _ r h => by simp [laws_berTo.f] at h, fun _ _ _ _ _ _ _ _ r h => by simp [laws_berTo.l0] at h⟩
  | k + 1 => by
    obtain ⟨ih0, ih1⟩ := laws_berTo.mono_l k
    refine ⟨?_, ?_⟩
    · intro y0 y1 y2 y3 y4
      unfold laws_berTo.f
      repeat' first
      | (with_reducible exact ih0 _ _ _ _ _)
      | (with_reducible exact ih1 _ _ _ _ _ _ _ _)
      | (with_reducible exact LeO.refl _)
      | (with_reducible exact LeO.none _)
      | (with_reducible refine LeO.ite ?_ ?_)
      | (with_reducible refine LeO.bind ?_ (fun _ => ?_))
      | exact ih0 _ _ _ _ _
      | exact ih1 _ _ _ _ _ _ _ _
      | exact LeO.none _
      | refine LeO.ite ?_ ?_
      | refine LeO.bind ?_ (fun _ => ?_)
    · intro y0 y1 y2 y3 y4 y5 y6 y7
      unfold laws_berTo.l0
      repeat' first
      | (with_reducible exact ih0 _ _ _ _ _)
      | (with_reducible exact ih1 _ _ _ _ _ _ _ _)
      | (with_reducible exact LeO.refl _)
      | (with_reducible exact LeO.none _)
      | (with_reducible refine LeO.ite ?_ ?_)
      | (with_reducible refine LeO.bind ?_ (fun _ => ?_))
      | exact ih0 _ _ _ _ _
      | exact ih1 _ _ _ _ _ _ _ _
      | exact LeO.none _
      | refine LeO.ite ?_ ?_
      | refine LeO.bind ?_ (fun _ => ?_)
theorem laws_berTo.mono : ∀ a0 a1 a2 a3 a4 k, LeO (laws_berTo.f k a0 a1 a2 a3 a4) (laws_berTo.f (k + 1) a0 a1 a2 a3 a4) := by
  intro a0 a1 a2 a3 a4 k
  obtain ⟨ih0, ih1⟩ := laws_berTo.mono_l k
  exact ih0 a0 a1 a2 a3 a4
def laws_berTo.T5 : Bool × List (List Nat × List Nat) := (true, [([], []), ([0], [0]), ([], []), ([2], [2]), ([3], [3]), ([1, 4, 3], [1, 4]), ([0, 1, 2, 3, 4, 5], []), ([6, 5, 5, 0, 1, 2, 3, 4, 5], [5, 6])])
def laws_berTo.B5 : List Nat := [0, 1, 0, 4, 12, 31, 63, 127]
theorem laws_berTo.tab5 : rtab .any (opsOf Tryd.f20 5) = laws_berTo.T5 := by kernel_rfl
theorem laws_berTo.bits5 : waitsOk laws_berTo.T5.2 laws_berTo.B5 = true := by kernel_rfl
set_option maxHeartbeats 8000000 in
set_option maxRecDepth 100000 in
theorem laws_berTo.calls (k : Nat) : ∀ (a0_0 : Int) (a0_1 : Bool) (a0_2 : Int) (a0_3 : ByteArray) (A0_4 : Option Addr) (c0_4 : Nat) (l0_4 : List (S26)) (r1 : Int) (r2 : Bool) (r3 : Int) (r4 : ByteArray) (r5 : List (S31)) (w : World) (hr0_4 : Kd.C k26 w A0_4 l0_4.length l0_4) (hc0_4 : l0_4.length ≤ c0_4) (h : laws_berTo.f k a0_0 a0_1 a0_2 a0_3 l0_4 = some (r1, r2, r3, r4, r5)),
    Calls Tryd.prog 20 #[.agg #[.int .u8 a0_0, .bool a0_1, .int .u64 a0_2, .string a0_3, .slice A0_4 l0_4.length c0_4]] w fun e w' => ∃ v4_ : Value, e = .returned (.agg #[.int .u8 r1, .bool r2, .int .u64 r3, .string r4, v4_]) ∧ Kd.R k31 31 w' w.heap.size (fun _ => True) v4_ r5 ∧ Below w.heap.size w w' := by
  induction k using Nat.strongRecOn with
  | _ k ih =>
  intro a0_0 a0_1 a0_2 a0_3 A0_4 c0_4 l0_4 r1 r2 r3 r4 r5 w hr0_4 hc0_4 h
  cases k with
  | zero => exact absurd h (by simp [laws_berTo.f])
  | succ k =>
  simp only [laws_berTo.f] at h
  have hu26 := Tryd.underlying26
  have hu31 := Tryd.underlying31
  have HR0_4 := Aside0.mk hr0_4
  have HC0_4 := Aside0.mk hc0_4
  clear hr0_4 hc0_4
  have HB := Aside0.mk (Below.refl w.heap.size w)
  have H : (laws_berTo.l0 k l0_4 (l0_4.length : Int) 0 a0_0 a0_1 a0_2 a0_3 ([] : List (S31))) = some (r1, r2, r3, r4, r5) := h
  clear h
  have H' := Aside0.mk H
  clear H
  go_enter Tryd.func20, Tryd.ntmps20
  go_wp2_with (first | ((with_reducible refine gate_dst (N := 1) rfl ?_); refine box_event ?hg (N := 1) ?hd (cs := #[.int .u8 a0_0, .bool a0_1, .int .u64 a0_2, .string a0_3, .slice A0_4 l0_4.length c0_4]) (t := 26) ?hr ?_; (case hd => rfl); (case hg => rfl); (case hr => first | (go_simp; done) | (go_simp; rfl)); intro gb235 hg w2 hbox hb; have n0_ := Aside0.mk (below_step (by repeat (first | (with_reducible first | exact HB.out | apply below_alloc | apply pw_below_drewN | apply below_drew1) | exact HB.out)) hb); have n1_ := Aside0.mk (hbox); have n2_ := Aside0.mk ((by rw [hg]; exact (below_size (by repeat (first | (with_reducible first | exact HB.out | apply below_alloc | apply pw_below_drewN | apply below_drew1) | exact HB.out))) : w.heap.size ≤ gb235)); have n3_ := Aside0.mk ((by rw [hg]; exact (below_size (by repeat (first | (with_reducible first | exact HB.out | apply below_alloc | apply pw_below_drewN | apply below_drew1) | exact HB.out))) : w.heap.size ≤ gb235)); clear HB; have HB := n0_; have BK235 := n1_; have GW235 := n2_; have GE235 := n3_; clear n0_ n1_ n2_ n3_; clear hb hbox hg) | ((with_reducible refine gate_dst (N := 2) rfl ?_); refine box_event ?hg (N := 2) ?hd (cs := #[.int .u8 0, .bool false, .int .u64 0, .string (⟨#[]⟩ : ByteArray), .slice none 0 0]) (t := 31) ?hr ?_; (case hd => rfl); (case hg => rfl); (case hr => first | (go_simp; done) | (go_simp; rfl)); intro gb236 hg w3 hbox hb; have n0_ := Aside0.mk (blk_below (g := gb235) (o := .cells #[.int .u8 a0_0, .bool a0_1, .int .u64 a0_2, .string a0_3, .slice A0_4 l0_4.length c0_4] 26 (0, 0)) (by (with_reducible repeat (first | refine blk_drewN ?_ _ | refine blk_drew ?_ | refine blk_alloc ?_ _)); exact BK235.out) hb); have n1_ := Aside0.mk (below_step (by repeat (first | (with_reducible first | exact HB.out | apply below_alloc | apply pw_below_drewN | apply below_drew1 | refine below_set ?_ GE235.out) | exact HB.out)) hb); have n2_ := Aside0.mk (hbox); have n3_ := Aside0.mk ((by rw [hg]; exact (below_size (by repeat (first | (with_reducible first | exact HB.out | apply below_alloc | apply pw_below_drewN | apply below_drew1 | refine below_set ?_ GE235.out) | exact HB.out))) : w.heap.size ≤ gb236)); have n4_ := Aside0.mk ((by rw [hg]; exact (below_size (by repeat (first | (with_reducible first | exact HB.out | apply below_alloc | apply pw_below_drewN | apply below_drew1 | refine below_set ?_ GE235.out) | exact HB.out))) : w.heap.size ≤ gb236)); have n5_ := Aside0.mk ((by rw [hg]; exact Nat.ne_of_lt (blk_lt (g := gb235) (o := .cells #[.int .u8 a0_0, .bool a0_1, .int .u64 a0_2, .string a0_3, .slice A0_4 l0_4.length c0_4] 26 (0, 0)) (by (with_reducible repeat (first | refine blk_drewN ?_ _ | refine blk_drew ?_ | refine blk_alloc ?_ _)); exact BK235.out)) : gb235 ≠ gb236)); have n6_ := Aside0.mk ((by rw [hg]; exact Nat.ne_of_gt (blk_lt (g := gb235) (o := .cells #[.int .u8 a0_0, .bool a0_1, .int .u64 a0_2, .string a0_3, .slice A0_4 l0_4.length c0_4] 26 (0, 0)) (by (with_reducible repeat (first | refine blk_drewN ?_ _ | refine blk_drew ?_ | refine blk_alloc ?_ _)); exact BK235.out)) : gb236 ≠ gb235)); clear BK235; clear HB; have BK235 := n0_; have HB := n1_; have BK236 := n2_; have GW236 := n3_; have GE236 := n4_; have NB235_236 := n5_; have NB236_235 := n6_; clear n0_ n1_ n2_ n3_ n4_ n5_ n6_; clear hb hbox hg; have hnb4 := NB235_236.out; have hnc4 := NB236_235.out; have hcz5_0 : w3.cell? ⟨gb235, 0, none⟩ = some (.int .u8 a0_0) := (blk_cell BK235.out 0).trans rfl; have hcz5_1 : w3.cell? ⟨gb235, 1, none⟩ = some (.bool a0_1) := (blk_cell BK235.out 1).trans rfl; have hcz5_2 : w3.cell? ⟨gb235, 2, none⟩ = some (.int .u64 a0_2) := (blk_cell BK235.out 2).trans rfl; have hcz5_3 : w3.cell? ⟨gb235, 3, none⟩ = some (.string a0_3) := (blk_cell BK235.out 3).trans rfl; have hcz5_4 : w3.cell? ⟨gb235, 4, none⟩ = some (.slice A0_4 l0_4.length c0_4) := (blk_cell BK235.out 4).trans rfl; have hfz5_0 := blk_frozen BK235.out 0; have hfz5_1 := blk_frozen BK235.out 1; have hfz5_2 := blk_frozen BK235.out 2; have hfz5_3 := blk_frozen BK235.out 3; have hfz5_4 := blk_frozen BK235.out 4) | ((with_reducible refine gate_dst (N := 3) rfl ?_); refine box_event ?hg (N := 3) ?hd (cs := #[.int .u8 0, .bool false, .int .u64 0, .string (⟨#[]⟩ : ByteArray), .slice none 0 0]) (t := 31) ?hr ?_; (case hd => rfl); (case hg => rfl); (case hr => first | (go_simp; done) | (go_simp; rfl)); intro gb237 hg w6 hbox hb; have n0_ := Aside0.mk (blk_below (g := gb235) (o := .cells #[.int .u8 a0_0, .bool a0_1, .int .u64 a0_2, .string a0_3, .slice A0_4 l0_4.length c0_4] 26 (0, 0)) (by (with_reducible repeat (first | refine blk_drewN ?_ _ | refine blk_drew ?_ | refine blk_alloc ?_ _)); exact BK235.out) hb); have n1_ := Aside0.mk (blk_below (g := gb236) (o := .cells #[.int .u8 0, .bool false, .int .u64 0, .string (⟨#[]⟩ : ByteArray), .slice none 0 0] 31 (0, 0)) (by (with_reducible repeat (first | refine blk_drewN ?_ _ | refine blk_drew ?_ | refine blk_alloc ?_ _)); exact BK236.out) hb); have n2_ := Aside0.mk (below_step (by repeat (first | (with_reducible first | exact HB.out | apply below_alloc | apply pw_below_drewN | apply below_drew1 | refine below_set ?_ GE235.out | refine below_set ?_ GE236.out) | exact HB.out)) hb); have n3_ := Aside0.mk (hbox); have n4_ := Aside0.mk ((by rw [hg]; exact (below_size (by repeat (first | (with_reducible first | exact HB.out | apply below_alloc | apply pw_below_drewN | apply below_drew1 | refine below_set ?_ GE235.out | refine below_set ?_ GE236.out) | exact HB.out))) : w.heap.size ≤ gb237)); have n5_ := Aside0.mk ((by rw [hg]; exact (below_size (by repeat (first | (with_reducible first | exact HB.out | apply below_alloc | apply pw_below_drewN | apply below_drew1 | refine below_set ?_ GE235.out | refine below_set ?_ GE236.out) | exact HB.out))) : w.heap.size ≤ gb237)); have n6_ := Aside0.mk ((by rw [hg]; exact Nat.ne_of_lt (blk_lt (g := gb235) (o := .cells #[.int .u8 a0_0, .bool a0_1, .int .u64 a0_2, .string a0_3, .slice A0_4 l0_4.length c0_4] 26 (0, 0)) (by (with_reducible repeat (first | refine blk_drewN ?_ _ | refine blk_drew ?_ | refine blk_alloc ?_ _)); exact BK235.out)) : gb235 ≠ gb237)); have n7_ := Aside0.mk ((by rw [hg]; exact Nat.ne_of_gt (blk_lt (g := gb235) (o := .cells #[.int .u8 a0_0, .bool a0_1, .int .u64 a0_2, .string a0_3, .slice A0_4 l0_4.length c0_4] 26 (0, 0)) (by (with_reducible repeat (first | refine blk_drewN ?_ _ | refine blk_drew ?_ | refine blk_alloc ?_ _)); exact BK235.out)) : gb237 ≠ gb235)); have n8_ := Aside0.mk ((by rw [hg]; exact Nat.ne_of_lt (blk_lt (g := gb236) (o := .cells #[.int .u8 0, .bool false, .int .u64 0, .string (⟨#[]⟩ : ByteArray), .slice none 0 0] 31 (0, 0)) (by (with_reducible repeat (first | refine blk_drewN ?_ _ | refine blk_drew ?_ | refine blk_alloc ?_ _)); exact BK236.out)) : gb236 ≠ gb237)); have n9_ := Aside0.mk ((by rw [hg]; exact Nat.ne_of_gt (blk_lt (g := gb236) (o := .cells #[.int .u8 0, .bool false, .int .u64 0, .string (⟨#[]⟩ : ByteArray), .slice none 0 0] 31 (0, 0)) (by (with_reducible repeat (first | refine blk_drewN ?_ _ | refine blk_drew ?_ | refine blk_alloc ?_ _)); exact BK236.out)) : gb237 ≠ gb236)); clear BK235; clear BK236; clear HB; have BK235 := n0_; have BK236 := n1_; have HB := n2_; have BK237 := n3_; have GW237 := n4_; have GE237 := n5_; have NB235_237 := n6_; have NB237_235 := n7_; have NB236_237 := n8_; have NB237_236 := n9_; clear n0_ n1_ n2_ n3_ n4_ n5_ n6_ n7_ n8_ n9_; clear hb hbox hg; have hnb7 := NB237_235.out; have hnc7 := NB235_237.out; have hnb8 := NB237_236.out; have hnc8 := NB236_237.out; have hcz9_0 : w6.cell? ⟨gb237, 0, none⟩ = some (.int .u8 0) := (blk_cell BK237.out 0).trans rfl; have hcz9_1 : w6.cell? ⟨gb237, 1, none⟩ = some (.bool false) := (blk_cell BK237.out 1).trans rfl; have hcz9_2 : w6.cell? ⟨gb237, 2, none⟩ = some (.int .u64 0) := (blk_cell BK237.out 2).trans rfl; have hcz9_3 : w6.cell? ⟨gb237, 3, none⟩ = some (.string (⟨#[]⟩ : ByteArray)) := (blk_cell BK237.out 3).trans rfl; have hcz9_4 : w6.cell? ⟨gb237, 4, none⟩ = some (.slice none 0 0) := (blk_cell BK237.out 4).trans rfl; have hfz9_0 := blk_frozen BK237.out 0; have hfz9_1 := blk_frozen BK237.out 1; have hfz9_2 := blk_frozen BK237.out 2; have hfz9_3 := blk_frozen BK237.out 3; have hfz9_4 := blk_frozen BK237.out 4; have hcz10_0 : w6.cell? ⟨gb235, 0, none⟩ = some (.int .u8 a0_0) := (blk_cell BK235.out 0).trans rfl; have hcz10_1 : w6.cell? ⟨gb235, 1, none⟩ = some (.bool a0_1) := (blk_cell BK235.out 1).trans rfl; have hcz10_2 : w6.cell? ⟨gb235, 2, none⟩ = some (.int .u64 a0_2) := (blk_cell BK235.out 2).trans rfl; have hcz10_3 : w6.cell? ⟨gb235, 3, none⟩ = some (.string a0_3) := (blk_cell BK235.out 3).trans rfl; have hcz10_4 : w6.cell? ⟨gb235, 4, none⟩ = some (.slice A0_4 l0_4.length c0_4) := (blk_cell BK235.out 4).trans rfl; have hfz10_0 := blk_frozen BK235.out 0; have hfz10_1 := blk_frozen BK235.out 1; have hfz10_2 := blk_frozen BK235.out 2; have hfz10_3 := blk_frozen BK235.out 3; have hfz10_4 := blk_frozen BK235.out 4))
  go_loopg [18] k (fun kq v18 w' => ∃ (x18_1 : Int) (x238004_1 : List (S31)) (u238004 : Value), v18 = .int .i64 x18_1 ∧ Aside0 (laws_berTo.l0 kq l0_4 (l0_4.length : Int) x18_1 a0_0 a0_1 a0_2 a0_3 x238004_1 = some (r1, r2, r3, r4, r5)) ∧ Aside0 (kq ≤ k) ∧ Aside0 (Kd.R k31 31 w' w.heap.size (fun k_ => k_ ≠ gb236 ∧ k_ ≠ gb237) u238004 x238004_1) ∧ Aside0 (w'.heap[gb235]? = some (.cells #[.int .u8 a0_0, .bool a0_1, .int .u64 a0_2, .string a0_3, (.slice A0_4 l0_4.length c0_4)] 26 (0, 0))) ∧ Aside0 (w'.heap[gb236]? = some (.cells #[.int .u8 0, .bool false, .int .u64 0, .string (⟨#[]⟩ : ByteArray), (.slice none 0 0)] 31 (0, 0))) ∧ Aside0 (w'.heap[gb237]? = some (.cells #[.int .u8 a0_0, .bool a0_1, .int .u64 a0_2, .string a0_3, u238004] 31 (0, 0))) ∧ Aside0 (Below w.heap.size w w'))
  case atStart => exact ⟨(0), (([] : List (S31))), (.slice none 0 0), (by first | rfl | (simp; done) | (simp [*]; done)), H', ⟨Nat.le_refl _⟩, ⟨by first | exact Kd.R_nil _ _ _ _ _ | exact Kd.N_nil _ _ _ _ _ | exact Kd.V_nil _ _ _ _ _ | exact Kd.Q_nil _ _ _ _ _ | exact Kd.S_nil _ _ _ _ _⟩, ⟨by (with_reducible repeat (first | refine blk_drewN ?_ _ | refine blk_drew ?_ | refine blk_alloc ?_ _)); refine blk_far ?_ NB235_237.out _; (with_reducible repeat (first | refine blk_drewN ?_ _ | refine blk_drew ?_ | refine blk_alloc ?_ _)); refine blk_far ?_ NB235_237.out _; (with_reducible repeat (first | refine blk_drewN ?_ _ | refine blk_drew ?_ | refine blk_alloc ?_ _)); refine blk_far ?_ NB235_237.out _; (with_reducible repeat (first | refine blk_drewN ?_ _ | refine blk_drew ?_ | refine blk_alloc ?_ _)); refine blk_far ?_ NB235_237.out _; (with_reducible repeat (first | refine blk_drewN ?_ _ | refine blk_drew ?_ | refine blk_alloc ?_ _)); refine blk_far ?_ NB235_237.out _; (with_reducible repeat (first | refine blk_drewN ?_ _ | refine blk_drew ?_ | refine blk_alloc ?_ _)); exact BK235.out⟩, ⟨by (with_reducible repeat (first | refine blk_drewN ?_ _ | refine blk_drew ?_ | refine blk_alloc ?_ _)); refine blk_far ?_ NB236_237.out _; (with_reducible repeat (first | refine blk_drewN ?_ _ | refine blk_drew ?_ | refine blk_alloc ?_ _)); refine blk_far ?_ NB236_237.out _; (with_reducible repeat (first | refine blk_drewN ?_ _ | refine blk_drew ?_ | refine blk_alloc ?_ _)); refine blk_far ?_ NB236_237.out _; (with_reducible repeat (first | refine blk_drewN ?_ _ | refine blk_drew ?_ | refine blk_alloc ?_ _)); refine blk_far ?_ NB236_237.out _; (with_reducible repeat (first | refine blk_drewN ?_ _ | refine blk_drew ?_ | refine blk_alloc ?_ _)); refine blk_far ?_ NB236_237.out _; (with_reducible repeat (first | refine blk_drewN ?_ _ | refine blk_drew ?_ | refine blk_alloc ?_ _)); exact BK236.out⟩, ⟨by (with_reducible repeat (first | refine blk_drewN ?_ _ | refine blk_drew ?_ | refine blk_alloc ?_ _)); refine blk_put (cs := #[.int .u8 a0_0, .bool a0_1, .int .u64 a0_2, .string a0_3, .slice none 0 0]) ?_ 4 _ rfl; (with_reducible repeat (first | refine blk_drewN ?_ _ | refine blk_drew ?_ | refine blk_alloc ?_ _)); refine blk_put (cs := #[.int .u8 a0_0, .bool a0_1, .int .u64 a0_2, .string (⟨#[]⟩ : ByteArray), .slice none 0 0]) ?_ 3 _ rfl; (with_reducible repeat (first | refine blk_drewN ?_ _ | refine blk_drew ?_ | refine blk_alloc ?_ _)); refine blk_put (cs := #[.int .u8 a0_0, .bool a0_1, .int .u64 0, .string (⟨#[]⟩ : ByteArray), .slice none 0 0]) ?_ 2 _ rfl; (with_reducible repeat (first | refine blk_drewN ?_ _ | refine blk_drew ?_ | refine blk_alloc ?_ _)); refine blk_put (cs := #[.int .u8 a0_0, .bool false, .int .u64 0, .string (⟨#[]⟩ : ByteArray), .slice none 0 0]) ?_ 1 _ rfl; (with_reducible repeat (first | refine blk_drewN ?_ _ | refine blk_drew ?_ | refine blk_alloc ?_ _)); refine blk_put (cs := #[.int .u8 0, .bool false, .int .u64 0, .string (⟨#[]⟩ : ByteArray), .slice none 0 0]) ?_ 0 _ rfl; (with_reducible repeat (first | refine blk_drewN ?_ _ | refine blk_drew ?_ | refine blk_alloc ?_ _)); exact BK237.out⟩, ⟨by repeat (first | (with_reducible first | exact HB.out | apply below_alloc | apply pw_below_drewN | apply below_drew1 | refine below_set ?_ GE235.out | refine below_set ?_ GE236.out | refine below_set ?_ GE237.out) | exact HB.out)⟩⟩
  case round =>
    clear H'
    try clear c2
    try clear p2
    try clear c4
    try clear c7
    try clear c8
    try clear hcz10_0
    try clear hcz10_1
    try clear hcz10_2
    try clear hcz10_3
    try clear hcz10_4
    try clear hcz5_0
    try clear hcz5_1
    try clear hcz5_2
    try clear hcz5_3
    try clear hcz5_4
    try clear hcz9_0
    try clear hcz9_1
    try clear hcz9_2
    try clear hcz9_3
    try clear hcz9_4
    try clear hfz10_0
    try clear hfz10_1
    try clear hfz10_2
    try clear hfz10_3
    try clear hfz10_4
    try clear hfz5_0
    try clear hfz5_1
    try clear hfz5_2
    try clear hfz5_3
    try clear hfz5_4
    try clear hfz9_0
    try clear hfz9_1
    try clear hfz9_2
    try clear hfz9_3
    try clear hfz9_4
    obtain ⟨x18_1, x238004_1, u238004, rfl, HA, HK1, HO_238004, BK235, BK236, BK237, HB⟩ := hrel
    cases gk with
    | zero => exact absurd HA.out (by simp [laws_berTo.l0])
    | succ k1 =>
      have H := HA.out
      clear HA
      simp only [laws_berTo.l0] at H
      by_cases c11 : x18_1 < (l0_4.length : Int)
      · rw [if_pos c11] at H
        have c11b0 : decide (x18_1 < (l0_4.length : Int)) = true := decide_eq_true c11
        clear c11
        by_cases c12 : 0 ≤ x18_1
        · rw [if_pos c12] at H
          have c12b0 : decide (0 ≤ x18_1) = true := decide_eq_true c12
          clear c12
          by_cases c13 : x18_1 < (l0_4.length : Int)
          · rw [if_pos c13] at H
            have c13b0 : decide (x18_1 < (l0_4.length : Int)) = true := decide_eq_true c13
            clear c13
            replace H := Option.bind_eq_some_iff.mp H
            obtain ⟨⟨t240, t241, t242, t243, t244⟩, A140, H⟩ := H
            replace H : (if x238004_1.length < 2513169434916 then (laws_berTo.l0 k1 l0_4 (l0_4.length : Int) (wrap64 (x18_1 + 1)) a0_0 a0_1 a0_2 a0_3 (x238004_1 ++ [(⟨t240, t241, t242, t243, t244⟩ : S31)])) else (none)) = some (r1, r2, r3, r4, r5) := H
            have A14 := Aside0.mk A140
            clear A140
            by_cases c15 : x238004_1.length < 2513169434916
            · rw [if_pos c15] at H
              have LMc15 := Aside0.mk c15
              clear c15
              obtain ⟨y247, hy247⟩ : ∃ y_ : List (S31), y_ = (x238004_1 ++ [(⟨t240, t241, t242, t243, t244⟩ : S31)]) := ⟨_, rfl⟩
              replace H : (laws_berTo.l0 k1 l0_4 (l0_4.length : Int) (wrap64 (x18_1 + 1)) a0_0 a0_1 a0_2 a0_3 y247) = some (r1, r2, r3, r4, r5) := by first | (rw [hy247]; with_reducible exact H) | (have H2_ := (Option.bind_some _ _).symm.trans H; rw [hy247]; with_reducible exact H2_) | (have H2_ := (Option.bind_some _ _).symm.trans H; with_reducible exact H2_) | with_reducible exact H | (rw [hy247]; exact H) | exact H
              have Ny247 := Aside0.mk hy247
              clear hy247
              have H' := Aside0.mk H
              clear H
              have p238 : 0 ≤ (x18_1 : Int) := of_decide_eq_true (by first | (with_reducible assumption) | assumption)
              have q238 : x18_1 < (l0_4.length : Int) := of_decide_eq_true (by first | (with_reducible assumption) | assumption)
              obtain ⟨ad238, A238_4, c238_4, e238, hx238_0, hx238_1, hx238_2, hx238_3, hx238_4, hl238_4, hi238_4⟩ := at_T26 HR0_4.out x18_1 p238 q238
              cases e238
              replace hx238_0 := (HB.out.cell (World.block_lt_of_cell? w _ hx238_0)).trans hx238_0
              replace hx238_1 := (HB.out.cell (World.block_lt_of_cell? w _ hx238_1)).trans hx238_1
              replace hx238_2 := (HB.out.cell (World.block_lt_of_cell? w _ hx238_2)).trans hx238_2
              replace hx238_3 := (HB.out.cell (World.block_lt_of_cell? w _ hx238_3)).trans hx238_3
              replace hx238_4 := (HB.out.cell (World.block_lt_of_cell? w _ hx238_4)).trans hx238_4
              have HR238_4 := Aside0.mk hi238_4
              have HC238_4 := Aside0.mk hl238_4
              clear hi238_4 hl238_4
              replace p238 := eq_true p238
              replace q238 := eq_true q238
              try go_wp2_with (first | ((with_reducible refine gate_dst (N := 5) rfl ?_); refine box_event ?hg (N := 5) ?hd (cs := #[.int .u8 0, .bool false, .int .u64 0, .string (⟨#[]⟩ : ByteArray), .slice none 0 0]) (t := 26) ?hr ?_; (case hd => rfl); (case hg => rfl); (case hr => first | (go_simp; done) | (go_simp; rfl)); intro gb239 hg w16 hbox hb; have n0_ := Aside0.mk (Kd.R_below (by (with_reducible repeat (first | apply Kd.R_alloc | apply Kd.R_drewN | apply Kd.R_drew)); exact HO_238004.out) hb); have n1_ := Aside0.mk (blk_below (g := gb235) (o := .cells #[.int .u8 a0_0, .bool a0_1, .int .u64 a0_2, .string a0_3, .slice (some ad238) l0_4.length c0_4] 26 (0, 0)) (by (with_reducible repeat (first | refine blk_drewN ?_ _ | refine blk_drew ?_ | refine blk_alloc ?_ _)); exact BK235.out) hb); have n2_ := Aside0.mk (blk_below (g := gb236) (o := .cells #[.int .u8 0, .bool false, .int .u64 0, .string (⟨#[]⟩ : ByteArray), .slice none 0 0] 31 (0, 0)) (by (with_reducible repeat (first | refine blk_drewN ?_ _ | refine blk_drew ?_ | refine blk_alloc ?_ _)); exact BK236.out) hb); have n3_ := Aside0.mk (blk_below (g := gb237) (o := .cells #[.int .u8 a0_0, .bool a0_1, .int .u64 a0_2, .string a0_3, u238004] 31 (0, 0)) (by (with_reducible repeat (first | refine blk_drewN ?_ _ | refine blk_drew ?_ | refine blk_alloc ?_ _)); exact BK237.out) hb); have n4_ := Aside0.mk (below_step (by repeat (first | (with_reducible first | exact HB.out | apply below_alloc | apply pw_below_drewN | apply below_drew1 | refine below_set ?_ GE235.out | refine below_set ?_ GE236.out | refine below_set ?_ GE237.out) | exact HB.out)) hb); have n5_ := Aside0.mk (hbox); have n6_ := Aside0.mk ((by rw [hg]; exact (below_size (by repeat (first | (with_reducible first | exact HB.out | apply below_alloc | apply pw_below_drewN | apply below_drew1 | refine below_set ?_ GE235.out | refine below_set ?_ GE236.out | refine below_set ?_ GE237.out) | exact HB.out))) : w.heap.size ≤ gb239)); have n7_ := Aside0.mk ((by rw [hg]; exact (below_size (by repeat (first | (with_reducible first | exact HB.out | apply below_alloc | apply pw_below_drewN | apply below_drew1 | refine below_set ?_ GE235.out | refine below_set ?_ GE236.out | refine below_set ?_ GE237.out) | exact HB.out))) : w.heap.size ≤ gb239)); have n8_ := Aside0.mk ((by rw [hg]; exact Nat.ne_of_lt (blk_lt (g := gb235) (o := .cells #[.int .u8 a0_0, .bool a0_1, .int .u64 a0_2, .string a0_3, .slice (some ad238) l0_4.length c0_4] 26 (0, 0)) (by (with_reducible repeat (first | refine blk_drewN ?_ _ | refine blk_drew ?_ | refine blk_alloc ?_ _)); exact BK235.out)) : gb235 ≠ gb239)); have n9_ := Aside0.mk ((by rw [hg]; exact Nat.ne_of_gt (blk_lt (g := gb235) (o := .cells #[.int .u8 a0_0, .bool a0_1, .int .u64 a0_2, .string a0_3, .slice (some ad238) l0_4.length c0_4] 26 (0, 0)) (by (with_reducible repeat (first | refine blk_drewN ?_ _ | refine blk_drew ?_ | refine blk_alloc ?_ _)); exact BK235.out)) : gb239 ≠ gb235)); have n10_ := Aside0.mk ((by rw [hg]; exact Nat.ne_of_lt (blk_lt (g := gb236) (o := .cells #[.int .u8 0, .bool false, .int .u64 0, .string (⟨#[]⟩ : ByteArray), .slice none 0 0] 31 (0, 0)) (by (with_reducible repeat (first | refine blk_drewN ?_ _ | refine blk_drew ?_ | refine blk_alloc ?_ _)); exact BK236.out)) : gb236 ≠ gb239)); have n11_ := Aside0.mk ((by rw [hg]; exact Nat.ne_of_gt (blk_lt (g := gb236) (o := .cells #[.int .u8 0, .bool false, .int .u64 0, .string (⟨#[]⟩ : ByteArray), .slice none 0 0] 31 (0, 0)) (by (with_reducible repeat (first | refine blk_drewN ?_ _ | refine blk_drew ?_ | refine blk_alloc ?_ _)); exact BK236.out)) : gb239 ≠ gb236)); have n12_ := Aside0.mk ((by rw [hg]; exact Nat.ne_of_lt (blk_lt (g := gb237) (o := .cells #[.int .u8 a0_0, .bool a0_1, .int .u64 a0_2, .string a0_3, u238004] 31 (0, 0)) (by (with_reducible repeat (first | refine blk_drewN ?_ _ | refine blk_drew ?_ | refine blk_alloc ?_ _)); exact BK237.out)) : gb237 ≠ gb239)); have n13_ := Aside0.mk ((by rw [hg]; exact Nat.ne_of_gt (blk_lt (g := gb237) (o := .cells #[.int .u8 a0_0, .bool a0_1, .int .u64 a0_2, .string a0_3, u238004] 31 (0, 0)) (by (with_reducible repeat (first | refine blk_drewN ?_ _ | refine blk_drew ?_ | refine blk_alloc ?_ _)); exact BK237.out)) : gb239 ≠ gb237)); clear HO_238004; clear BK235; clear BK236; clear BK237; clear HB; have HO_238004 := n0_; have BK235 := n1_; have BK236 := n2_; have BK237 := n3_; have HB := n4_; have BK239 := n5_; have GW239 := n6_; have GE239 := n7_; have NB235_239 := n8_; have NB239_235 := n9_; have NB236_239 := n10_; have NB239_236 := n11_; have NB237_239 := n12_; have NB239_237 := n13_; clear n0_ n1_ n2_ n3_ n4_ n5_ n6_ n7_ n8_ n9_ n10_ n11_ n12_ n13_; clear hb hbox hg; have hnb17 := NB239_235.out; have hnc17 := NB235_239.out; have hnb18 := NB239_236.out; have hnc18 := NB236_239.out; have hnb19 := NB239_237.out; have hnc19 := NB237_239.out; have hcz20_0 : w16.cell? ⟨gb239, 0, none⟩ = some (.int .u8 0) := (blk_cell BK239.out 0).trans rfl; have hcz20_1 : w16.cell? ⟨gb239, 1, none⟩ = some (.bool false) := (blk_cell BK239.out 1).trans rfl; have hcz20_2 : w16.cell? ⟨gb239, 2, none⟩ = some (.int .u64 0) := (blk_cell BK239.out 2).trans rfl; have hcz20_3 : w16.cell? ⟨gb239, 3, none⟩ = some (.string (⟨#[]⟩ : ByteArray)) := (blk_cell BK239.out 3).trans rfl; have hcz20_4 : w16.cell? ⟨gb239, 4, none⟩ = some (.slice none 0 0) := (blk_cell BK239.out 4).trans rfl; have hfz20_0 := blk_frozen BK239.out 0; have hfz20_1 := blk_frozen BK239.out 1; have hfz20_2 := blk_frozen BK239.out 2; have hfz20_3 := blk_frozen BK239.out 3; have hfz20_4 := blk_frozen BK239.out 4))
              have n0_ : Aside0 (Kd.R k31 31 (((((w16.setCell ⟨gb239, 0, none⟩ (.int .u8 ((rd_T26 l0_4 x18_1).f0))).setCell ⟨gb239, 1, none⟩ (.bool ((rd_T26 l0_4 x18_1).f1))).setCell ⟨gb239, 2, none⟩ (.int .u64 ((rd_T26 l0_4 x18_1).f2))).setCell ⟨gb239, 3, none⟩ (.string ((rd_T26 l0_4 x18_1).f3))).setCell ⟨gb239, 4, none⟩ (.slice A238_4 ((rd_T26 l0_4 x18_1).f4).length c238_4)) w.heap.size (fun k_ => k_ ≠ gb236 ∧ k_ ≠ gb237) u238004 x238004_1) := ⟨by (with_reducible repeat (first | apply Kd.R_alloc | apply Kd.R_drewN | apply Kd.R_drew)); exact Kd.R_mono (Kd.R_far (p := ⟨gb239, 4, none⟩) (Kd.R_far (p := ⟨gb239, 3, none⟩) (Kd.R_far (p := ⟨gb239, 2, none⟩) (Kd.R_far (p := ⟨gb239, 1, none⟩) (Kd.R_far (p := ⟨gb239, 0, none⟩) (Kd.R_types HO_238004.out BK239.out (by decide)) (fun _ hk => hk.2) (.int .u8 ((rd_T26 l0_4 x18_1).f0))) (fun _ hk => hk.2) (.bool ((rd_T26 l0_4 x18_1).f1))) (fun _ hk => hk.2) (.int .u64 ((rd_T26 l0_4 x18_1).f2))) (fun _ hk => hk.2) (.string ((rd_T26 l0_4 x18_1).f3))) (fun _ hk => hk.2) (.slice A238_4 ((rd_T26 l0_4 x18_1).f4).length c238_4)) (fun _ hk => ⟨hk.1.1, hk.1.2⟩)⟩
              have n1_ : Aside0 ((((((w16.setCell ⟨gb239, 0, none⟩ (.int .u8 ((rd_T26 l0_4 x18_1).f0))).setCell ⟨gb239, 1, none⟩ (.bool ((rd_T26 l0_4 x18_1).f1))).setCell ⟨gb239, 2, none⟩ (.int .u64 ((rd_T26 l0_4 x18_1).f2))).setCell ⟨gb239, 3, none⟩ (.string ((rd_T26 l0_4 x18_1).f3))).setCell ⟨gb239, 4, none⟩ (.slice A238_4 ((rd_T26 l0_4 x18_1).f4).length c238_4)).heap[gb235]? = some (.cells #[.int .u8 a0_0, .bool a0_1, .int .u64 a0_2, .string a0_3, .slice (some ad238) l0_4.length c0_4] 26 (0, 0))) := ⟨by (with_reducible repeat (first | refine blk_drewN ?_ _ | refine blk_drew ?_ | refine blk_alloc ?_ _)); refine blk_far ?_ NB235_239.out _; (with_reducible repeat (first | refine blk_drewN ?_ _ | refine blk_drew ?_ | refine blk_alloc ?_ _)); refine blk_far ?_ NB235_239.out _; (with_reducible repeat (first | refine blk_drewN ?_ _ | refine blk_drew ?_ | refine blk_alloc ?_ _)); refine blk_far ?_ NB235_239.out _; (with_reducible repeat (first | refine blk_drewN ?_ _ | refine blk_drew ?_ | refine blk_alloc ?_ _)); refine blk_far ?_ NB235_239.out _; (with_reducible repeat (first | refine blk_drewN ?_ _ | refine blk_drew ?_ | refine blk_alloc ?_ _)); refine blk_far ?_ NB235_239.out _; (with_reducible repeat (first | refine blk_drewN ?_ _ | refine blk_drew ?_ | refine blk_alloc ?_ _)); exact BK235.out⟩
              have n2_ : Aside0 ((((((w16.setCell ⟨gb239, 0, none⟩ (.int .u8 ((rd_T26 l0_4 x18_1).f0))).setCell ⟨gb239, 1, none⟩ (.bool ((rd_T26 l0_4 x18_1).f1))).setCell ⟨gb239, 2, none⟩ (.int .u64 ((rd_T26 l0_4 x18_1).f2))).setCell ⟨gb239, 3, none⟩ (.string ((rd_T26 l0_4 x18_1).f3))).setCell ⟨gb239, 4, none⟩ (.slice A238_4 ((rd_T26 l0_4 x18_1).f4).length c238_4)).heap[gb236]? = some (.cells #[.int .u8 0, .bool false, .int .u64 0, .string (⟨#[]⟩ : ByteArray), .slice none 0 0] 31 (0, 0))) := ⟨by (with_reducible repeat (first | refine blk_drewN ?_ _ | refine blk_drew ?_ | refine blk_alloc ?_ _)); refine blk_far ?_ NB236_239.out _; (with_reducible repeat (first | refine blk_drewN ?_ _ | refine blk_drew ?_ | refine blk_alloc ?_ _)); refine blk_far ?_ NB236_239.out _; (with_reducible repeat (first | refine blk_drewN ?_ _ | refine blk_drew ?_ | refine blk_alloc ?_ _)); refine blk_far ?_ NB236_239.out _; (with_reducible repeat (first | refine blk_drewN ?_ _ | refine blk_drew ?_ | refine blk_alloc ?_ _)); refine blk_far ?_ NB236_239.out _; (with_reducible repeat (first | refine blk_drewN ?_ _ | refine blk_drew ?_ | refine blk_alloc ?_ _)); refine blk_far ?_ NB236_239.out _; (with_reducible repeat (first | refine blk_drewN ?_ _ | refine blk_drew ?_ | refine blk_alloc ?_ _)); exact BK236.out⟩
              have n3_ : Aside0 ((((((w16.setCell ⟨gb239, 0, none⟩ (.int .u8 ((rd_T26 l0_4 x18_1).f0))).setCell ⟨gb239, 1, none⟩ (.bool ((rd_T26 l0_4 x18_1).f1))).setCell ⟨gb239, 2, none⟩ (.int .u64 ((rd_T26 l0_4 x18_1).f2))).setCell ⟨gb239, 3, none⟩ (.string ((rd_T26 l0_4 x18_1).f3))).setCell ⟨gb239, 4, none⟩ (.slice A238_4 ((rd_T26 l0_4 x18_1).f4).length c238_4)).heap[gb237]? = some (.cells #[.int .u8 a0_0, .bool a0_1, .int .u64 a0_2, .string a0_3, u238004] 31 (0, 0))) := ⟨by (with_reducible repeat (first | refine blk_drewN ?_ _ | refine blk_drew ?_ | refine blk_alloc ?_ _)); refine blk_far ?_ NB237_239.out _; (with_reducible repeat (first | refine blk_drewN ?_ _ | refine blk_drew ?_ | refine blk_alloc ?_ _)); refine blk_far ?_ NB237_239.out _; (with_reducible repeat (first | refine blk_drewN ?_ _ | refine blk_drew ?_ | refine blk_alloc ?_ _)); refine blk_far ?_ NB237_239.out _; (with_reducible repeat (first | refine blk_drewN ?_ _ | refine blk_drew ?_ | refine blk_alloc ?_ _)); refine blk_far ?_ NB237_239.out _; (with_reducible repeat (first | refine blk_drewN ?_ _ | refine blk_drew ?_ | refine blk_alloc ?_ _)); refine blk_far ?_ NB237_239.out _; (with_reducible repeat (first | refine blk_drewN ?_ _ | refine blk_drew ?_ | refine blk_alloc ?_ _)); exact BK237.out⟩
              have n4_ : Aside0 ((((((w16.setCell ⟨gb239, 0, none⟩ (.int .u8 ((rd_T26 l0_4 x18_1).f0))).setCell ⟨gb239, 1, none⟩ (.bool ((rd_T26 l0_4 x18_1).f1))).setCell ⟨gb239, 2, none⟩ (.int .u64 ((rd_T26 l0_4 x18_1).f2))).setCell ⟨gb239, 3, none⟩ (.string ((rd_T26 l0_4 x18_1).f3))).setCell ⟨gb239, 4, none⟩ (.slice A238_4 ((rd_T26 l0_4 x18_1).f4).length c238_4)).heap[gb239]? = some (.cells #[.int .u8 ((rd_T26 l0_4 x18_1).f0), .bool ((rd_T26 l0_4 x18_1).f1), .int .u64 ((rd_T26 l0_4 x18_1).f2), .string ((rd_T26 l0_4 x18_1).f3), .slice A238_4 ((rd_T26 l0_4 x18_1).f4).length c238_4] 26 (0, 0))) := ⟨by (with_reducible repeat (first | refine blk_drewN ?_ _ | refine blk_drew ?_ | refine blk_alloc ?_ _)); refine blk_put (cs := #[.int .u8 ((rd_T26 l0_4 x18_1).f0), .bool ((rd_T26 l0_4 x18_1).f1), .int .u64 ((rd_T26 l0_4 x18_1).f2), .string ((rd_T26 l0_4 x18_1).f3), .slice none 0 0]) ?_ 4 _ rfl; (with_reducible repeat (first | refine blk_drewN ?_ _ | refine blk_drew ?_ | refine blk_alloc ?_ _)); refine blk_put (cs := #[.int .u8 ((rd_T26 l0_4 x18_1).f0), .bool ((rd_T26 l0_4 x18_1).f1), .int .u64 ((rd_T26 l0_4 x18_1).f2), .string (⟨#[]⟩ : ByteArray), .slice none 0 0]) ?_ 3 _ rfl; (with_reducible repeat (first | refine blk_drewN ?_ _ | refine blk_drew ?_ | refine blk_alloc ?_ _)); refine blk_put (cs := #[.int .u8 ((rd_T26 l0_4 x18_1).f0), .bool ((rd_T26 l0_4 x18_1).f1), .int .u64 0, .string (⟨#[]⟩ : ByteArray), .slice none 0 0]) ?_ 2 _ rfl; (with_reducible repeat (first | refine blk_drewN ?_ _ | refine blk_drew ?_ | refine blk_alloc ?_ _)); refine blk_put (cs := #[.int .u8 ((rd_T26 l0_4 x18_1).f0), .bool false, .int .u64 0, .string (⟨#[]⟩ : ByteArray), .slice none 0 0]) ?_ 1 _ rfl; (with_reducible repeat (first | refine blk_drewN ?_ _ | refine blk_drew ?_ | refine blk_alloc ?_ _)); refine blk_put (cs := #[.int .u8 0, .bool false, .int .u64 0, .string (⟨#[]⟩ : ByteArray), .slice none 0 0]) ?_ 0 _ rfl; (with_reducible repeat (first | refine blk_drewN ?_ _ | refine blk_drew ?_ | refine blk_alloc ?_ _)); exact BK239.out⟩
              have n5_ : Aside0 (Below w.heap.size w (((((w16.setCell ⟨gb239, 0, none⟩ (.int .u8 ((rd_T26 l0_4 x18_1).f0))).setCell ⟨gb239, 1, none⟩ (.bool ((rd_T26 l0_4 x18_1).f1))).setCell ⟨gb239, 2, none⟩ (.int .u64 ((rd_T26 l0_4 x18_1).f2))).setCell ⟨gb239, 3, none⟩ (.string ((rd_T26 l0_4 x18_1).f3))).setCell ⟨gb239, 4, none⟩ (.slice A238_4 ((rd_T26 l0_4 x18_1).f4).length c238_4))) := ⟨by repeat (first | (with_reducible first | exact HB.out | apply below_alloc | apply pw_below_drewN | apply below_drew1 | refine below_set ?_ GE235.out | refine below_set ?_ GE236.out | refine below_set ?_ GE237.out | refine below_set ?_ GE239.out) | exact HB.out)⟩
              (try clear HO_238004)
              (try clear BK235)
              (try clear BK236)
              (try clear BK237)
              (try clear BK239)
              (try clear HB)
              generalize (((((w16.setCell ⟨gb239, 0, none⟩ (.int .u8 ((rd_T26 l0_4 x18_1).f0))).setCell ⟨gb239, 1, none⟩ (.bool ((rd_T26 l0_4 x18_1).f1))).setCell ⟨gb239, 2, none⟩ (.int .u64 ((rd_T26 l0_4 x18_1).f2))).setCell ⟨gb239, 3, none⟩ (.string ((rd_T26 l0_4 x18_1).f3))).setCell ⟨gb239, 4, none⟩ (.slice A238_4 ((rd_T26 l0_4 x18_1).f4).length c238_4)) = w21 at n0_ n1_ n2_ n3_ n4_ n5_ ⊢
              have HO_238004 := n0_
              have BK235 := n1_
              have BK236 := n2_
              have BK237 := n3_
              have BK239 := n4_
              have HB := n5_
              clear n0_ n1_ n2_ n3_ n4_ n5_
              have n0_ := Aside0.mk (Kd.R_drew HO_238004.out)
              have n1_ := Aside0.mk (blk_drew BK235.out)
              have n2_ := Aside0.mk (blk_drew BK236.out)
              have n3_ := Aside0.mk (blk_drew BK237.out)
              have n4_ := Aside0.mk (blk_drew BK239.out)
              have n5_ := Aside0.mk (below_drew1 HB.out)
              clear HO_238004
              clear BK235
              clear BK236
              clear BK237
              clear BK239
              clear HB
              have HO_238004 := n0_
              have BK235 := n1_
              have BK236 := n2_
              have BK237 := n3_
              have BK239 := n4_
              have HB := n5_
              clear n0_ n1_ n2_ n3_ n4_ n5_
              refine start_ (n := 8) (S := fun w' => w'.cell? ⟨gb237, 0, none⟩ = some (.int .u8 a0_0) ∧ w'.cell? ⟨gb237, 1, none⟩ = some (.bool a0_1) ∧ w'.cell? ⟨gb237, 2, none⟩ = some (.int .u64 a0_2) ∧ w'.cell? ⟨gb237, 3, none⟩ = some (.string a0_3) ∧ w'.cell? ⟨gb237, 4, none⟩ = some (u238004) ∧ w'.cell? ⟨gb239, 0, none⟩ = some (.int .u8 ((rd_T26 l0_4 x18_1).f0)) ∧ w'.cell? ⟨gb239, 1, none⟩ = some (.bool ((rd_T26 l0_4 x18_1).f1)) ∧ w'.cell? ⟨gb239, 2, none⟩ = some (.int .u64 ((rd_T26 l0_4 x18_1).f2)) ∧ w'.cell? ⟨gb239, 3, none⟩ = some (.string ((rd_T26 l0_4 x18_1).f3)) ∧ w'.cell? ⟨gb239, 4, none⟩ = some (.slice A238_4 ((rd_T26 l0_4 x18_1).f4).length c238_4)) (ds := [7]) #[false, false, false, false, false, false, false, false] (by kernel_rfl) rfl rfl ⟨(blk_cell BK237.out 0).trans rfl, (blk_cell BK237.out 1).trans rfl, (blk_cell BK237.out 2).trans rfl, (blk_cell BK237.out 3).trans rfl, (blk_cell BK237.out 4).trans rfl, (blk_cell BK239.out 0).trans rfl, (blk_cell BK239.out 1).trans rfl, (blk_cell BK239.out 2).trans rfl, (blk_cell BK239.out 3).trans rfl, (blk_cell BK239.out 4).trans rfl⟩ (fun hHeld => ?_); refine with_tabW laws_berTo.tab5 laws_berTo.bits5 (fun HT_ HW_ => ?_)
              generalize w21.drew = w22 at HO_238004 BK235 BK236 BK237 BK239 HB hHeld ⊢
              refine pure_ (i := 0) (N := some 22) (v := ?_) (a' := ?_) #[true, false, false, false, false, false, false, false] rfl rfl (any_of HT_.out (by kernel_rfl)) (fun _ _ _ h => h) (Or.inl ⟨by rfl, ?_⟩) ?_ ?_
              rotate_left
              · intro w'
                go_simp
                with_reducible rfl
              rotate_left
              · simp only [Act.put, List.setIfInBounds_toArray, List.set_cons_zero, List.set_cons_succ, i64_w, i32_w]
                rfl
              refine take_ (i := 1) (N := some 23) (v := ?_) (a' := ?_) #[true, true, false, false, false, false, false, false] rfl rfl (take_ofW HT_.out HW_.out (by kernel_rfl)) (fun _ _ _ h => h) (Or.inl ⟨by rfl, ?_⟩) hHeld ?_ ?_
              rotate_left
              · rintro w' ⟨s0, s1, s2, s3, s4, s5, s6, s7, s8, s9⟩
                go_simp
                with_reducible rfl
              rotate_left
              · simp only [Act.put, List.setIfInBounds_toArray, List.set_cons_zero, List.set_cons_succ, i64_w, i32_w]
                rfl
              refine take_ (i := 2) (N := some 24) (v := ?_) (a' := ?_) #[true, true, true, false, false, false, false, false] rfl rfl (take_ofW HT_.out HW_.out (by kernel_rfl)) (fun _ _ _ h => h) (Or.inl ⟨by rfl, ?_⟩) hHeld ?_ ?_
              rotate_left
              · rintro w' ⟨s0, s1, s2, s3, s4, s5, s6, s7, s8, s9⟩
                go_simp
                with_reducible rfl
              rotate_left
              · simp only [Act.put, List.setIfInBounds_toArray, List.set_cons_zero, List.set_cons_succ, i64_w, i32_w]
                rfl
              refine one_ (i := 3) (N := some 25) #[true, true, true, true, false, false, false, false] rfl rfl (one_of HT_.out (by kernel_rfl)) (by decide) (fun K hK => ?_)
              refine goes_ Tryd.func20 (by kernel_rfl) rfl #[.agg #[.int .u8 ((rd_T26 l0_4 x18_1).f0), .bool ((rd_T26 l0_4 x18_1).f1), .int .u64 ((rd_T26 l0_4 x18_1).f2), .string ((rd_T26 l0_4 x18_1).f3), .slice A238_4 ((rd_T26 l0_4 x18_1).f4).length c238_4]] (by rfl) rfl rfl (by (try simp only [List.map_toArray, List.map_cons, List.map_nil]); first | done | rfl | (simp only [List.length_drop, List.length_take]; rfl)) ?_
              with_reducible refine (ih k1 (by have := HK1.out; omega) ((rd_T26 l0_4 x18_1).f0) ((rd_T26 l0_4 x18_1).f1) ((rd_T26 l0_4 x18_1).f2) ((rd_T26 l0_4 x18_1).f3) _ _ ((rd_T26 l0_4 x18_1).f4) t240 t241 t242 t243 t244 _ ?side1 ?side2 A14.out).mono ?_
              (case side1 => repeat (first | exact (Kd.C_below HR238_4.out HB.out) | (with_reducible refine Kd.C_alloc ?_ _) | (with_reducible refine Kd.C_drewN ?_ _) | (with_reducible refine Kd.C_drew ?_)))
              (case side2 => exact HC238_4.out)
              rintro e w23 ⟨v245, rfl, ho0, hb⟩
              refine ⟨_, rfl, ?_⟩
              have n0_ := Aside0.mk (Kd.R_elder' (by (with_reducible repeat (first | apply Kd.R_alloc | apply Kd.R_drewN | apply Kd.R_drew)); exact HO_238004.out) (Kd.R_base ho0) hb)
              have n1_ := Aside0.mk (Kd.R_lower (Kd.R_newB (Kd.R_newB (Kd.R_new' ho0 (Kd.R_lt (by (with_reducible repeat (first | apply Kd.R_alloc | apply Kd.R_drewN | apply Kd.R_drew)); exact HO_238004.out))) (g := gb236) (o := .cells #[.int .u8 0, .bool false, .int .u64 0, .string (⟨#[]⟩ : ByteArray), .slice none 0 0] 31 (0, 0)) (by (with_reducible repeat (first | refine blk_drewN ?_ _ | refine blk_drew ?_ | refine blk_alloc ?_ _)); exact BK236.out)) (g := gb237) (o := .cells #[.int .u8 a0_0, .bool a0_1, .int .u64 a0_2, .string a0_3, u238004] 31 (0, 0)) (by (with_reducible repeat (first | refine blk_drewN ?_ _ | refine blk_drew ?_ | refine blk_alloc ?_ _)); exact BK237.out)) (below_size (by repeat (first | (with_reducible first | exact HB.out | apply below_alloc | apply pw_below_drewN | apply below_drew1 | refine below_set ?_ GE235.out | refine below_set ?_ GE236.out | refine below_set ?_ GE237.out | refine below_set ?_ GE239.out) | exact HB.out))))
              have n2_ := Aside0.mk (blk_below (g := gb235) (o := .cells #[.int .u8 a0_0, .bool a0_1, .int .u64 a0_2, .string a0_3, .slice (some ad238) l0_4.length c0_4] 26 (0, 0)) (by (with_reducible repeat (first | refine blk_drewN ?_ _ | refine blk_drew ?_ | refine blk_alloc ?_ _)); exact BK235.out) hb)
              have n3_ := Aside0.mk (blk_below (g := gb236) (o := .cells #[.int .u8 0, .bool false, .int .u64 0, .string (⟨#[]⟩ : ByteArray), .slice none 0 0] 31 (0, 0)) (by (with_reducible repeat (first | refine blk_drewN ?_ _ | refine blk_drew ?_ | refine blk_alloc ?_ _)); exact BK236.out) hb)
              have n4_ := Aside0.mk (blk_below (g := gb237) (o := .cells #[.int .u8 a0_0, .bool a0_1, .int .u64 a0_2, .string a0_3, u238004] 31 (0, 0)) (by (with_reducible repeat (first | refine blk_drewN ?_ _ | refine blk_drew ?_ | refine blk_alloc ?_ _)); exact BK237.out) hb)
              have n5_ := Aside0.mk (blk_below (g := gb239) (o := .cells #[.int .u8 ((rd_T26 l0_4 x18_1).f0), .bool ((rd_T26 l0_4 x18_1).f1), .int .u64 ((rd_T26 l0_4 x18_1).f2), .string ((rd_T26 l0_4 x18_1).f3), .slice A238_4 ((rd_T26 l0_4 x18_1).f4).length c238_4] 26 (0, 0)) (by (with_reducible repeat (first | refine blk_drewN ?_ _ | refine blk_drew ?_ | refine blk_alloc ?_ _)); exact BK239.out) hb)
              have n6_ := Aside0.mk (below_step (by repeat (first | (with_reducible first | exact HB.out | apply below_alloc | apply pw_below_drewN | apply below_drew1 | refine below_set ?_ GE235.out | refine below_set ?_ GE236.out | refine below_set ?_ GE237.out | refine below_set ?_ GE239.out) | exact HB.out)) hb)
              clear HO_238004
              clear BK235
              clear BK236
              clear BK237
              clear BK239
              clear HB
              have HO_238004 := n0_
              have HO246 := n1_
              have BK235 := n2_
              have BK236 := n3_
              have BK237 := n4_
              have BK239 := n5_
              have HB := n6_
              clear n0_ n1_ n2_ n3_ n4_ n5_ n6_
              (try clear hb)
              (try clear hb2)
              (try clear hk)
              (try clear hi)
              (try clear ho0)
              obtain ⟨Ao25, co25, eo25⟩ := Kd.R_slice HO246.out
              (first | subst eo25 | (injection eo25 with f1_ f2_ f3_; have f4_ := f1_.symm; have f5_ := f3_.symm; clear f1_ f2_ f3_; subst f4_; subst f5_))
              refine hK.out _ _ ⟨(blk_cell BK237.out 0).trans rfl, (blk_cell BK237.out 1).trans rfl, (blk_cell BK237.out 2).trans rfl, (blk_cell BK237.out 3).trans rfl, (blk_cell BK237.out 4).trans rfl, (blk_cell BK239.out 0).trans rfl, (blk_cell BK239.out 1).trans rfl, (blk_cell BK239.out 2).trans rfl, (blk_cell BK239.out 3).trans rfl, (blk_cell BK239.out 4).trans rfl⟩ (fun hHeld => ?_)
              clear hK K
              refine norm_ (a' := ?_) ?_ ?_
              rotate_left
              · show Act.put _ (some 25) _ = _
                simp only [Act.put, List.setIfInBounds_toArray, List.set_cons_zero, List.set_cons_succ, i64_w, i32_w]
                rfl
              refine one_ (i := 4) (N := some 26) #[true, true, true, true, true, false, false, false] rfl rfl (one_of HT_.out (by kernel_rfl)) (by decide) (fun K hK => ?_)
              refine value_ (w1 := ?_) (v := ?_) (by rfl) rfl ?_ ?_
              rotate_left 2
              · go_simp
                constructor
                · rfl
                · rfl
              refine hK.out _ _ ⟨(blk_cell (blk_alloc BK237.out _) 0).trans rfl, (blk_cell (blk_alloc BK237.out _) 1).trans rfl, (blk_cell (blk_alloc BK237.out _) 2).trans rfl, (blk_cell (blk_alloc BK237.out _) 3).trans rfl, (blk_cell (blk_alloc BK237.out _) 4).trans rfl, (blk_cell (blk_alloc BK239.out _) 0).trans rfl, (blk_cell (blk_alloc BK239.out _) 1).trans rfl, (blk_cell (blk_alloc BK239.out _) 2).trans rfl, (blk_cell (blk_alloc BK239.out _) 3).trans rfl, (blk_cell (blk_alloc BK239.out _) 4).trans rfl⟩ (fun hHeld => ?_)
              clear hK K
              refine norm_ (a' := ?_) ?_ ?_
              rotate_left
              · show Act.put _ (some 26) _ = _
                simp only [Act.put, List.setIfInBounds_toArray, List.set_cons_zero, List.set_cons_succ, i64_w, i32_w]
                rfl
              refine one_ (i := 5) (N := some 27) #[true, true, true, true, true, true, false, false] rfl rfl (one_of HT_.out (by kernel_rfl)) (by decide) (fun K hK => ?_)
              refine Kd.R_append_step k31 (w0 := w) w.heap.size (by rfl) (.tmp 23) (.tmp 26) 29 31 (.agg #[(.int .u8 0), (.bool false), (.int .u64 0), (.string ⟨#[]⟩), (.slice none 0 0)]) 56 rfl Tryd.underlying29 info31 rfl (by decide) (by omega) u238004 x238004_1 (⟨t240, t241, t242, t243, t244⟩ : S31) [.int .u8 t240, .bool t241, .int .u64 t242, .string t243, .slice Ao25 t244.length co25] (fun k_ => k_ ≠ gb236 ∧ k_ ≠ gb237) (fun k_ => ((fun k_ => k_ ≠ gb236 ∧ k_ ≠ gb237)) k_ ∧ some k_ ≠ (u238004 : Value).ownBlock) rfl rfl ?aP (fun _ hk => hk) ?aF ?aO ?aB ?aS ?aL ?_
              (case aP => exact k31_mkM _ _ _ (⟨t240, t241, t242, t243, t244⟩ : S31) (Kd.R_mono (HO246.out) (fun k_ hk => ⟨⟨hk.1.2, hk.2⟩, hk.1.1.2⟩)))
              (case aB => exact (by repeat (first | (with_reducible first | exact HB.out | apply below_alloc | apply pw_below_drewN | apply below_drew1 | refine below_set ?_ GE235.out | refine below_set ?_ GE236.out | refine below_set ?_ GE237.out | refine below_set ?_ GE239.out) | exact HB.out)))
              (case aF => exact (fun k_ hk => ⟨Kd.freshB (g := gb236) (o := .cells #[.int .u8 0, .bool false, .int .u64 0, .string (⟨#[]⟩ : ByteArray), .slice none 0 0] 31 (0, 0)) (by (with_reducible repeat (first | refine blk_drewN ?_ _ | refine blk_drew ?_ | refine blk_alloc ?_ _)); exact BK236.out) k_ hk, Kd.freshB (g := gb237) (o := .cells #[.int .u8 a0_0, .bool a0_1, .int .u64 a0_2, .string a0_3, u238004] 31 (0, 0)) (by (with_reducible repeat (first | refine blk_drewN ?_ _ | refine blk_drew ?_ | refine blk_alloc ?_ _)); exact BK237.out) k_ hk⟩))
              (case aO => exact (by (with_reducible repeat (first | apply Kd.R_alloc | apply Kd.R_drewN | apply Kd.R_drew)); exact Kd.R_mono HO_238004.out (fun _ hk => ⟨hk.1.1, hk.1.2⟩)))
              (case aS => exact (below_size (by repeat (first | (with_reducible first | exact HB.out | apply below_alloc | apply pw_below_drewN | apply below_drew1 | refine below_set ?_ GE235.out | refine below_set ?_ GE236.out | refine below_set ?_ GE237.out | refine below_set ?_ GE239.out) | exact HB.out))))
              (case aL => have := LMc15.out; omega)
              intro v248 w24 ho hb hg hat
              rw [← Ny247.out] at ho
              have n0_ := Aside0.mk (blk_grown (g := gb235) (o := .cells #[.int .u8 a0_0, .bool a0_1, .int .u64 a0_2, .string a0_3, .slice (some ad238) l0_4.length c0_4] 26 (0, 0)) (by (with_reducible repeat (first | refine blk_drewN ?_ _ | refine blk_drew ?_ | refine blk_alloc ?_ _)); exact BK235.out) hg (Kd.R_ne HO_238004.out BK235.out (by decide)))
              have n1_ := Aside0.mk (blk_grown (g := gb236) (o := .cells #[.int .u8 0, .bool false, .int .u64 0, .string (⟨#[]⟩ : ByteArray), .slice none 0 0] 31 (0, 0)) (by (with_reducible repeat (first | refine blk_drewN ?_ _ | refine blk_drew ?_ | refine blk_alloc ?_ _)); exact BK236.out) hg (Kd.R_away HO_238004.out (fun _ hk => hk.1.1)))
              have n2_ := Aside0.mk (blk_grown (g := gb237) (o := .cells #[.int .u8 a0_0, .bool a0_1, .int .u64 a0_2, .string a0_3, u238004] 31 (0, 0)) (by (with_reducible repeat (first | refine blk_drewN ?_ _ | refine blk_drew ?_ | refine blk_alloc ?_ _)); exact BK237.out) hg (Kd.R_away HO_238004.out (fun _ hk => hk.1.2)))
              have n3_ := Aside0.mk (blk_grown (g := gb239) (o := .cells #[.int .u8 ((rd_T26 l0_4 x18_1).f0), .bool ((rd_T26 l0_4 x18_1).f1), .int .u64 ((rd_T26 l0_4 x18_1).f2), .string ((rd_T26 l0_4 x18_1).f3), .slice A238_4 ((rd_T26 l0_4 x18_1).f4).length c238_4] 26 (0, 0)) (by (with_reducible repeat (first | refine blk_drewN ?_ _ | refine blk_drew ?_ | refine blk_alloc ?_ _)); exact BK239.out) hg (Kd.R_ne HO_238004.out BK239.out (by decide)))
              have n4_ := Aside0.mk (hb)
              have n5_ := Aside0.mk (ho)
              clear BK235
              clear BK236
              clear BK237
              clear BK239
              clear HB
              clear HO_238004
              clear HO246
              have BK235 := n0_
              have BK236 := n1_
              have BK237 := n2_
              have BK239 := n3_
              have HB := n4_
              have HO249 := n5_
              clear n0_ n1_ n2_ n3_ n4_ n5_
              clear ho hb hg hat
              obtain ⟨Ao26, co26, eo26⟩ := Kd.R_slice HO249.out
              (first | subst eo26 | (injection eo26 with f1_ f2_ f3_; have f4_ := f1_.symm; have f5_ := f3_.symm; clear f1_ f2_ f3_; subst f4_; subst f5_))
              refine hK.out _ _ ⟨(blk_cell BK237.out 0).trans rfl, (blk_cell BK237.out 1).trans rfl, (blk_cell BK237.out 2).trans rfl, (blk_cell BK237.out 3).trans rfl, (blk_cell BK237.out 4).trans rfl, (blk_cell BK239.out 0).trans rfl, (blk_cell BK239.out 1).trans rfl, (blk_cell BK239.out 2).trans rfl, (blk_cell BK239.out 3).trans rfl, (blk_cell BK239.out 4).trans rfl⟩ (fun hHeld => ?_)
              clear hK K
              refine norm_ (a' := ?_) ?_ ?_
              rotate_left
              · show Act.put _ (some 27) _ = _
                simp only [Act.put, List.setIfInBounds_toArray, List.set_cons_zero, List.set_cons_succ, i64_w, i32_w]
                rfl
              refine pure_ (i := 6) (N := some 28) (v := ?_) (a' := ?_) #[true, true, true, true, true, true, true, false] rfl rfl (any_of HT_.out (by kernel_rfl)) (fun _ _ _ h => h) (Or.inl ⟨by rfl, ?_⟩) ?_ ?_
              rotate_left
              · intro w'
                go_simp
                with_reducible rfl
              rotate_left
              · simp only [Act.put, List.setIfInBounds_toArray, List.set_cons_zero, List.set_cons_succ, i64_w, i32_w]
                rfl
              refine last_ (i := 7) (N := none) #[true, true, true, true, true, true, true, true] rfl rfl (one_of HT_.out (by kernel_rfl)) (by decide) (fun K hK => ?_)
              have hs27 : w24.cell? ⟨gb237, 4, none⟩ = some (u238004) := (blk_cell BK237.out 4).trans rfl
              have hfs27 := blk_frozen BK237.out 4
              have hns27_0 := NB235_237.out
              have hns27_1 := NB236_237.out
              have hns27_3 := NB239_237.out
              have hms27_0 := NB237_235.out
              have hms27_1 := NB237_236.out
              have hms27_3 := NB237_239.out
              refine skip_ (w1 := ?_) (by rfl) rfl ?_ ?_
              rotate_left
              · go_simp
                rfl
              refine hK.out _ _ ?_
              clear hK K
              refine done_ (done_of HT_.out (by kernel_rfl)) ?_
              try go_wp2
              go_roundg k1
              case measure => have := HK1.out; omega
              case rel => exact ⟨(wrap64 (x18_1 + 1)), (y247), (.slice Ao26 y247.length co26), (by first | rfl | (simp; done) | (simp [*]; done)), H', ⟨by have := HK1.out; omega⟩, ⟨by (with_reducible repeat (first | apply Kd.R_alloc | apply Kd.R_drewN | apply Kd.R_drew)); exact Kd.R_mono (Kd.R_far (p := ⟨gb237, 4, none⟩) (Kd.R_mono HO249.out (fun k_ hk => (⟨hk, hk.2⟩ : _ ∧ k_ ≠ gb237))) (fun _ hk => hk.2) (.slice Ao26 y247.length co26)) (fun _ hk => ⟨hk.1.1, hk.1.2⟩)⟩, ⟨by (with_reducible repeat (first | refine blk_drewN ?_ _ | refine blk_drew ?_ | refine blk_alloc ?_ _)); refine blk_far ?_ NB235_237.out _; (with_reducible repeat (first | refine blk_drewN ?_ _ | refine blk_drew ?_ | refine blk_alloc ?_ _)); exact BK235.out⟩, ⟨by (with_reducible repeat (first | refine blk_drewN ?_ _ | refine blk_drew ?_ | refine blk_alloc ?_ _)); refine blk_far ?_ NB236_237.out _; (with_reducible repeat (first | refine blk_drewN ?_ _ | refine blk_drew ?_ | refine blk_alloc ?_ _)); exact BK236.out⟩, ⟨by (with_reducible repeat (first | refine blk_drewN ?_ _ | refine blk_drew ?_ | refine blk_alloc ?_ _)); refine blk_put (cs := #[.int .u8 a0_0, .bool a0_1, .int .u64 a0_2, .string a0_3, u238004]) ?_ 4 _ rfl; (with_reducible repeat (first | refine blk_drewN ?_ _ | refine blk_drew ?_ | refine blk_alloc ?_ _)); exact BK237.out⟩, ⟨by repeat (first | (with_reducible first | exact HB.out | apply below_alloc | apply pw_below_drewN | apply below_drew1 | refine below_set ?_ GE235.out | refine below_set ?_ GE236.out | refine below_set ?_ GE237.out | refine below_set ?_ GE239.out) | exact HB.out)⟩⟩
            · rw [if_neg c15] at H
              exact absurd H (by simp)
          · rw [if_neg c13] at H
            exact absurd H (by simp)
        · rw [if_neg c12] at H
          exact absurd H (by simp)
      · rw [if_neg c11] at H
        have c11b0 : decide (x18_1 < (l0_4.length : Int)) = false := decide_eq_false c11
        clear c11
        simp only [Option.some.injEq, Prod.mk.injEq] at H
        obtain ⟨rfl, rfl, rfl, rfl, rfl⟩ := H
        have hnb28 := NB237_235.out
        have hnc28 := NB235_237.out
        have hnb29 := NB237_236.out
        have hnc29 := NB236_237.out
        have hcz30_0 : wr.cell? ⟨gb237, 0, none⟩ = some (.int .u8 a0_0) := (blk_cell BK237.out 0).trans rfl
        have hcz30_1 : wr.cell? ⟨gb237, 1, none⟩ = some (.bool a0_1) := (blk_cell BK237.out 1).trans rfl
        have hcz30_2 : wr.cell? ⟨gb237, 2, none⟩ = some (.int .u64 a0_2) := (blk_cell BK237.out 2).trans rfl
        have hcz30_3 : wr.cell? ⟨gb237, 3, none⟩ = some (.string a0_3) := (blk_cell BK237.out 3).trans rfl
        have hcz30_4 : wr.cell? ⟨gb237, 4, none⟩ = some (u238004) := (blk_cell BK237.out 4).trans rfl
        have hfz30_0 := blk_frozen BK237.out 0
        have hfz30_1 := blk_frozen BK237.out 1
        have hfz30_2 := blk_frozen BK237.out 2
        have hfz30_3 := blk_frozen BK237.out 3
        have hfz30_4 := blk_frozen BK237.out 4
        have hnb31 := NB236_235.out
        have hnc31 := NB235_236.out
        have hcz32_0 : wr.cell? ⟨gb236, 0, none⟩ = some (.int .u8 0) := (blk_cell BK236.out 0).trans rfl
        have hcz32_1 : wr.cell? ⟨gb236, 1, none⟩ = some (.bool false) := (blk_cell BK236.out 1).trans rfl
        have hcz32_2 : wr.cell? ⟨gb236, 2, none⟩ = some (.int .u64 0) := (blk_cell BK236.out 2).trans rfl
        have hcz32_3 : wr.cell? ⟨gb236, 3, none⟩ = some (.string (⟨#[]⟩ : ByteArray)) := (blk_cell BK236.out 3).trans rfl
        have hcz32_4 : wr.cell? ⟨gb236, 4, none⟩ = some (.slice none 0 0) := (blk_cell BK236.out 4).trans rfl
        have hfz32_0 := blk_frozen BK236.out 0
        have hfz32_1 := blk_frozen BK236.out 1
        have hfz32_2 := blk_frozen BK236.out 2
        have hfz32_3 := blk_frozen BK236.out 3
        have hfz32_4 := blk_frozen BK236.out 4
        obtain ⟨Ao33, co33, eo33⟩ := Kd.R_slice HO_238004.out
        subst eo33
        go_wp2
        refine bodyPost_ret (results_cell_row rfl _ _ gb236 31 #[.int .u8 a0_0, .bool a0_1, .int .u64 a0_2, .string a0_3, .slice Ao33 x238004_1.length co33] (0, 0) _ rfl (by (with_reducible repeat (first | refine blk_drewN ?_ _ | refine blk_drew ?_ | refine blk_alloc ?_ _)); refine blk_put (cs := #[.int .u8 a0_0, .bool a0_1, .int .u64 a0_2, .string a0_3, .slice none 0 0]) ?_ 4 _ rfl; (with_reducible repeat (first | refine blk_drewN ?_ _ | refine blk_drew ?_ | refine blk_alloc ?_ _)); refine blk_put (cs := #[.int .u8 a0_0, .bool a0_1, .int .u64 a0_2, .string (⟨#[]⟩ : ByteArray), .slice none 0 0]) ?_ 3 _ rfl; (with_reducible repeat (first | refine blk_drewN ?_ _ | refine blk_drew ?_ | refine blk_alloc ?_ _)); refine blk_put (cs := #[.int .u8 a0_0, .bool a0_1, .int .u64 0, .string (⟨#[]⟩ : ByteArray), .slice none 0 0]) ?_ 2 _ rfl; (with_reducible repeat (first | refine blk_drewN ?_ _ | refine blk_drew ?_ | refine blk_alloc ?_ _)); refine blk_put (cs := #[.int .u8 a0_0, .bool false, .int .u64 0, .string (⟨#[]⟩ : ByteArray), .slice none 0 0]) ?_ 1 _ rfl; (with_reducible repeat (first | refine blk_drewN ?_ _ | refine blk_drew ?_ | refine blk_alloc ?_ _)); refine blk_put (cs := #[.int .u8 0, .bool false, .int .u64 0, .string (⟨#[]⟩ : ByteArray), .slice none 0 0]) ?_ 0 _ rfl; (with_reducible repeat (first | refine blk_drewN ?_ _ | refine blk_drew ?_ | refine blk_alloc ?_ _)); exact BK236.out) Tryd.underlying31 rfl (by kernel_rfl)) rfl ?_
        exact ⟨_, by first | rfl | (simp [errW_none, errW_some] <;> rfl) | (simp [*, errW_none, errW_some] <;> rfl), by (with_reducible repeat (first | apply Kd.R_alloc | apply Kd.R_drewN | apply Kd.R_drew)); exact Kd.R_mono (Kd.R_far (p := ⟨gb236, 4, none⟩) (Kd.R_far (p := ⟨gb236, 3, none⟩) (Kd.R_far (p := ⟨gb236, 2, none⟩) (Kd.R_far (p := ⟨gb236, 1, none⟩) (Kd.R_far (p := ⟨gb236, 0, none⟩) (Kd.R_mono HO_238004.out (fun k_ hk => (⟨hk, hk.1⟩ : _ ∧ k_ ≠ gb236))) (fun _ hk => hk.2) (.int .u8 a0_0)) (fun _ hk => hk.2) (.bool a0_1)) (fun _ hk => hk.2) (.int .u64 a0_2)) (fun _ hk => hk.2) (.string a0_3)) (fun _ hk => hk.2) (.slice Ao33 x238004_1.length co33)) (fun _ hk => trivial), by repeat (first | (with_reducible first | exact HB.out | apply below_alloc | apply pw_below_drewN | apply below_drew1 | refine below_set ?_ GE235.out | refine below_set ?_ GE236.out | refine below_set ?_ GE237.out) | exact HB.out)⟩

-- NOT PRINTED: function 6 (laws_FnBerForms)

end Go.Proofs.YtdfehaonngccjaaDoor.PFnBerForms
