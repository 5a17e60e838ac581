-- PRINTED BY print.sh 35421559b90ae4d0a3588c463048766b98c2df88dd9212a6774a882060cdf62d: not written by this session
import Derived.Test.YtdfehaonngccjaaDoorPFnBerFormsx0
namespace Go.Proofs.YtdfehaonngccjaaDoor.PFnBerForms
open Go.RowKit Go.Proofs.YtdfehaonngccjaaDoorW.PrintWords Go.Proofs.YtdfehaonngccjaaDoorW.PrintLast Go.Proofs.YtdfehaonngccjaaDoorW.PrintMore
attribute [local go_sem] max2_int min2_int max_two min_two max_three min_three max_four min_four   -- for this text's walks alone
set_option linter.unusedVariables false
set_option linter.unusedSimpArgs false

/-! ### laws_berOf: function 11 -/
mutual
def laws_berOf.l0 : Nat → List (S31) → Int → Int → Int → Bool → Int → ByteArray → List (S26) → Option (Int × Bool × Int × ByteArray × (List (S26)))
  | 0, _, _, _, _, _, _, _, _ => none
  | k + 1, x16, x17, x18, x180000, x180001, x180002, x180003, x180004 => if x18 < x17 then (if 0 ≤ x18 then (if x18 < (x16.length : Int) then ((laws_berOf.f k ((rd_T31 x16 x18).f0) ((rd_T31 x16 x18).f1) ((rd_T31 x16 x18).f2) ((rd_T31 x16 x18).f3) ((rd_T31 x16 x18).f4)).bind fun bt182 => (if x180004.length < 2513169434916 then (laws_berOf.l0 k x16 x17 (wrap64 (x18 + 1)) x180000 x180001 x180002 x180003 (x180004 ++ [(⟨bt182.1, bt182.2.1, bt182.2.2.1, bt182.2.2.2.1, bt182.2.2.2.2⟩ : S26)])) else (none))) else (none)) else (none)) else (some (x180000, x180001, x180002, x180003, x180004))
def laws_berOf.f : Nat → Int → Bool → Int → ByteArray → List (S31) → Option (Int × Bool × Int × ByteArray × (List (S26)))
  | 0, _, _, _, _, _ => none
  | k + 1, a0_0, a0_1, a0_2, a0_3, l0_4 => laws_berOf.l0 k l0_4 (l0_4.length : Int) 0 a0_0 a0_1 a0_2 a0_3 ([] : List (S26))
end
theorem laws_berOf.mono_l : ∀ k, (∀ y0 y1 y2 y3 y4, LeO (laws_berOf.f k y0 y1 y2 y3 y4) (laws_berOf.f (k + 1) y0 y1 y2 y3 y4)) ∧ (∀ y0 y1 y2 y3 y4 y5 y6 y7, LeO (laws_berOf.l0 k y0 y1 y2 y3 y4 y5 y6 y7) (laws_berOf.l0 (k + 1) y0 y1 y2 y3 y4 y5 y6 y7))
  | 0 => ⟨fun _ _ _ _ _ r h => by simp [laws_berOf.f] at h, fun _ _ _ _ _ _ _ _ r h => by simp [laws_berOf.l0] at h⟩
  | k + 1 => by
    obtain ⟨ih0, ih1⟩ := laws_berOf.mono_l k
    refine ⟨?_, ?_⟩
    · intro y0 y1 y2 y3 y4
      unfold laws_berOf.f
      repeat' first
      | (with_reducible exact ih0 _ _ _ _ _)
      | (with_reducible exact ih1 _ _ _ _ _ _ _ _)
      | (with_reducible exact LeO.refl _)
      | (with_reducible exact LeO.none _)
      | (with_reducible refine LeO.ite ?_ ?_)
      | (with_reducible refine LeO.bind ?_ (fun _ => ?_))
      | exact ih0 _ _ _ _ _
      | exact ih1 _ _ _ _ _ _ _ _
      | exact LeO.none _
      | refine LeO.ite ?_ ?_
      | refine LeO.bind ?_ (fun _ => ?_)
    · intro y0 y1 y2 y3 y4 y5 y6 y7
      unfold laws_berOf.l0
      repeat' first
      | (with_reducible exact ih0 _ _ _ _ _)
      | (with_reducible exact ih1 _ _ _ _ _ _ _ _)
      | (with_reducible exact LeO.refl _)
      | (with_reducible exact LeO.none _)
      | (with_reducible refine LeO.ite ?_ ?_)
      | (with_reducible refine LeO.bind ?_ (fun _ => ?_))
      | exact ih0 _ _ _ _ _
      | exact ih1 _ _ _ _ _ _ _ _
      | exact LeO.none _
      | refine LeO.ite ?_ ?_
      | refine LeO.bind ?_ (fun _ => ?_)
theorem laws_berOf.mono : ∀ a0 a1 a2 a3 a4 k, LeO (laws_berOf.f k a0 a1 a2 a3 a4) (laws_berOf.f (k + 1) a0 a1 a2 a3 a4) := by
  intro a0 a1 a2 a3 a4 k
  obtain ⟨ih0, ih1⟩ := laws_berOf.mono_l k
  exact ih0 a0 a1 a2 a3 a4
def laws_berOf.T5 : Bool × List (List Nat × List Nat) := (true, [([], []), ([0], [0]), ([], []), ([2], [2]), ([3], [3]), ([1, 4, 3], [1, 4]), ([0, 1, 2, 3, 4, 5], []), ([6, 5, 5, 0, 1, 2, 3, 4, 5], [5, 6])])
def laws_berOf.B5 : List Nat := [0, 1, 0, 4, 12, 31, 63, 127]
theorem laws_berOf.tab5 : rtab .any (opsOf Tryd.f11 5) = laws_berOf.T5 := by kernel_rfl
theorem laws_berOf.bits5 : waitsOk laws_berOf.T5.2 laws_berOf.B5 = true := by kernel_rfl
set_option maxHeartbeats 8000000 in
set_option maxRecDepth 100000 in
theorem laws_berOf.calls (k : Nat) : ∀ (a0_0 : Int) (a0_1 : Bool) (a0_2 : Int) (a0_3 : ByteArray) (A0_4 : Option Addr) (c0_4 : Nat) (l0_4 : List (S31)) (r1 : Int) (r2 : Bool) (r3 : Int) (r4 : ByteArray) (r5 : List (S26)) (w : World) (hr0_4 : Kd.C k31 w A0_4 l0_4.length l0_4) (hc0_4 : l0_4.length ≤ c0_4) (h : laws_berOf.f k a0_0 a0_1 a0_2 a0_3 l0_4 = some (r1, r2, r3, r4, r5)),
    Calls Tryd.prog 11 #[.agg #[.int .u8 a0_0, .bool a0_1, .int .u64 a0_2, .string a0_3, .slice A0_4 l0_4.length c0_4]] w fun e w' => ∃ v4_ : Value, e = .returned (.agg #[.int .u8 r1, .bool r2, .int .u64 r3, .string r4, v4_]) ∧ Kd.R k26 26 w' w.heap.size (fun _ => True) v4_ r5 ∧ Below w.heap.size w w' := by
  induction k using Nat.strongRecOn with
  | _ k ih =>
  intro a0_0 a0_1 a0_2 a0_3 A0_4 c0_4 l0_4 r1 r2 r3 r4 r5 w hr0_4 hc0_4 h
  cases k with
  | zero => exact absurd h (by simp [laws_berOf.f])
  | succ k =>
  simp only [laws_berOf.f] at h
  have hu31 := Tryd.underlying31
  have hu26 := Tryd.underlying26
  have HR0_4 := Aside0.mk hr0_4
  have HC0_4 := Aside0.mk hc0_4
  clear hr0_4 hc0_4
  have HB := Aside0.mk (Below.refl w.heap.size w)
  have H : (laws_berOf.l0 k l0_4 (l0_4.length : Int) 0 a0_0 a0_1 a0_2 a0_3 ([] : List (S26))) = some (r1, r2, r3, r4, r5) := h
  clear h
  have H' := Aside0.mk H
  clear H
  go_enter Tryd.func11, Tryd.ntmps11
  go_wp2_with (first | ((with_reducible refine gate_dst (N := 1) rfl ?_); refine box_event ?hg (N := 1) ?hd (cs := #[.int .u8 a0_0, .bool a0_1, .int .u64 a0_2, .string a0_3, .slice A0_4 l0_4.length c0_4]) (t := 31) ?hr ?_; (case hd => rfl); (case hg => rfl); (case hr => first | (go_simp; done) | (go_simp; rfl)); intro gb177 hg w2 hbox hb; have n0_ := Aside0.mk (below_step (by repeat (first | (with_reducible first | exact HB.out | apply below_alloc | apply pw_below_drewN | apply below_drew1) | exact HB.out)) hb); have n1_ := Aside0.mk (hbox); have n2_ := Aside0.mk ((by rw [hg]; exact (below_size (by repeat (first | (with_reducible first | exact HB.out | apply below_alloc | apply pw_below_drewN | apply below_drew1) | exact HB.out))) : w.heap.size ≤ gb177)); have n3_ := Aside0.mk ((by rw [hg]; exact (below_size (by repeat (first | (with_reducible first | exact HB.out | apply below_alloc | apply pw_below_drewN | apply below_drew1) | exact HB.out))) : w.heap.size ≤ gb177)); clear HB; have HB := n0_; have BK177 := n1_; have GW177 := n2_; have GE177 := n3_; clear n0_ n1_ n2_ n3_; clear hb hbox hg) | ((with_reducible refine gate_dst (N := 2) rfl ?_); refine box_event ?hg (N := 2) ?hd (cs := #[.int .u8 0, .bool false, .int .u64 0, .string (⟨#[]⟩ : ByteArray), .slice none 0 0]) (t := 26) ?hr ?_; (case hd => rfl); (case hg => rfl); (case hr => first | (go_simp; done) | (go_simp; rfl)); intro gb178 hg w3 hbox hb; have n0_ := Aside0.mk (blk_below (g := gb177) (o := .cells #[.int .u8 a0_0, .bool a0_1, .int .u64 a0_2, .string a0_3, .slice A0_4 l0_4.length c0_4] 31 (0, 0)) (by (with_reducible repeat (first | refine blk_drewN ?_ _ | refine blk_drew ?_ | refine blk_alloc ?_ _)); exact BK177.out) hb); have n1_ := Aside0.mk (below_step (by repeat (first | (with_reducible first | exact HB.out | apply below_alloc | apply pw_below_drewN | apply below_drew1 | refine below_set ?_ GE177.out) | exact HB.out)) hb); have n2_ := Aside0.mk (hbox); have n3_ := Aside0.mk ((by rw [hg]; exact (below_size (by repeat (first | (with_reducible first | exact HB.out | apply below_alloc | apply pw_below_drewN | apply below_drew1 | refine below_set ?_ GE177.out) | exact HB.out))) : w.heap.size ≤ gb178)); have n4_ := Aside0.mk ((by rw [hg]; exact (below_size (by repeat (first | (with_reducible first | exact HB.out | apply below_alloc | apply pw_below_drewN | apply below_drew1 | refine below_set ?_ GE177.out) | exact HB.out))) : w.heap.size ≤ gb178)); have n5_ := Aside0.mk ((by rw [hg]; exact Nat.ne_of_lt (blk_lt (g := gb177) (o := .cells #[.int .u8 a0_0, .bool a0_1, .int .u64 a0_2, .string a0_3, .slice A0_4 l0_4.length c0_4] 31 (0, 0)) (by (with_reducible repeat (first | refine blk_drewN ?_ _ | refine blk_drew ?_ | refine blk_alloc ?_ _)); exact BK177.out)) : gb177 ≠ gb178)); have n6_ := Aside0.mk ((by rw [hg]; exact Nat.ne_of_gt (blk_lt (g := gb177) (o := .cells #[.int .u8 a0_0, .bool a0_1, .int .u64 a0_2, .string a0_3, .slice A0_4 l0_4.length c0_4] 31 (0, 0)) (by (with_reducible repeat (first | refine blk_drewN ?_ _ | refine blk_drew ?_ | refine blk_alloc ?_ _)); exact BK177.out)) : gb178 ≠ gb177)); clear BK177; clear HB; have BK177 := n0_; have HB := n1_; have BK178 := n2_; have GW178 := n3_; have GE178 := n4_; have NB177_178 := n5_; have NB178_177 := n6_; clear n0_ n1_ n2_ n3_ n4_ n5_ n6_; clear hb hbox hg; have hnb4 := NB177_178.out; have hnc4 := NB178_177.out; have hcz5_0 : w3.cell? ⟨gb177, 0, none⟩ = some (.int .u8 a0_0) := (blk_cell BK177.out 0).trans rfl; have hcz5_1 : w3.cell? ⟨gb177, 1, none⟩ = some (.bool a0_1) := (blk_cell BK177.out 1).trans rfl; have hcz5_2 : w3.cell? ⟨gb177, 2, none⟩ = some (.int .u64 a0_2) := (blk_cell BK177.out 2).trans rfl; have hcz5_3 : w3.cell? ⟨gb177, 3, none⟩ = some (.string a0_3) := (blk_cell BK177.out 3).trans rfl; have hcz5_4 : w3.cell? ⟨gb177, 4, none⟩ = some (.slice A0_4 l0_4.length c0_4) := (blk_cell BK177.out 4).trans rfl; have hfz5_0 := blk_frozen BK177.out 0; have hfz5_1 := blk_frozen BK177.out 1; have hfz5_2 := blk_frozen BK177.out 2; have hfz5_3 := blk_frozen BK177.out 3; have hfz5_4 := blk_frozen BK177.out 4) | ((with_reducible refine gate_dst (N := 3) rfl ?_); refine box_event ?hg (N := 3) ?hd (cs := #[.int .u8 0, .bool false, .int .u64 0, .string (⟨#[]⟩ : ByteArray), .slice none 0 0]) (t := 26) ?hr ?_; (case hd => rfl); (case hg => rfl); (case hr => first | (go_simp; done) | (go_simp; rfl)); intro gb179 hg w6 hbox hb; have n0_ := Aside0.mk (blk_below (g := gb177) (o := .cells #[.int .u8 a0_0, .bool a0_1, .int .u64 a0_2, .string a0_3, .slice A0_4 l0_4.length c0_4] 31 (0, 0)) (by (with_reducible repeat (first | refine blk_drewN ?_ _ | refine blk_drew ?_ | refine blk_alloc ?_ _)); exact BK177.out) hb); have n1_ := Aside0.mk (blk_below (g := gb178) (o := .cells #[.int .u8 0, .bool false, .int .u64 0, .string (⟨#[]⟩ : ByteArray), .slice none 0 0] 26 (0, 0)) (by (with_reducible repeat (first | refine blk_drewN ?_ _ | refine blk_drew ?_ | refine blk_alloc ?_ _)); exact BK178.out) hb); have n2_ := Aside0.mk (below_step (by repeat (first | (with_reducible first | exact HB.out | apply below_alloc | apply pw_below_drewN | apply below_drew1 | refine below_set ?_ GE177.out | refine below_set ?_ GE178.out) | exact HB.out)) hb); have n3_ := Aside0.mk (hbox); have n4_ := Aside0.mk ((by rw [hg]; exact (below_size (by repeat (first | (with_reducible first | exact HB.out | apply below_alloc | apply pw_below_drewN | apply below_drew1 | refine below_set ?_ GE177.out | refine below_set ?_ GE178.out) | exact HB.out))) : w.heap.size ≤ gb179)); have n5_ := Aside0.mk ((by rw [hg]; exact (below_size (by repeat (first | (with_reducible first | exact HB.out | apply below_alloc | apply pw_below_drewN | apply below_drew1 | refine below_set ?_ GE177.out | refine below_set ?_ GE178.out) | exact HB.out))) : w.heap.size ≤ gb179)); have n6_ := Aside0.mk ((by rw [hg]; exact Nat.ne_of_lt (blk_lt (g := gb177) (o := .cells #[.int .u8 a0_0, .bool a0_1, .int .u64 a0_2, .string a0_3, .slice A0_4 l0_4.length c0_4] 31 (0, 0)) (by (with_reducible repeat (first | refine blk_drewN ?_ _ | refine blk_drew ?_ | refine blk_alloc ?_ _)); exact BK177.out)) : gb177 ≠ gb179)); have n7_ := Aside0.mk ((by rw [hg]; exact Nat.ne_of_gt (blk_lt (g := gb177) (o := .cells #[.int .u8 a0_0, .bool a0_1, .int .u64 a0_2, .string a0_3, .slice A0_4 l0_4.length c0_4] 31 (0, 0)) (by (with_reducible repeat (first | refine blk_drewN ?_ _ | refine blk_drew ?_ | refine blk_alloc ?_ _)); exact BK177.out)) : gb179 ≠ gb177)); have n8_ := Aside0.mk ((by rw [hg]; exact Nat.ne_of_lt (blk_lt (g := gb178) (o := .cells #[.int .u8 0, .bool false, .int .u64 0, .string (⟨#[]⟩ : ByteArray), .slice none 0 0] 26 (0, 0)) (by (with_reducible repeat (first | refine blk_drewN ?_ _ | refine blk_drew ?_ | refine blk_alloc ?_ _)); exact BK178.out)) : gb178 ≠ gb179)); have n9_ := Aside0.mk ((by rw [hg]; exact Nat.ne_of_gt (blk_lt (g := gb178) (o := .cells #[.int .u8 0, .bool false, .int .u64 0, .string (⟨#[]⟩ : ByteArray), .slice none 0 0] 26 (0, 0)) (by (with_reducible repeat (first | refine blk_drewN ?_ _ | refine blk_drew ?_ | refine blk_alloc ?_ _)); exact BK178.out)) : gb179 ≠ gb178)); clear BK177; clear BK178; clear HB; have BK177 := n0_; have BK178 := n1_; have HB := n2_; have BK179 := n3_; have GW179 := n4_; have GE179 := n5_; have NB177_179 := n6_; have NB179_177 := n7_; have NB178_179 := n8_; have NB179_178 := n9_; clear n0_ n1_ n2_ n3_ n4_ n5_ n6_ n7_ n8_ n9_; clear hb hbox hg; have hnb7 := NB179_177.out; have hnc7 := NB177_179.out; have hnb8 := NB179_178.out; have hnc8 := NB178_179.out; have hcz9_0 : w6.cell? ⟨gb179, 0, none⟩ = some (.int .u8 0) := (blk_cell BK179.out 0).trans rfl; have hcz9_1 : w6.cell? ⟨gb179, 1, none⟩ = some (.bool false) := (blk_cell BK179.out 1).trans rfl; have hcz9_2 : w6.cell? ⟨gb179, 2, none⟩ = some (.int .u64 0) := (blk_cell BK179.out 2).trans rfl; have hcz9_3 : w6.cell? ⟨gb179, 3, none⟩ = some (.string (⟨#[]⟩ : ByteArray)) := (blk_cell BK179.out 3).trans rfl; have hcz9_4 : w6.cell? ⟨gb179, 4, none⟩ = some (.slice none 0 0) := (blk_cell BK179.out 4).trans rfl; have hfz9_0 := blk_frozen BK179.out 0; have hfz9_1 := blk_frozen BK179.out 1; have hfz9_2 := blk_frozen BK179.out 2; have hfz9_3 := blk_frozen BK179.out 3; have hfz9_4 := blk_frozen BK179.out 4; have hcz10_0 : w6.cell? ⟨gb177, 0, none⟩ = some (.int .u8 a0_0) := (blk_cell BK177.out 0).trans rfl; have hcz10_1 : w6.cell? ⟨gb177, 1, none⟩ = some (.bool a0_1) := (blk_cell BK177.out 1).trans rfl; have hcz10_2 : w6.cell? ⟨gb177, 2, none⟩ = some (.int .u64 a0_2) := (blk_cell BK177.out 2).trans rfl; have hcz10_3 : w6.cell? ⟨gb177, 3, none⟩ = some (.string a0_3) := (blk_cell BK177.out 3).trans rfl; have hcz10_4 : w6.cell? ⟨gb177, 4, none⟩ = some (.slice A0_4 l0_4.length c0_4) := (blk_cell BK177.out 4).trans rfl; have hfz10_0 := blk_frozen BK177.out 0; have hfz10_1 := blk_frozen BK177.out 1; have hfz10_2 := blk_frozen BK177.out 2; have hfz10_3 := blk_frozen BK177.out 3; have hfz10_4 := blk_frozen BK177.out 4))
  go_loopg [18] k (fun kq v18 w' => ∃ (x18_1 : Int) (x180004_1 : List (S26)) (u180004 : Value), v18 = .int .i64 x18_1 ∧ Aside0 (laws_berOf.l0 kq l0_4 (l0_4.length : Int) x18_1 a0_0 a0_1 a0_2 a0_3 x180004_1 = some (r1, r2, r3, r4, r5)) ∧ Aside0 (kq ≤ k) ∧ Aside0 (Kd.R k26 26 w' w.heap.size (fun k_ => k_ ≠ gb178 ∧ k_ ≠ gb179) u180004 x180004_1) ∧ Aside0 (w'.heap[gb177]? = some (.cells #[.int .u8 a0_0, .bool a0_1, .int .u64 a0_2, .string a0_3, (.slice A0_4 l0_4.length c0_4)] 31 (0, 0))) ∧ Aside0 (w'.heap[gb178]? = some (.cells #[.int .u8 0, .bool false, .int .u64 0, .string (⟨#[]⟩ : ByteArray), (.slice none 0 0)] 26 (0, 0))) ∧ Aside0 (w'.heap[gb179]? = some (.cells #[.int .u8 a0_0, .bool a0_1, .int .u64 a0_2, .string a0_3, u180004] 26 (0, 0))) ∧ Aside0 (Below w.heap.size w w'))
  case atStart => exact ⟨(0), (([] : List (S26))), (.slice none 0 0), (by first | rfl | (simp; done) | (simp [*]; done)), H', ⟨Nat.le_refl _⟩, ⟨by first | exact Kd.R_nil _ _ _ _ _ | exact Kd.N_nil _ _ _ _ _ | exact Kd.V_nil _ _ _ _ _ | exact Kd.Q_nil _ _ _ _ _ | exact Kd.S_nil _ _ _ _ _⟩, ⟨by (with_reducible repeat (first | refine blk_drewN ?_ _ | refine blk_drew ?_ | refine blk_alloc ?_ _)); refine blk_far ?_ NB177_179.out _; (with_reducible repeat (first | refine blk_drewN ?_ _ | refine blk_drew ?_ | refine blk_alloc ?_ _)); refine blk_far ?_ NB177_179.out _; (with_reducible repeat (first | refine blk_drewN ?_ _ | refine blk_drew ?_ | refine blk_alloc ?_ _)); refine blk_far ?_ NB177_179.out _; (with_reducible repeat (first | refine blk_drewN ?_ _ | refine blk_drew ?_ | refine blk_alloc ?_ _)); refine blk_far ?_ NB177_179.out _; (with_reducible repeat (first | refine blk_drewN ?_ _ | refine blk_drew ?_ | refine blk_alloc ?_ _)); refine blk_far ?_ NB177_179.out _; (with_reducible repeat (first | refine blk_drewN ?_ _ | refine blk_drew ?_ | refine blk_alloc ?_ _)); exact BK177.out⟩, ⟨by (with_reducible repeat (first | refine blk_drewN ?_ _ | refine blk_drew ?_ | refine blk_alloc ?_ _)); refine blk_far ?_ NB178_179.out _; (with_reducible repeat (first | refine blk_drewN ?_ _ | refine blk_drew ?_ | refine blk_alloc ?_ _)); refine blk_far ?_ NB178_179.out _; (with_reducible repeat (first | refine blk_drewN ?_ _ | refine blk_drew ?_ | refine blk_alloc ?_ _)); refine blk_far ?_ NB178_179.out _; (with_reducible repeat (first | refine blk_drewN ?_ _ | refine blk_drew ?_ | refine blk_alloc ?_ _)); refine blk_far ?_ NB178_179.out _; (with_reducible repeat (first | refine blk_drewN ?_ _ | refine blk_drew ?_ | refine blk_alloc ?_ _)); refine blk_far ?_ NB178_179.out _; (with_reducible repeat (first | refine blk_drewN ?_ _ | refine blk_drew ?_ | refine blk_alloc ?_ _)); exact BK178.out⟩, ⟨by (with_reducible repeat (first | refine blk_drewN ?_ _ | refine blk_drew ?_ | refine blk_alloc ?_ _)); refine blk_put (cs := #[.int .u8 a0_0, .bool a0_1, .int .u64 a0_2, .string a0_3, .slice none 0 0]) ?_ 4 _ rfl; (with_reducible repeat (first | refine blk_drewN ?_ _ | refine blk_drew ?_ | refine blk_alloc ?_ _)); refine blk_put (cs := #[.int .u8 a0_0, .bool a0_1, .int .u64 a0_2, .string (⟨#[]⟩ : ByteArray), .slice none 0 0]) ?_ 3 _ rfl; (with_reducible repeat (first | refine blk_drewN ?_ _ | refine blk_drew ?_ | refine blk_alloc ?_ _)); refine blk_put (cs := #[.int .u8 a0_0, .bool a0_1, .int .u64 0, .string (⟨#[]⟩ : ByteArray), .slice none 0 0]) ?_ 2 _ rfl; (with_reducible repeat (first | refine blk_drewN ?_ _ | refine blk_drew ?_ | refine blk_alloc ?_ _)); refine blk_put (cs := #[.int .u8 a0_0, .bool false, .int .u64 0, .string (⟨#[]⟩ : ByteArray), .slice none 0 0]) ?_ 1 _ rfl; (with_reducible repeat (first | refine blk_drewN ?_ _ | refine blk_drew ?_ | refine blk_alloc ?_ _)); refine blk_put (cs := #[.int .u8 0, .bool false, .int .u64 0, .string (⟨#[]⟩ : ByteArray), .slice none 0 0]) ?_ 0 _ rfl; (with_reducible repeat (first | refine blk_drewN ?_ _ | refine blk_drew ?_ | refine blk_alloc ?_ _)); exact BK179.out⟩, ⟨by repeat (first | (with_reducible first | exact HB.out | apply below_alloc | apply pw_below_drewN | apply below_drew1 | refine below_set ?_ GE177.out | refine below_set ?_ GE178.out | refine below_set ?_ GE179.out) | exact HB.out)⟩⟩
  case round =>
    clear H'
    try clear c1
    try clear p2
    try clear c4
    try clear c7
    try clear c8
    try clear hcz10_0
    try clear hcz10_1
    try clear hcz10_2
    try clear hcz10_3
    try clear hcz10_4
    try clear hcz5_0
    try clear hcz5_1
    try clear hcz5_2
    try clear hcz5_3
    try clear hcz5_4
    try clear hcz9_0
    try clear hcz9_1
    try clear hcz9_2
    try clear hcz9_3
    try clear hcz9_4
    try clear hfz10_0
    try clear hfz10_1
    try clear hfz10_2
    try clear hfz10_3
    try clear hfz10_4
    try clear hfz5_0
    try clear hfz5_1
    try clear hfz5_2
    try clear hfz5_3
    try clear hfz5_4
    try clear hfz9_0
    try clear hfz9_1
    try clear hfz9_2
    try clear hfz9_3
    try clear hfz9_4
    obtain ⟨x18_1, x180004_1, u180004, rfl, HA, HK1, HO_180004, BK177, BK178, BK179, HB⟩ := hrel
    cases gk with
    | zero => exact absurd HA.out (by simp [laws_berOf.l0])
    | succ k1 =>
      have H := HA.out
      clear HA
      simp only [laws_berOf.l0] at H
      by_cases c11 : x18_1 < (l0_4.length : Int)
      · rw [if_pos c11] at H
        have c11b0 : decide (x18_1 < (l0_4.length : Int)) = true := decide_eq_true c11
        clear c11
        by_cases c12 : 0 ≤ x18_1
        · rw [if_pos c12] at H
          have c12b0 : decide (0 ≤ x18_1) = true := decide_eq_true c12
          clear c12
          by_cases c13 : x18_1 < (l0_4.length : Int)
          · rw [if_pos c13] at H
            have c13b0 : decide (x18_1 < (l0_4.length : Int)) = true := decide_eq_true c13
            clear c13
            replace H := Option.bind_eq_some_iff.mp H
            obtain ⟨⟨t182, t183, t184, t185, t186⟩, A140, H⟩ := H
            replace H : (if x180004_1.length < 2513169434916 then (laws_berOf.l0 k1 l0_4 (l0_4.length : Int) (wrap64 (x18_1 + 1)) a0_0 a0_1 a0_2 a0_3 (x180004_1 ++ [(⟨t182, t183, t184, t185, t186⟩ : S26)])) else (none)) = some (r1, r2, r3, r4, r5) := H
            have A14 := Aside0.mk A140
            clear A140
            by_cases c15 : x180004_1.length < 2513169434916
            · rw [if_pos c15] at H
              have LMc15 := Aside0.mk c15
              clear c15
              obtain ⟨y189, hy189⟩ : ∃ y_ : List (S26), y_ = (x180004_1 ++ [(⟨t182, t183, t184, t185, t186⟩ : S26)]) := ⟨_, rfl⟩
              replace H : (laws_berOf.l0 k1 l0_4 (l0_4.length : Int) (wrap64 (x18_1 + 1)) a0_0 a0_1 a0_2 a0_3 y189) = some (r1, r2, r3, r4, r5) := by first | (rw [hy189]; with_reducible exact H) | (have H2_ := (Option.bind_some _ _).symm.trans H; rw [hy189]; with_reducible exact H2_) | (have H2_ := (Option.bind_some _ _).symm.trans H; with_reducible exact H2_) | with_reducible exact H | (rw [hy189]; exact H) | exact H
              have Ny189 := Aside0.mk hy189
              clear hy189
              have H' := Aside0.mk H
              clear H
              have p180 : 0 ≤ (x18_1 : Int) := of_decide_eq_true (by first | (with_reducible assumption) | assumption)
              have q180 : x18_1 < (l0_4.length : Int) := of_decide_eq_true (by first | (with_reducible assumption) | assumption)
              obtain ⟨ad180, A180_4, c180_4, e180, hx180_0, hx180_1, hx180_2, hx180_3, hx180_4, hl180_4, hi180_4⟩ := at_T31 HR0_4.out x18_1 p180 q180
              cases e180
              replace hx180_0 := (HB.out.cell (World.block_lt_of_cell? w _ hx180_0)).trans hx180_0
              replace hx180_1 := (HB.out.cell (World.block_lt_of_cell? w _ hx180_1)).trans hx180_1
              replace hx180_2 := (HB.out.cell (World.block_lt_of_cell? w _ hx180_2)).trans hx180_2
              replace hx180_3 := (HB.out.cell (World.block_lt_of_cell? w _ hx180_3)).trans hx180_3
              replace hx180_4 := (HB.out.cell (World.block_lt_of_cell? w _ hx180_4)).trans hx180_4
              have HR180_4 := Aside0.mk hi180_4
              have HC180_4 := Aside0.mk hl180_4
              clear hi180_4 hl180_4
              replace p180 := eq_true p180
              replace q180 := eq_true q180
              try go_wp2_with (first | ((with_reducible refine gate_dst (N := 5) rfl ?_); refine box_event ?hg (N := 5) ?hd (cs := #[.int .u8 0, .bool false, .int .u64 0, .string (⟨#[]⟩ : ByteArray), .slice none 0 0]) (t := 31) ?hr ?_; (case hd => rfl); (case hg => rfl); (case hr => first | (go_simp; done) | (go_simp; rfl)); intro gb181 hg w16 hbox hb; have n0_ := Aside0.mk (Kd.R_below (by (with_reducible repeat (first | apply Kd.R_alloc | apply Kd.R_drewN | apply Kd.R_drew)); exact HO_180004.out) hb); have n1_ := Aside0.mk (blk_below (g := gb177) (o := .cells #[.int .u8 a0_0, .bool a0_1, .int .u64 a0_2, .string a0_3, .slice (some ad180) l0_4.length c0_4] 31 (0, 0)) (by (with_reducible repeat (first | refine blk_drewN ?_ _ | refine blk_drew ?_ | refine blk_alloc ?_ _)); exact BK177.out) hb); have n2_ := Aside0.mk (blk_below (g := gb178) (o := .cells #[.int .u8 0, .bool false, .int .u64 0, .string (⟨#[]⟩ : ByteArray), .slice none 0 0] 26 (0, 0)) (by (with_reducible repeat (first | refine blk_drewN ?_ _ | refine blk_drew ?_ | refine blk_alloc ?_ _)); exact BK178.out) hb); have n3_ := Aside0.mk (blk_below (g := gb179) (o := .cells #[.int .u8 a0_0, .bool a0_1, .int .u64 a0_2, .string a0_3, u180004] 26 (0, 0)) (by (with_reducible repeat (first | refine blk_drewN ?_ _ | refine blk_drew ?_ | refine blk_alloc ?_ _)); exact BK179.out) hb); have n4_ := Aside0.mk (below_step (by repeat (first | (with_reducible first | exact HB.out | apply below_alloc | apply pw_below_drewN | apply below_drew1 | refine below_set ?_ GE177.out | refine below_set ?_ GE178.out | refine below_set ?_ GE179.out) | exact HB.out)) hb); have n5_ := Aside0.mk (hbox); have n6_ := Aside0.mk ((by rw [hg]; exact (below_size (by repeat (first | (with_reducible first | exact HB.out | apply below_alloc | apply pw_below_drewN | apply below_drew1 | refine below_set ?_ GE177.out | refine below_set ?_ GE178.out | refine below_set ?_ GE179.out) | exact HB.out))) : w.heap.size ≤ gb181)); have n7_ := Aside0.mk ((by rw [hg]; exact (below_size (by repeat (first | (with_reducible first | exact HB.out | apply below_alloc | apply pw_below_drewN | apply below_drew1 | refine below_set ?_ GE177.out | refine below_set ?_ GE178.out | refine below_set ?_ GE179.out) | exact HB.out))) : w.heap.size ≤ gb181)); have n8_ := Aside0.mk ((by rw [hg]; exact Nat.ne_of_lt (blk_lt (g := gb177) (o := .cells #[.int .u8 a0_0, .bool a0_1, .int .u64 a0_2, .string a0_3, .slice (some ad180) l0_4.length c0_4] 31 (0, 0)) (by (with_reducible repeat (first | refine blk_drewN ?_ _ | refine blk_drew ?_ | refine blk_alloc ?_ _)); exact BK177.out)) : gb177 ≠ gb181)); have n9_ := Aside0.mk ((by rw [hg]; exact Nat.ne_of_gt (blk_lt (g := gb177) (o := .cells #[.int .u8 a0_0, .bool a0_1, .int .u64 a0_2, .string a0_3, .slice (some ad180) l0_4.length c0_4] 31 (0, 0)) (by (with_reducible repeat (first | refine blk_drewN ?_ _ | refine blk_drew ?_ | refine blk_alloc ?_ _)); exact BK177.out)) : gb181 ≠ gb177)); have n10_ := Aside0.mk ((by rw [hg]; exact Nat.ne_of_lt (blk_lt (g := gb178) (o := .cells #[.int .u8 0, .bool false, .int .u64 0, .string (⟨#[]⟩ : ByteArray), .slice none 0 0] 26 (0, 0)) (by (with_reducible repeat (first | refine blk_drewN ?_ _ | refine blk_drew ?_ | refine blk_alloc ?_ _)); exact BK178.out)) : gb178 ≠ gb181)); have n11_ := Aside0.mk ((by rw [hg]; exact Nat.ne_of_gt (blk_lt (g := gb178) (o := .cells #[.int .u8 0, .bool false, .int .u64 0, .string (⟨#[]⟩ : ByteArray), .slice none 0 0] 26 (0, 0)) (by (with_reducible repeat (first | refine blk_drewN ?_ _ | refine blk_drew ?_ | refine blk_alloc ?_ _)); exact BK178.out)) : gb181 ≠ gb178)); have n12_ := Aside0.mk ((by rw [hg]; exact Nat.ne_of_lt (blk_lt (g := gb179) (o := .cells #[.int .u8 a0_0, .bool a0_1, .int .u64 a0_2, .string a0_3, u180004] 26 (0, 0)) (by (with_reducible repeat (first | refine blk_drewN ?_ _ | refine blk_drew ?_ | refine blk_alloc ?_ _)); exact BK179.out)) : gb179 ≠ gb181)); have n13_ := Aside0.mk ((by rw [hg]; exact Nat.ne_of_gt (blk_lt (g := gb179) (o := .cells #[.int .u8 a0_0, .bool a0_1, .int .u64 a0_2, .string a0_3, u180004] 26 (0, 0)) (by (with_reducible repeat (first | refine blk_drewN ?_ _ | refine blk_drew ?_ | refine blk_alloc ?_ _)); exact BK179.out)) : gb181 ≠ gb179)); clear HO_180004; clear BK177; clear BK178; clear BK179; clear HB; have HO_180004 := n0_; have BK177 := n1_; have BK178 := n2_; have BK179 := n3_; have HB := n4_; have BK181 := n5_; have GW181 := n6_; have GE181 := n7_; have NB177_181 := n8_; have NB181_177 := n9_; have NB178_181 := n10_; have NB181_178 := n11_; have NB179_181 := n12_; have NB181_179 := n13_; clear n0_ n1_ n2_ n3_ n4_ n5_ n6_ n7_ n8_ n9_ n10_ n11_ n12_ n13_; clear hb hbox hg; have hnb17 := NB181_177.out; have hnc17 := NB177_181.out; have hnb18 := NB181_178.out; have hnc18 := NB178_181.out; have hnb19 := NB181_179.out; have hnc19 := NB179_181.out; have hcz20_0 : w16.cell? ⟨gb181, 0, none⟩ = some (.int .u8 0) := (blk_cell BK181.out 0).trans rfl; have hcz20_1 : w16.cell? ⟨gb181, 1, none⟩ = some (.bool false) := (blk_cell BK181.out 1).trans rfl; have hcz20_2 : w16.cell? ⟨gb181, 2, none⟩ = some (.int .u64 0) := (blk_cell BK181.out 2).trans rfl; have hcz20_3 : w16.cell? ⟨gb181, 3, none⟩ = some (.string (⟨#[]⟩ : ByteArray)) := (blk_cell BK181.out 3).trans rfl; have hcz20_4 : w16.cell? ⟨gb181, 4, none⟩ = some (.slice none 0 0) := (blk_cell BK181.out 4).trans rfl; have hfz20_0 := blk_frozen BK181.out 0; have hfz20_1 := blk_frozen BK181.out 1; have hfz20_2 := blk_frozen BK181.out 2; have hfz20_3 := blk_frozen BK181.out 3; have hfz20_4 := blk_frozen BK181.out 4))
              have n0_ : Aside0 (Kd.R k26 26 (((((w16.setCell ⟨gb181, 0, none⟩ (.int .u8 ((rd_T31 l0_4 x18_1).f0))).setCell ⟨gb181, 1, none⟩ (.bool ((rd_T31 l0_4 x18_1).f1))).setCell ⟨gb181, 2, none⟩ (.int .u64 ((rd_T31 l0_4 x18_1).f2))).setCell ⟨gb181, 3, none⟩ (.string ((rd_T31 l0_4 x18_1).f3))).setCell ⟨gb181, 4, none⟩ (.slice A180_4 ((rd_T31 l0_4 x18_1).f4).length c180_4)) w.heap.size (fun k_ => k_ ≠ gb178 ∧ k_ ≠ gb179) u180004 x180004_1) := ⟨by (with_reducible repeat (first | apply Kd.R_alloc | apply Kd.R_drewN | apply Kd.R_drew)); exact Kd.R_mono (Kd.R_far (p := ⟨gb181, 4, none⟩) (Kd.R_far (p := ⟨gb181, 3, none⟩) (Kd.R_far (p := ⟨gb181, 2, none⟩) (Kd.R_far (p := ⟨gb181, 1, none⟩) (Kd.R_far (p := ⟨gb181, 0, none⟩) (Kd.R_types HO_180004.out BK181.out (by decide)) (fun _ hk => hk.2) (.int .u8 ((rd_T31 l0_4 x18_1).f0))) (fun _ hk => hk.2) (.bool ((rd_T31 l0_4 x18_1).f1))) (fun _ hk => hk.2) (.int .u64 ((rd_T31 l0_4 x18_1).f2))) (fun _ hk => hk.2) (.string ((rd_T31 l0_4 x18_1).f3))) (fun _ hk => hk.2) (.slice A180_4 ((rd_T31 l0_4 x18_1).f4).length c180_4)) (fun _ hk => ⟨hk.1.1, hk.1.2⟩)⟩
              have n1_ : Aside0 ((((((w16.setCell ⟨gb181, 0, none⟩ (.int .u8 ((rd_T31 l0_4 x18_1).f0))).setCell ⟨gb181, 1, none⟩ (.bool ((rd_T31 l0_4 x18_1).f1))).setCell ⟨gb181, 2, none⟩ (.int .u64 ((rd_T31 l0_4 x18_1).f2))).setCell ⟨gb181, 3, none⟩ (.string ((rd_T31 l0_4 x18_1).f3))).setCell ⟨gb181, 4, none⟩ (.slice A180_4 ((rd_T31 l0_4 x18_1).f4).length c180_4)).heap[gb177]? = some (.cells #[.int .u8 a0_0, .bool a0_1, .int .u64 a0_2, .string a0_3, .slice (some ad180) l0_4.length c0_4] 31 (0, 0))) := ⟨by (with_reducible repeat (first | refine blk_drewN ?_ _ | refine blk_drew ?_ | refine blk_alloc ?_ _)); refine blk_far ?_ NB177_181.out _; (with_reducible repeat (first | refine blk_drewN ?_ _ | refine blk_drew ?_ | refine blk_alloc ?_ _)); refine blk_far ?_ NB177_181.out _; (with_reducible repeat (first | refine blk_drewN ?_ _ | refine blk_drew ?_ | refine blk_alloc ?_ _)); refine blk_far ?_ NB177_181.out _; (with_reducible repeat (first | refine blk_drewN ?_ _ | refine blk_drew ?_ | refine blk_alloc ?_ _)); refine blk_far ?_ NB177_181.out _; (with_reducible repeat (first | refine blk_drewN ?_ _ | refine blk_drew ?_ | refine blk_alloc ?_ _)); refine blk_far ?_ NB177_181.out _; (with_reducible repeat (first | refine blk_drewN ?_ _ | refine blk_drew ?_ | refine blk_alloc ?_ _)); exact BK177.out⟩
              have n2_ : Aside0 ((((((w16.setCell ⟨gb181, 0, none⟩ (.int .u8 ((rd_T31 l0_4 x18_1).f0))).setCell ⟨gb181, 1, none⟩ (.bool ((rd_T31 l0_4 x18_1).f1))).setCell ⟨gb181, 2, none⟩ (.int .u64 ((rd_T31 l0_4 x18_1).f2))).setCell ⟨gb181, 3, none⟩ (.string ((rd_T31 l0_4 x18_1).f3))).setCell ⟨gb181, 4, none⟩ (.slice A180_4 ((rd_T31 l0_4 x18_1).f4).length c180_4)).heap[gb178]? = some (.cells #[.int .u8 0, .bool false, .int .u64 0, .string (⟨#[]⟩ : ByteArray), .slice none 0 0] 26 (0, 0))) := ⟨by (with_reducible repeat (first | refine blk_drewN ?_ _ | refine blk_drew ?_ | refine blk_alloc ?_ _)); refine blk_far ?_ NB178_181.out _; (with_reducible repeat (first | refine blk_drewN ?_ _ | refine blk_drew ?_ | refine blk_alloc ?_ _)); refine blk_far ?_ NB178_181.out _; (with_reducible repeat (first | refine blk_drewN ?_ _ | refine blk_drew ?_ | refine blk_alloc ?_ _)); refine blk_far ?_ NB178_181.out _; (with_reducible repeat (first | refine blk_drewN ?_ _ | refine blk_drew ?_ | refine blk_alloc ?_ _)); refine blk_far ?_ NB178_181.out _; (with_reducible repeat (first | refine blk_drewN ?_ _ | refine blk_drew ?_ | refine blk_alloc ?_ _)); refine blk_far ?_ NB178_181.out _; (with_reducible repeat (first | refine blk_drewN ?_ _ | refine blk_drew ?_ | refine blk_alloc ?_ _)); exact BK178.out⟩
              have n3_ : Aside0 ((((((w16.setCell ⟨gb181, 0, none⟩ (.int .u8 ((rd_T31 l0_4 x18_1).f0))).setCell ⟨gb181, 1, none⟩ (.bool ((rd_T31 l0_4 x18_1).f1))).setCell ⟨gb181, 2, none⟩ (.int .u64 ((rd_T31 l0_4 x18_1).f2))).setCell ⟨gb181, 3, none⟩ (.string ((rd_T31 l0_4 x18_1).f3))).setCell ⟨gb181, 4, none⟩ (.slice A180_4 ((rd_T31 l0_4 x18_1).f4).length c180_4)).heap[gb179]? = some (.cells #[.int .u8 a0_0, .bool a0_1, .int .u64 a0_2, .string a0_3, u180004] 26 (0, 0))) := ⟨by (with_reducible repeat (first | refine blk_drewN ?_ _ | refine blk_drew ?_ | refine blk_alloc ?_ _)); refine blk_far ?_ NB179_181.out _; (with_reducible repeat (first | refine blk_drewN ?_ _ | refine blk_drew ?_ | refine blk_alloc ?_ _)); refine blk_far ?_ NB179_181.out _; (with_reducible repeat (first | refine blk_drewN ?_ _ | refine blk_drew ?_ | refine blk_alloc ?_ _)); refine blk_far ?_ NB179_181.out _; (with_reducible repeat (first | refine blk_drewN ?_ _ | refine blk_drew ?_ | refine blk_alloc ?_ _)); refine blk_far ?_ NB179_181.out _; (with_reducible repeat (first | refine blk_drewN ?_ _ | refine blk_drew ?_ | refine blk_alloc ?_ _)); refine blk_far ?_ NB179_181.out _; (with_reducible repeat (first | refine blk_drewN ?_ _ | refine blk_drew ?_ | refine blk_alloc ?_ _)); exact BK179.out⟩
              have n4_ : Aside0 ((((((w16.setCell ⟨gb181, 0, none⟩ (.int .u8 ((rd_T31 l0_4 x18_1).f0))).setCell ⟨gb181, 1, none⟩ (.bool ((rd_T31 l0_4 x18_1).f1))).setCell ⟨gb181, 2, none⟩ (.int .u64 ((rd_T31 l0_4 x18_1).f2))).setCell ⟨gb181, 3, none⟩ (.string ((rd_T31 l0_4 x18_1).f3))).setCell ⟨gb181, 4, none⟩ (.slice A180_4 ((rd_T31 l0_4 x18_1).f4).length c180_4)).heap[gb181]? = some (.cells #[.int .u8 ((rd_T31 l0_4 x18_1).f0), .bool ((rd_T31 l0_4 x18_1).f1), .int .u64 ((rd_T31 l0_4 x18_1).f2), .string ((rd_T31 l0_4 x18_1).f3), .slice A180_4 ((rd_T31 l0_4 x18_1).f4).length c180_4] 31 (0, 0))) := ⟨by (with_reducible repeat (first | refine blk_drewN ?_ _ | refine blk_drew ?_ | refine blk_alloc ?_ _)); refine blk_put (cs := #[.int .u8 ((rd_T31 l0_4 x18_1).f0), .bool ((rd_T31 l0_4 x18_1).f1), .int .u64 ((rd_T31 l0_4 x18_1).f2), .string ((rd_T31 l0_4 x18_1).f3), .slice none 0 0]) ?_ 4 _ rfl; (with_reducible repeat (first | refine blk_drewN ?_ _ | refine blk_drew ?_ | refine blk_alloc ?_ _)); refine blk_put (cs := #[.int .u8 ((rd_T31 l0_4 x18_1).f0), .bool ((rd_T31 l0_4 x18_1).f1), .int .u64 ((rd_T31 l0_4 x18_1).f2), .string (⟨#[]⟩ : ByteArray), .slice none 0 0]) ?_ 3 _ rfl; (with_reducible repeat (first | refine blk_drewN ?_ _ | refine blk_drew ?_ | refine blk_alloc ?_ _)); refine blk_put (cs := #[.int .u8 ((rd_T31 l0_4 x18_1).f0), .bool ((rd_T31 l0_4 x18_1).f1), .int .u64 0, .string (⟨#[]⟩ : ByteArray), .slice none 0 0]) ?_ 2 _ rfl; (with_reducible repeat (first | refine blk_drewN ?_ _ | refine blk_drew ?_ | refine blk_alloc ?_ _)); refine blk_put (cs := #[.int .u8 ((rd_T31 l0_4 x18_1).f0), .bool false, .int .u64 0, .string (⟨#[]⟩ : ByteArray), .slice none 0 0]) ?_ 1 _ rfl; (with_reducible repeat (first | refine blk_drewN ?_ _ | refine blk_drew ?_ | refine blk_alloc ?_ _)); refine blk_put (cs := #[.int .u8 0, .bool false, .int .u64 0, .string (⟨#[]⟩ : ByteArray), .slice none 0 0]) ?_ 0 _ rfl; (with_reducible repeat (first | refine blk_drewN ?_ _ | refine blk_drew ?_ | refine blk_alloc ?_ _)); exact BK181.out⟩
              have n5_ : Aside0 (Below w.heap.size w (((((w16.setCell ⟨gb181, 0, none⟩ (.int .u8 ((rd_T31 l0_4 x18_1).f0))).setCell ⟨gb181, 1, none⟩ (.bool ((rd_T31 l0_4 x18_1).f1))).setCell ⟨gb181, 2, none⟩ (.int .u64 ((rd_T31 l0_4 x18_1).f2))).setCell ⟨gb181, 3, none⟩ (.string ((rd_T31 l0_4 x18_1).f3))).setCell ⟨gb181, 4, none⟩ (.slice A180_4 ((rd_T31 l0_4 x18_1).f4).length c180_4))) := ⟨by repeat (first | (with_reducible first | exact HB.out | apply below_alloc | apply pw_below_drewN | apply below_drew1 | refine below_set ?_ GE177.out | refine below_set ?_ GE178.out | refine below_set ?_ GE179.out | refine below_set ?_ GE181.out) | exact HB.out)⟩
              (try clear HO_180004)
              (try clear BK177)
              (try clear BK178)
              (try clear BK179)
              (try clear BK181)
              (try clear HB)
              generalize (((((w16.setCell ⟨gb181, 0, none⟩ (.int .u8 ((rd_T31 l0_4 x18_1).f0))).setCell ⟨gb181, 1, none⟩ (.bool ((rd_T31 l0_4 x18_1).f1))).setCell ⟨gb181, 2, none⟩ (.int .u64 ((rd_T31 l0_4 x18_1).f2))).setCell ⟨gb181, 3, none⟩ (.string ((rd_T31 l0_4 x18_1).f3))).setCell ⟨gb181, 4, none⟩ (.slice A180_4 ((rd_T31 l0_4 x18_1).f4).length c180_4)) = w21 at n0_ n1_ n2_ n3_ n4_ n5_ ⊢
              have HO_180004 := n0_
              have BK177 := n1_
              have BK178 := n2_
              have BK179 := n3_
              have BK181 := n4_
              have HB := n5_
              clear n0_ n1_ n2_ n3_ n4_ n5_
              have n0_ := Aside0.mk (Kd.R_drew HO_180004.out)
              have n1_ := Aside0.mk (blk_drew BK177.out)
              have n2_ := Aside0.mk (blk_drew BK178.out)
              have n3_ := Aside0.mk (blk_drew BK179.out)
              have n4_ := Aside0.mk (blk_drew BK181.out)
              have n5_ := Aside0.mk (below_drew1 HB.out)
              clear HO_180004
              clear BK177
              clear BK178
              clear BK179
              clear BK181
              clear HB
              have HO_180004 := n0_
              have BK177 := n1_
              have BK178 := n2_
              have BK179 := n3_
              have BK181 := n4_
              have HB := n5_
              clear n0_ n1_ n2_ n3_ n4_ n5_
              refine start_ (n := 8) (S := fun w' => w'.cell? ⟨gb179, 0, none⟩ = some (.int .u8 a0_0) ∧ w'.cell? ⟨gb179, 1, none⟩ = some (.bool a0_1) ∧ w'.cell? ⟨gb179, 2, none⟩ = some (.int .u64 a0_2) ∧ w'.cell? ⟨gb179, 3, none⟩ = some (.string a0_3) ∧ w'.cell? ⟨gb179, 4, none⟩ = some (u180004) ∧ w'.cell? ⟨gb181, 0, none⟩ = some (.int .u8 ((rd_T31 l0_4 x18_1).f0)) ∧ w'.cell? ⟨gb181, 1, none⟩ = some (.bool ((rd_T31 l0_4 x18_1).f1)) ∧ w'.cell? ⟨gb181, 2, none⟩ = some (.int .u64 ((rd_T31 l0_4 x18_1).f2)) ∧ w'.cell? ⟨gb181, 3, none⟩ = some (.string ((rd_T31 l0_4 x18_1).f3)) ∧ w'.cell? ⟨gb181, 4, none⟩ = some (.slice A180_4 ((rd_T31 l0_4 x18_1).f4).length c180_4)) (ds := [7]) #[false, false, false, false, false, false, false, false] (by kernel_rfl) rfl rfl ⟨(blk_cell BK179.out 0).trans rfl, (blk_cell BK179.out 1).trans rfl, (blk_cell BK179.out 2).trans rfl, (blk_cell BK179.out 3).trans rfl, (blk_cell BK179.out 4).trans rfl, (blk_cell BK181.out 0).trans rfl, (blk_cell BK181.out 1).trans rfl, (blk_cell BK181.out 2).trans rfl, (blk_cell BK181.out 3).trans rfl, (blk_cell BK181.out 4).trans rfl⟩ (fun hHeld => ?_); refine with_tabW laws_berOf.tab5 laws_berOf.bits5 (fun HT_ HW_ => ?_)
              generalize w21.drew = w22 at HO_180004 BK177 BK178 BK179 BK181 HB hHeld ⊢
              refine pure_ (i := 0) (N := some 22) (v := ?_) (a' := ?_) #[true, false, false, false, false, false, false, false] rfl rfl (any_of HT_.out (by kernel_rfl)) (fun _ _ _ h => h) (Or.inl ⟨by rfl, ?_⟩) ?_ ?_
              rotate_left
              · intro w'
                go_simp
                with_reducible rfl
              rotate_left
              · simp only [Act.put, List.setIfInBounds_toArray, List.set_cons_zero, List.set_cons_succ, i64_w, i32_w]
                rfl
              refine take_ (i := 1) (N := some 23) (v := ?_) (a' := ?_) #[true, true, false, false, false, false, false, false] rfl rfl (take_ofW HT_.out HW_.out (by kernel_rfl)) (fun _ _ _ h => h) (Or.inl ⟨by rfl, ?_⟩) hHeld ?_ ?_
              rotate_left
              · rintro w' ⟨s0, s1, s2, s3, s4, s5, s6, s7, s8, s9⟩
                go_simp
                with_reducible rfl
              rotate_left
              · simp only [Act.put, List.setIfInBounds_toArray, List.set_cons_zero, List.set_cons_succ, i64_w, i32_w]
                rfl
              refine take_ (i := 2) (N := some 24) (v := ?_) (a' := ?_) #[true, true, true, false, false, false, false, false] rfl rfl (take_ofW HT_.out HW_.out (by kernel_rfl)) (fun _ _ _ h => h) (Or.inl ⟨by rfl, ?_⟩) hHeld ?_ ?_
              rotate_left
              · rintro w' ⟨s0, s1, s2, s3, s4, s5, s6, s7, s8, s9⟩
                go_simp
                with_reducible rfl
              rotate_left
              · simp only [Act.put, List.setIfInBounds_toArray, List.set_cons_zero, List.set_cons_succ, i64_w, i32_w]
                rfl
              refine one_ (i := 3) (N := some 25) #[true, true, true, true, false, false, false, false] rfl rfl (one_of HT_.out (by kernel_rfl)) (by decide) (fun K hK => ?_)
              refine goes_ Tryd.func11 (by kernel_rfl) rfl #[.agg #[.int .u8 ((rd_T31 l0_4 x18_1).f0), .bool ((rd_T31 l0_4 x18_1).f1), .int .u64 ((rd_T31 l0_4 x18_1).f2), .string ((rd_T31 l0_4 x18_1).f3), .slice A180_4 ((rd_T31 l0_4 x18_1).f4).length c180_4]] (by rfl) rfl rfl (by (try simp only [List.map_toArray, List.map_cons, List.map_nil]); first | done | rfl | (simp only [List.length_drop, List.length_take]; rfl)) ?_
              with_reducible refine (ih k1 (by have := HK1.out; omega) ((rd_T31 l0_4 x18_1).f0) ((rd_T31 l0_4 x18_1).f1) ((rd_T31 l0_4 x18_1).f2) ((rd_T31 l0_4 x18_1).f3) _ _ ((rd_T31 l0_4 x18_1).f4) t182 t183 t184 t185 t186 _ ?side1 ?side2 A14.out).mono ?_
              (case side1 => repeat (first | exact (Kd.C_below HR180_4.out HB.out) | (with_reducible refine Kd.C_alloc ?_ _) | (with_reducible refine Kd.C_drewN ?_ _) | (with_reducible refine Kd.C_drew ?_)))
              (case side2 => exact HC180_4.out)
              rintro e w23 ⟨v187, rfl, ho0, hb⟩
              refine ⟨_, rfl, ?_⟩
              have n0_ := Aside0.mk (Kd.R_elder' (by (with_reducible repeat (first | apply Kd.R_alloc | apply Kd.R_drewN | apply Kd.R_drew)); exact HO_180004.out) (Kd.R_base ho0) hb)
              have n1_ := Aside0.mk (Kd.R_lower (Kd.R_newB (Kd.R_newB (Kd.R_new' ho0 (Kd.R_lt (by (with_reducible repeat (first | apply Kd.R_alloc | apply Kd.R_drewN | apply Kd.R_drew)); exact HO_180004.out))) (g := gb178) (o := .cells #[.int .u8 0, .bool false, .int .u64 0, .string (⟨#[]⟩ : ByteArray), .slice none 0 0] 26 (0, 0)) (by (with_reducible repeat (first | refine blk_drewN ?_ _ | refine blk_drew ?_ | refine blk_alloc ?_ _)); exact BK178.out)) (g := gb179) (o := .cells #[.int .u8 a0_0, .bool a0_1, .int .u64 a0_2, .string a0_3, u180004] 26 (0, 0)) (by (with_reducible repeat (first | refine blk_drewN ?_ _ | refine blk_drew ?_ | refine blk_alloc ?_ _)); exact BK179.out)) (below_size (by repeat (first | (with_reducible first | exact HB.out | apply below_alloc | apply pw_below_drewN | apply below_drew1 | refine below_set ?_ GE177.out | refine below_set ?_ GE178.out | refine below_set ?_ GE179.out | refine below_set ?_ GE181.out) | exact HB.out))))
              have n2_ := Aside0.mk (blk_below (g := gb177) (o := .cells #[.int .u8 a0_0, .bool a0_1, .int .u64 a0_2, .string a0_3, .slice (some ad180) l0_4.length c0_4] 31 (0, 0)) (by (with_reducible repeat (first | refine blk_drewN ?_ _ | refine blk_drew ?_ | refine blk_alloc ?_ _)); exact BK177.out) hb)
              have n3_ := Aside0.mk (blk_below (g := gb178) (o := .cells #[.int .u8 0, .bool false, .int .u64 0, .string (⟨#[]⟩ : ByteArray), .slice none 0 0] 26 (0, 0)) (by (with_reducible repeat (first | refine blk_drewN ?_ _ | refine blk_drew ?_ | refine blk_alloc ?_ _)); exact BK178.out) hb)
              have n4_ := Aside0.mk (blk_below (g := gb179) (o := .cells #[.int .u8 a0_0, .bool a0_1, .int .u64 a0_2, .string a0_3, u180004] 26 (0, 0)) (by (with_reducible repeat (first | refine blk_drewN ?_ _ | refine blk_drew ?_ | refine blk_alloc ?_ _)); exact BK179.out) hb)
              have n5_ := Aside0.mk (blk_below (g := gb181) (o := .cells #[.int .u8 ((rd_T31 l0_4 x18_1).f0), .bool ((rd_T31 l0_4 x18_1).f1), .int .u64 ((rd_T31 l0_4 x18_1).f2), .string ((rd_T31 l0_4 x18_1).f3), .slice A180_4 ((rd_T31 l0_4 x18_1).f4).length c180_4] 31 (0, 0)) (by (with_reducible repeat (first | refine blk_drewN ?_ _ | refine blk_drew ?_ | refine blk_alloc ?_ _)); exact BK181.out) hb)
              have n6_ := Aside0.mk (below_step (by repeat (first | (with_reducible first | exact HB.out | apply below_alloc | apply pw_below_drewN | apply below_drew1 | refine below_set ?_ GE177.out | refine below_set ?_ GE178.out | refine below_set ?_ GE179.out | refine below_set ?_ GE181.out) | exact HB.out)) hb)
              clear HO_180004
              clear BK177
              clear BK178
              clear BK179
              clear BK181
              clear HB
              have HO_180004 := n0_
              have HO188 := n1_
              have BK177 := n2_
              have BK178 := n3_
              have BK179 := n4_
              have BK181 := n5_
              have HB := n6_
              clear n0_ n1_ n2_ n3_ n4_ n5_ n6_
              (try clear hb)
              (try clear hb2)
              (try clear hk)
              (try clear hi)
              (try clear ho0)
              obtain ⟨Ao25, co25, eo25⟩ := Kd.R_slice HO188.out
              (first | subst eo25 | (injection eo25 with f1_ f2_ f3_; have f4_ := f1_.symm; have f5_ := f3_.symm; clear f1_ f2_ f3_; subst f4_; subst f5_))
              refine hK.out _ _ ⟨(blk_cell BK179.out 0).trans rfl, (blk_cell BK179.out 1).trans rfl, (blk_cell BK179.out 2).trans rfl, (blk_cell BK179.out 3).trans rfl, (blk_cell BK179.out 4).trans rfl, (blk_cell BK181.out 0).trans rfl, (blk_cell BK181.out 1).trans rfl, (blk_cell BK181.out 2).trans rfl, (blk_cell BK181.out 3).trans rfl, (blk_cell BK181.out 4).trans rfl⟩ (fun hHeld => ?_)
              clear hK K
              refine norm_ (a' := ?_) ?_ ?_
              rotate_left
              · show Act.put _ (some 25) _ = _
                simp only [Act.put, List.setIfInBounds_toArray, List.set_cons_zero, List.set_cons_succ, i64_w, i32_w]
                rfl
              refine one_ (i := 4) (N := some 26) #[true, true, true, true, true, false, false, false] rfl rfl (one_of HT_.out (by kernel_rfl)) (by decide) (fun K hK => ?_)
              refine value_ (w1 := ?_) (v := ?_) (by rfl) rfl ?_ ?_
              rotate_left 2
              · go_simp
                constructor
                · rfl
                · rfl
              refine hK.out _ _ ⟨(blk_cell (blk_alloc BK179.out _) 0).trans rfl, (blk_cell (blk_alloc BK179.out _) 1).trans rfl, (blk_cell (blk_alloc BK179.out _) 2).trans rfl, (blk_cell (blk_alloc BK179.out _) 3).trans rfl, (blk_cell (blk_alloc BK179.out _) 4).trans rfl, (blk_cell (blk_alloc BK181.out _) 0).trans rfl, (blk_cell (blk_alloc BK181.out _) 1).trans rfl, (blk_cell (blk_alloc BK181.out _) 2).trans rfl, (blk_cell (blk_alloc BK181.out _) 3).trans rfl, (blk_cell (blk_alloc BK181.out _) 4).trans rfl⟩ (fun hHeld => ?_)
              clear hK K
              refine norm_ (a' := ?_) ?_ ?_
              rotate_left
              · show Act.put _ (some 26) _ = _
                simp only [Act.put, List.setIfInBounds_toArray, List.set_cons_zero, List.set_cons_succ, i64_w, i32_w]
                rfl
              refine one_ (i := 5) (N := some 27) #[true, true, true, true, true, true, false, false] rfl rfl (one_of HT_.out (by kernel_rfl)) (by decide) (fun K hK => ?_)
              refine Kd.R_append_step k26 (w0 := w) w.heap.size (by rfl) (.tmp 23) (.tmp 26) 24 26 (.agg #[(.int .u8 0), (.bool false), (.int .u64 0), (.string ⟨#[]⟩), (.slice none 0 0)]) 56 rfl Tryd.underlying24 info26 rfl (by decide) (by omega) u180004 x180004_1 (⟨t182, t183, t184, t185, t186⟩ : S26) [.int .u8 t182, .bool t183, .int .u64 t184, .string t185, .slice Ao25 t186.length co25] (fun k_ => k_ ≠ gb178 ∧ k_ ≠ gb179) (fun k_ => ((fun k_ => k_ ≠ gb178 ∧ k_ ≠ gb179)) k_ ∧ some k_ ≠ (u180004 : Value).ownBlock) rfl rfl ?aP (fun _ hk => hk) ?aF ?aO ?aB ?aS ?aL ?_
              (case aP => exact k26_mkM _ _ _ (⟨t182, t183, t184, t185, t186⟩ : S26) (Kd.R_mono (HO188.out) (fun k_ hk => ⟨⟨hk.1.2, hk.2⟩, hk.1.1.2⟩)))
              (case aB => exact (by repeat (first | (with_reducible first | exact HB.out | apply below_alloc | apply pw_below_drewN | apply below_drew1 | refine below_set ?_ GE177.out | refine below_set ?_ GE178.out | refine below_set ?_ GE179.out | refine below_set ?_ GE181.out) | exact HB.out)))
              (case aF => exact (fun k_ hk => ⟨Kd.freshB (g := gb178) (o := .cells #[.int .u8 0, .bool false, .int .u64 0, .string (⟨#[]⟩ : ByteArray), .slice none 0 0] 26 (0, 0)) (by (with_reducible repeat (first | refine blk_drewN ?_ _ | refine blk_drew ?_ | refine blk_alloc ?_ _)); exact BK178.out) k_ hk, Kd.freshB (g := gb179) (o := .cells #[.int .u8 a0_0, .bool a0_1, .int .u64 a0_2, .string a0_3, u180004] 26 (0, 0)) (by (with_reducible repeat (first | refine blk_drewN ?_ _ | refine blk_drew ?_ | refine blk_alloc ?_ _)); exact BK179.out) k_ hk⟩))
              (case aO => exact (by (with_reducible repeat (first | apply Kd.R_alloc | apply Kd.R_drewN | apply Kd.R_drew)); exact Kd.R_mono HO_180004.out (fun _ hk => ⟨hk.1.1, hk.1.2⟩)))
              (case aS => exact (below_size (by repeat (first | (with_reducible first | exact HB.out | apply below_alloc | apply pw_below_drewN | apply below_drew1 | refine below_set ?_ GE177.out | refine below_set ?_ GE178.out | refine below_set ?_ GE179.out | refine below_set ?_ GE181.out) | exact HB.out))))
              (case aL => have := LMc15.out; omega)
              intro v190 w24 ho hb hg hat
              rw [← Ny189.out] at ho
              have n0_ := Aside0.mk (blk_grown (g := gb177) (o := .cells #[.int .u8 a0_0, .bool a0_1, .int .u64 a0_2, .string a0_3, .slice (some ad180) l0_4.length c0_4] 31 (0, 0)) (by (with_reducible repeat (first | refine blk_drewN ?_ _ | refine blk_drew ?_ | refine blk_alloc ?_ _)); exact BK177.out) hg (Kd.R_ne HO_180004.out BK177.out (by decide)))
              have n1_ := Aside0.mk (blk_grown (g := gb178) (o := .cells #[.int .u8 0, .bool false, .int .u64 0, .string (⟨#[]⟩ : ByteArray), .slice none 0 0] 26 (0, 0)) (by (with_reducible repeat (first | refine blk_drewN ?_ _ | refine blk_drew ?_ | refine blk_alloc ?_ _)); exact BK178.out) hg (Kd.R_away HO_180004.out (fun _ hk => hk.1.1)))
              have n2_ := Aside0.mk (blk_grown (g := gb179) (o := .cells #[.int .u8 a0_0, .bool a0_1, .int .u64 a0_2, .string a0_3, u180004] 26 (0, 0)) (by (with_reducible repeat (first | refine blk_drewN ?_ _ | refine blk_drew ?_ | refine blk_alloc ?_ _)); exact BK179.out) hg (Kd.R_away HO_180004.out (fun _ hk => hk.1.2)))
              have n3_ := Aside0.mk (blk_grown (g := gb181) (o := .cells #[.int .u8 ((rd_T31 l0_4 x18_1).f0), .bool ((rd_T31 l0_4 x18_1).f1), .int .u64 ((rd_T31 l0_4 x18_1).f2), .string ((rd_T31 l0_4 x18_1).f3), .slice A180_4 ((rd_T31 l0_4 x18_1).f4).length c180_4] 31 (0, 0)) (by (with_reducible repeat (first | refine blk_drewN ?_ _ | refine blk_drew ?_ | refine blk_alloc ?_ _)); exact BK181.out) hg (Kd.R_ne HO_180004.out BK181.out (by decide)))
              have n4_ := Aside0.mk (hb)
              have n5_ := Aside0.mk (ho)
              clear BK177
              clear BK178
              clear BK179
              clear BK181
              clear HB
              clear HO_180004
              clear HO188
              have BK177 := n0_
              have BK178 := n1_
              have BK179 := n2_
              have BK181 := n3_
              have HB := n4_
              have HO191 := n5_
              clear n0_ n1_ n2_ n3_ n4_ n5_
              clear ho hb hg hat
              obtain ⟨Ao26, co26, eo26⟩ := Kd.R_slice HO191.out
              (first | subst eo26 | (injection eo26 with f1_ f2_ f3_; have f4_ := f1_.symm; have f5_ := f3_.symm; clear f1_ f2_ f3_; subst f4_; subst f5_))
              refine hK.out _ _ ⟨(blk_cell BK179.out 0).trans rfl, (blk_cell BK179.out 1).trans rfl, (blk_cell BK179.out 2).trans rfl, (blk_cell BK179.out 3).trans rfl, (blk_cell BK179.out 4).trans rfl, (blk_cell BK181.out 0).trans rfl, (blk_cell BK181.out 1).trans rfl, (blk_cell BK181.out 2).trans rfl, (blk_cell BK181.out 3).trans rfl, (blk_cell BK181.out 4).trans rfl⟩ (fun hHeld => ?_)
              clear hK K
              refine norm_ (a' := ?_) ?_ ?_
              rotate_left
              · show Act.put _ (some 27) _ = _
                simp only [Act.put, List.setIfInBounds_toArray, List.set_cons_zero, List.set_cons_succ, i64_w, i32_w]
                rfl
              refine pure_ (i := 6) (N := some 28) (v := ?_) (a' := ?_) #[true, true, true, true, true, true, true, false] rfl rfl (any_of HT_.out (by kernel_rfl)) (fun _ _ _ h => h) (Or.inl ⟨by rfl, ?_⟩) ?_ ?_
              rotate_left
              · intro w'
                go_simp
                with_reducible rfl
              rotate_left
              · simp only [Act.put, List.setIfInBounds_toArray, List.set_cons_zero, List.set_cons_succ, i64_w, i32_w]
                rfl
              refine last_ (i := 7) (N := none) #[true, true, true, true, true, true, true, true] rfl rfl (one_of HT_.out (by kernel_rfl)) (by decide) (fun K hK => ?_)
              have hs27 : w24.cell? ⟨gb179, 4, none⟩ = some (u180004) := (blk_cell BK179.out 4).trans rfl
              have hfs27 := blk_frozen BK179.out 4
              have hns27_0 := NB177_179.out
              have hns27_1 := NB178_179.out
              have hns27_3 := NB181_179.out
              have hms27_0 := NB179_177.out
              have hms27_1 := NB179_178.out
              have hms27_3 := NB179_181.out
              refine skip_ (w1 := ?_) (by rfl) rfl ?_ ?_
              rotate_left
              · go_simp
                rfl
              refine hK.out _ _ ?_
              clear hK K
              refine done_ (done_of HT_.out (by kernel_rfl)) ?_
              try go_wp2
              go_roundg k1
              case measure => have := HK1.out; omega
              case rel => exact ⟨(wrap64 (x18_1 + 1)), (y189), (.slice Ao26 y189.length co26), (by first | rfl | (simp; done) | (simp [*]; done)), H', ⟨by have := HK1.out; omega⟩, ⟨by (with_reducible repeat (first | apply Kd.R_alloc | apply Kd.R_drewN | apply Kd.R_drew)); exact Kd.R_mono (Kd.R_far (p := ⟨gb179, 4, none⟩) (Kd.R_mono HO191.out (fun k_ hk => (⟨hk, hk.2⟩ : _ ∧ k_ ≠ gb179))) (fun _ hk => hk.2) (.slice Ao26 y189.length co26)) (fun _ hk => ⟨hk.1.1, hk.1.2⟩)⟩, ⟨by (with_reducible repeat (first | refine blk_drewN ?_ _ | refine blk_drew ?_ | refine blk_alloc ?_ _)); refine blk_far ?_ NB177_179.out _; (with_reducible repeat (first | refine blk_drewN ?_ _ | refine blk_drew ?_ | refine blk_alloc ?_ _)); exact BK177.out⟩, ⟨by (with_reducible repeat (first | refine blk_drewN ?_ _ | refine blk_drew ?_ | refine blk_alloc ?_ _)); refine blk_far ?_ NB178_179.out _; (with_reducible repeat (first | refine blk_drewN ?_ _ | refine blk_drew ?_ | refine blk_alloc ?_ _)); exact BK178.out⟩, ⟨by (with_reducible repeat (first | refine blk_drewN ?_ _ | refine blk_drew ?_ | refine blk_alloc ?_ _)); refine blk_put (cs := #[.int .u8 a0_0, .bool a0_1, .int .u64 a0_2, .string a0_3, u180004]) ?_ 4 _ rfl; (with_reducible repeat (first | refine blk_drewN ?_ _ | refine blk_drew ?_ | refine blk_alloc ?_ _)); exact BK179.out⟩, ⟨by repeat (first | (with_reducible first | exact HB.out | apply below_alloc | apply pw_below_drewN | apply below_drew1 | refine below_set ?_ GE177.out | refine below_set ?_ GE178.out | refine below_set ?_ GE179.out | refine below_set ?_ GE181.out) | exact HB.out)⟩⟩
            · rw [if_neg c15] at H
              exact absurd H (by simp)
          · rw [if_neg c13] at H
            exact absurd H (by simp)
        · rw [if_neg c12] at H
          exact absurd H (by simp)
      · rw [if_neg c11] at H
        have c11b0 : decide (x18_1 < (l0_4.length : Int)) = false := decide_eq_false c11
        clear c11
        simp only [Option.some.injEq, Prod.mk.injEq] at H
        obtain ⟨rfl, rfl, rfl, rfl, rfl⟩ := H
        have hnb28 := NB179_177.out
        have hnc28 := NB177_179.out
        have hnb29 := NB179_178.out
        have hnc29 := NB178_179.out
        have hcz30_0 : wr.cell? ⟨gb179, 0, none⟩ = some (.int .u8 a0_0) := (blk_cell BK179.out 0).trans rfl
        have hcz30_1 : wr.cell? ⟨gb179, 1, none⟩ = some (.bool a0_1) := (blk_cell BK179.out 1).trans rfl
        have hcz30_2 : wr.cell? ⟨gb179, 2, none⟩ = some (.int .u64 a0_2) := (blk_cell BK179.out 2).trans rfl
        have hcz30_3 : wr.cell? ⟨gb179, 3, none⟩ = some (.string a0_3) := (blk_cell BK179.out 3).trans rfl
        have hcz30_4 : wr.cell? ⟨gb179, 4, none⟩ = some (u180004) := (blk_cell BK179.out 4).trans rfl
        have hfz30_0 := blk_frozen BK179.out 0
        have hfz30_1 := blk_frozen BK179.out 1
        have hfz30_2 := blk_frozen BK179.out 2
        have hfz30_3 := blk_frozen BK179.out 3
        have hfz30_4 := blk_frozen BK179.out 4
        have hnb31 := NB178_177.out
        have hnc31 := NB177_178.out
        have hcz32_0 : wr.cell? ⟨gb178, 0, none⟩ = some (.int .u8 0) := (blk_cell BK178.out 0).trans rfl
        have hcz32_1 : wr.cell? ⟨gb178, 1, none⟩ = some (.bool false) := (blk_cell BK178.out 1).trans rfl
        have hcz32_2 : wr.cell? ⟨gb178, 2, none⟩ = some (.int .u64 0) := (blk_cell BK178.out 2).trans rfl
        have hcz32_3 : wr.cell? ⟨gb178, 3, none⟩ = some (.string (⟨#[]⟩ : ByteArray)) := (blk_cell BK178.out 3).trans rfl
        have hcz32_4 : wr.cell? ⟨gb178, 4, none⟩ = some (.slice none 0 0) := (blk_cell BK178.out 4).trans rfl
        have hfz32_0 := blk_frozen BK178.out 0
        have hfz32_1 := blk_frozen BK178.out 1
        have hfz32_2 := blk_frozen BK178.out 2
        have hfz32_3 := blk_frozen BK178.out 3
        have hfz32_4 := blk_frozen BK178.out 4
        obtain ⟨Ao33, co33, eo33⟩ := Kd.R_slice HO_180004.out
        subst eo33
        go_wp2
        refine bodyPost_ret (results_cell_row rfl _ _ gb178 26 #[.int .u8 a0_0, .bool a0_1, .int .u64 a0_2, .string a0_3, .slice Ao33 x180004_1.length co33] (0, 0) _ rfl (by (with_reducible repeat (first | refine blk_drewN ?_ _ | refine blk_drew ?_ | refine blk_alloc ?_ _)); refine blk_put (cs := #[.int .u8 a0_0, .bool a0_1, .int .u64 a0_2, .string a0_3, .slice none 0 0]) ?_ 4 _ rfl; (with_reducible repeat (first | refine blk_drewN ?_ _ | refine blk_drew ?_ | refine blk_alloc ?_ _)); refine blk_put (cs := #[.int .u8 a0_0, .bool a0_1, .int .u64 a0_2, .string (⟨#[]⟩ : ByteArray), .slice none 0 0]) ?_ 3 _ rfl; (with_reducible repeat (first | refine blk_drewN ?_ _ | refine blk_drew ?_ | refine blk_alloc ?_ _)); refine blk_put (cs := #[.int .u8 a0_0, .bool a0_1, .int .u64 0, .string (⟨#[]⟩ : ByteArray), .slice none 0 0]) ?_ 2 _ rfl; (with_reducible repeat (first | refine blk_drewN ?_ _ | refine blk_drew ?_ | refine blk_alloc ?_ _)); refine blk_put (cs := #[.int .u8 a0_0, .bool false, .int .u64 0, .string (⟨#[]⟩ : ByteArray), .slice none 0 0]) ?_ 1 _ rfl; (with_reducible repeat (first | refine blk_drewN ?_ _ | refine blk_drew ?_ | refine blk_alloc ?_ _)); refine blk_put (cs := #[.int .u8 0, .bool false, .int .u64 0, .string (⟨#[]⟩ : ByteArray), .slice none 0 0]) ?_ 0 _ rfl; (with_reducible repeat (first | refine blk_drewN ?_ _ | refine blk_drew ?_ | refine blk_alloc ?_ _)); exact BK178.out) Tryd.underlying26 rfl (by kernel_rfl)) rfl ?_
        exact ⟨_, by first | rfl | (simp [errW_none, errW_some] <;> rfl) | (simp [*, errW_none, errW_some] <;> rfl), by (with_reducible repeat (first | apply Kd.R_alloc | apply Kd.R_drewN | apply Kd.R_drew)); exact Kd.R_mono (Kd.R_far (p := ⟨gb178, 4, none⟩) (Kd.R_far (p := ⟨gb178, 3, none⟩) (Kd.R_far (p := ⟨gb178, 2, none⟩) (Kd.R_far (p := ⟨gb178, 1, none⟩) (Kd.R_far (p := ⟨gb178, 0, none⟩) (Kd.R_mono HO_180004.out (fun k_ hk => (⟨hk, hk.1⟩ : _ ∧ k_ ≠ gb178))) (fun _ hk => hk.2) (.int .u8 a0_0)) (fun _ hk => hk.2) (.bool a0_1)) (fun _ hk => hk.2) (.int .u64 a0_2)) (fun _ hk => hk.2) (.string a0_3)) (fun _ hk => hk.2) (.slice Ao33 x180004_1.length co33)) (fun _ hk => trivial), by repeat (first | (with_reducible first | exact HB.out | apply below_alloc | apply pw_below_drewN | apply below_drew1 | refine below_set ?_ GE177.out | refine below_set ?_ GE178.out | refine below_set ?_ GE179.out) | exact HB.out)⟩

/-! ### spec_berCount: function 26 -/
mutual
def spec_berCount.l0 : Nat → Int → Int → Int → Int → Bool → Int → ByteArray → List (S26) → Option (Int)
  | 0, _, _, _, _, _, _, _, _ => none
  | k + 1, x1, x5, x6, x193000, x193001, x193002, x193003, x193004 => if x6 < (x193004.length : Int) then (if x5 ≤ x1 then (if 0 ≤ x6 then ((spec_berCount.f k ((rd_T26 x193004 x6).f0) ((rd_T26 x193004 x6).f1) ((rd_T26 x193004 x6).f2) ((rd_T26 x193004 x6).f3) ((rd_T26 x193004 x6).f4) (wrap64 (x1 - x5))).bind fun t194 => (spec_berCount.l0 k x1 (wrap64 (x5 + t194)) (wrap64 (x6 + 1)) x193000 x193001 x193002 x193003 x193004)) else (none)) else (some x5)) else (some x5)
def spec_berCount.f : Nat → Int → Bool → Int → ByteArray → List (S26) → Int → Option (Int)
  | 0, _, _, _, _, _, _ => none
  | k + 1, a0_0, a0_1, a0_2, a0_3, l0_4, a1 => spec_berCount.l0 k a1 1 0 a0_0 a0_1 a0_2 a0_3 l0_4
end
theorem spec_berCount.mono_l : ∀ k, (∀ y0 y1 y2 y3 y4 y5, LeO (spec_berCount.f k y0 y1 y2 y3 y4 y5) (spec_berCount.f (k + 1) y0 y1 y2 y3 y4 y5)) ∧ (∀ y0 y1 y2 y3 y4 y5 y6 y7, LeO (spec_berCount.l0 k y0 y1 y2 y3 y4 y5 y6 y7) (spec_berCount.l0 (k + 1) y0 y1 y2 y3 y4 y5 y6 y7))
  | 0 => ⟨fun _ _ _ _ _ _ r h => by simp [spec_berCount.f] at h, fun _ _ _ _ _ _ _ _ r h => by simp [spec_berCount.l0] at h⟩
  | k + 1 => by
    obtain ⟨ih0, ih1⟩ := spec_berCount.mono_l k
    refine ⟨?_, ?_⟩
    · intro y0 y1 y2 y3 y4 y5
      unfold spec_berCount.f
      repeat' first
      | (with_reducible exact ih0 _ _ _ _ _ _)
      | (with_reducible exact ih1 _ _ _ _ _ _ _ _)
      | (with_reducible exact LeO.refl _)
      | (with_reducible exact LeO.none _)
      | (with_reducible refine LeO.ite ?_ ?_)
      | (with_reducible refine LeO.bind ?_ (fun _ => ?_))
      | exact ih0 _ _ _ _ _ _
      | exact ih1 _ _ _ _ _ _ _ _
      | exact LeO.none _
      | refine LeO.ite ?_ ?_
      | refine LeO.bind ?_ (fun _ => ?_)
    · intro y0 y1 y2 y3 y4 y5 y6 y7
      unfold spec_berCount.l0
      repeat' first
      | (with_reducible exact ih0 _ _ _ _ _ _)
      | (with_reducible exact ih1 _ _ _ _ _ _ _ _)
      | (with_reducible exact LeO.refl _)
      | (with_reducible exact LeO.none _)
      | (with_reducible refine LeO.ite ?_ ?_)
      | (with_reducible refine LeO.bind ?_ (fun _ => ?_))
      | exact ih0 _ _ _ _ _ _
      | exact ih1 _ _ _ _ _ _ _ _
      | exact LeO.none _
      | refine LeO.ite ?_ ?_
      | refine LeO.bind ?_ (fun _ => ?_)
theorem spec_berCount.mono : ∀ a0 a1 a2 a3 a4 a5 k, LeO (spec_berCount.f k a0 a1 a2 a3 a4 a5) (spec_berCount.f (k + 1) a0 a1 a2 a3 a4 a5) := by
  intro a0 a1 a2 a3 a4 a5 k
  obtain ⟨ih0, ih1⟩ := spec_berCount.mono_l k
  exact ih0 a0 a1 a2 a3 a4 a5
set_option maxHeartbeats 8000000 in
set_option maxRecDepth 100000 in
theorem spec_berCount.calls (k : Nat) : ∀ (a0_0 : Int) (a0_1 : Bool) (a0_2 : Int) (a0_3 : ByteArray) (A0_4 : Option Addr) (c0_4 : Nat) (l0_4 : List (S26)) (a1 : Int) (r : Int) (w : World) (hr0_4 : Kd.C k26 w A0_4 l0_4.length l0_4) (hc0_4 : l0_4.length ≤ c0_4) (h : spec_berCount.f k a0_0 a0_1 a0_2 a0_3 l0_4 a1 = some r),
    Calls Tryd.prog 26 #[.agg #[.int .u8 a0_0, .bool a0_1, .int .u64 a0_2, .string a0_3, .slice A0_4 l0_4.length c0_4], .int .i64 a1] w fun e w' => e = .returned (.int .i64 r) ∧ Below w.heap.size w w' := by
  induction k using Nat.strongRecOn with
  | _ k ih =>
  intro a0_0 a0_1 a0_2 a0_3 A0_4 c0_4 l0_4 a1 r w hr0_4 hc0_4 h
  cases k with
  | zero => exact absurd h (by simp [spec_berCount.f])
  | succ k =>
  simp only [spec_berCount.f] at h
  have hu26 := Tryd.underlying26
  have HR0_4 := Aside0.mk hr0_4
  have HC0_4 := Aside0.mk hc0_4
  clear hr0_4 hc0_4
  have HB := Aside0.mk (Below.refl w.heap.size w)
  have H : (spec_berCount.l0 k a1 1 0 a0_0 a0_1 a0_2 a0_3 l0_4) = some r := h
  clear h
  have H' := Aside0.mk H
  clear H
  go_enter Tryd.func26, Tryd.ntmps26
  go_wp2_with (first | ((with_reducible refine gate_dst (N := 2) rfl ?_); refine box_event ?hg (N := 2) ?hd (cs := #[.int .u8 a0_0, .bool a0_1, .int .u64 a0_2, .string a0_3, .slice A0_4 l0_4.length c0_4]) (t := 26) ?hr ?_; (case hd => rfl); (case hg => rfl); (case hr => first | (go_simp; done) | (go_simp; rfl)); intro gb192 hg w3 hbox hb; have n0_ := Aside0.mk (below_step (by repeat (first | (with_reducible first | exact HB.out | apply below_alloc | apply pw_below_drewN | apply below_drew1) | exact HB.out)) hb); have n1_ := Aside0.mk (hbox); have n2_ := Aside0.mk ((by rw [hg]; exact (below_size (by repeat (first | (with_reducible first | exact HB.out | apply below_alloc | apply pw_below_drewN | apply below_drew1) | exact HB.out))) : w.heap.size ≤ gb192)); have n3_ := Aside0.mk ((by rw [hg]; exact (below_size (by repeat (first | (with_reducible first | exact HB.out | apply below_alloc | apply pw_below_drewN | apply below_drew1) | exact HB.out))) : w.heap.size ≤ gb192)); clear HB; have HB := n0_; have BK192 := n1_; have GW192 := n2_; have GE192 := n3_; clear n0_ n1_ n2_ n3_; clear hb hbox hg))
  go_loopg [5, 6] k (fun kq v5 v6 w' => ∃ (x5_1 : Int) (x6_1 : Int), v5 = .int .i64 x5_1 ∧ v6 = .int .i64 x6_1 ∧ Aside0 (spec_berCount.l0 kq a1 x5_1 x6_1 a0_0 a0_1 a0_2 a0_3 l0_4 = some r) ∧ Aside0 (kq ≤ k) ∧ Aside0 (w'.heap[gb192]? = some (.cells #[.int .u8 a0_0, .bool a0_1, .int .u64 a0_2, .string a0_3, (.slice A0_4 l0_4.length c0_4)] 26 (0, 0))) ∧ Aside0 (Below w.heap.size w w'))
  case atStart => exact ⟨(1), (0), (by first | rfl | (simp; done) | (simp [*]; done)), (by first | rfl | (simp; done) | (simp [*]; done)), H', ⟨Nat.le_refl _⟩, ⟨by (with_reducible repeat (first | refine blk_drewN ?_ _ | refine blk_drew ?_ | refine blk_alloc ?_ _)); exact BK192.out⟩, ⟨by repeat (first | (with_reducible first | exact HB.out | apply below_alloc | apply pw_below_drewN | apply below_drew1 | refine below_set ?_ GE192.out) | exact HB.out)⟩⟩
  case round =>
    clear H'
    try clear c2
    try clear p2
    obtain ⟨x5_1, x6_1, rfl, rfl, HA, HK1, BK192, HB⟩ := hrel
    cases gk with
    | zero => exact absurd HA.out (by simp [spec_berCount.l0])
    | succ k1 =>
      have H := HA.out
      clear HA
      simp only [spec_berCount.l0] at H
      by_cases c4 : x6_1 < (l0_4.length : Int)
      · rw [if_pos c4] at H
        have c4b0 : decide (x6_1 < (l0_4.length : Int)) = true := decide_eq_true c4
        clear c4
        by_cases c5 : x5_1 ≤ a1
        · rw [if_pos c5] at H
          have c5b0 : decide (x5_1 ≤ a1) = true := decide_eq_true c5
          clear c5
          by_cases c6 : 0 ≤ x6_1
          · rw [if_pos c6] at H
            have c6b0 : decide (0 ≤ x6_1) = true := decide_eq_true c6
            clear c6
            replace H := Option.bind_eq_some_iff.mp H
            obtain ⟨t194, A70, H⟩ := H
            replace H : (spec_berCount.l0 k1 a1 (wrap64 (x5_1 + t194)) (wrap64 (x6_1 + 1)) a0_0 a0_1 a0_2 a0_3 l0_4) = some r := H
            have A7 := Aside0.mk A70
            clear A70
            have H' := Aside0.mk H
            clear H
            have hcz8_0 : wr.cell? ⟨gb192, 0, none⟩ = some (.int .u8 a0_0) := (blk_cell BK192.out 0).trans rfl
            have hcz8_1 : wr.cell? ⟨gb192, 1, none⟩ = some (.bool a0_1) := (blk_cell BK192.out 1).trans rfl
            have hcz8_2 : wr.cell? ⟨gb192, 2, none⟩ = some (.int .u64 a0_2) := (blk_cell BK192.out 2).trans rfl
            have hcz8_3 : wr.cell? ⟨gb192, 3, none⟩ = some (.string a0_3) := (blk_cell BK192.out 3).trans rfl
            have hcz8_4 : wr.cell? ⟨gb192, 4, none⟩ = some (.slice A0_4 l0_4.length c0_4) := (blk_cell BK192.out 4).trans rfl
            have hfz8_0 := blk_frozen BK192.out 0
            have hfz8_1 := blk_frozen BK192.out 1
            have hfz8_2 := blk_frozen BK192.out 2
            have hfz8_3 := blk_frozen BK192.out 3
            have hfz8_4 := blk_frozen BK192.out 4
            have p193 : 0 ≤ (x6_1 : Int) := of_decide_eq_true (by first | (with_reducible assumption) | assumption)
            have q193 : x6_1 < (l0_4.length : Int) := of_decide_eq_true (by first | (with_reducible assumption) | assumption)
            obtain ⟨ad193, A193_4, c193_4, e193, hx193_0, hx193_1, hx193_2, hx193_3, hx193_4, hl193_4, hi193_4⟩ := at_T26 HR0_4.out x6_1 p193 q193
            cases e193
            replace hx193_0 := (HB.out.cell (World.block_lt_of_cell? w _ hx193_0)).trans hx193_0
            replace hx193_1 := (HB.out.cell (World.block_lt_of_cell? w _ hx193_1)).trans hx193_1
            replace hx193_2 := (HB.out.cell (World.block_lt_of_cell? w _ hx193_2)).trans hx193_2
            replace hx193_3 := (HB.out.cell (World.block_lt_of_cell? w _ hx193_3)).trans hx193_3
            replace hx193_4 := (HB.out.cell (World.block_lt_of_cell? w _ hx193_4)).trans hx193_4
            have HR193_4 := Aside0.mk hi193_4
            have HC193_4 := Aside0.mk hl193_4
            clear hi193_4 hl193_4
            replace p193 := eq_true p193
            replace q193 := eq_true q193
            go_wp2_with (first | ((with_reducible refine gate_callee (f := 26) rfl ?_); refine goesL_ (some 28) rfl rfl Tryd.func26 (by kernel_rfl) rfl #[.agg #[.int .u8 ((rd_T26 l0_4 x6_1).f0), .bool ((rd_T26 l0_4 x6_1).f1), .int .u64 ((rd_T26 l0_4 x6_1).f2), .string ((rd_T26 l0_4 x6_1).f3), .slice A193_4 ((rd_T26 l0_4 x6_1).f4).length c193_4], .int .i64 (wrap64 (a1 - x5_1))] rfl (by (try simp only [List.map_toArray, List.map_cons, List.map_nil]); first | done | rfl | (simp only [List.length_drop, List.length_take]; rfl)) ?_; (with_reducible refine (ih k1 (by have := HK1.out; omega) ((rd_T26 l0_4 x6_1).f0) ((rd_T26 l0_4 x6_1).f1) ((rd_T26 l0_4 x6_1).f2) ((rd_T26 l0_4 x6_1).f3) _ _ ((rd_T26 l0_4 x6_1).f4) (wrap64 (a1 - x5_1)) t194 _ ?side1 ?side2 A7.out).mono ?_); (case side1 => repeat (first | exact (Kd.C_below HR193_4.out HB.out) | (with_reducible refine Kd.C_alloc ?_ _) | (with_reducible refine Kd.C_drewN ?_ _) | (with_reducible refine Kd.C_drew ?_))); (case side2 => exact HC193_4.out); rintro e w9 ⟨rfl, hb⟩; refine ⟨_, rfl, ?_⟩; have n0_ := Aside0.mk (blk_below (g := gb192) (o := .cells #[.int .u8 a0_0, .bool a0_1, .int .u64 a0_2, .string a0_3, .slice (some ad193) l0_4.length c0_4] 26 (0, 0)) (by (with_reducible repeat (first | refine blk_drewN ?_ _ | refine blk_drew ?_ | refine blk_alloc ?_ _)); exact BK192.out) hb); have n1_ := Aside0.mk (below_step (by repeat (first | (with_reducible first | exact HB.out | apply below_alloc | apply pw_below_drewN | apply below_drew1 | refine below_set ?_ GE192.out) | exact HB.out)) hb); clear BK192; clear HB; have BK192 := n0_; have HB := n1_; clear n0_ n1_; (try clear hb); (try clear hb2); (try clear hk); (try clear hi)))
            go_roundg k1
            case measure => have := HK1.out; omega
            case rel => exact ⟨(wrap64 (x5_1 + t194)), (wrap64 (x6_1 + 1)), (by first | rfl | (simp; done) | (simp [*]; done)), (by first | rfl | (simp; done) | (simp [*]; done)), H', ⟨by have := HK1.out; omega⟩, ⟨by (with_reducible repeat (first | refine blk_drewN ?_ _ | refine blk_drew ?_ | refine blk_alloc ?_ _)); exact BK192.out⟩, ⟨by repeat (first | (with_reducible first | exact HB.out | apply below_alloc | apply pw_below_drewN | apply below_drew1 | refine below_set ?_ GE192.out) | exact HB.out)⟩⟩
          · rw [if_neg c6] at H
            exact absurd H (by simp)
        · rw [if_neg c5] at H
          have c5b0 : decide (x5_1 ≤ a1) = false := decide_eq_false c5
          clear c5
          obtain rfl := Option.some.inj H
          have hcz10_0 : wr.cell? ⟨gb192, 0, none⟩ = some (.int .u8 a0_0) := (blk_cell BK192.out 0).trans rfl
          have hcz10_1 : wr.cell? ⟨gb192, 1, none⟩ = some (.bool a0_1) := (blk_cell BK192.out 1).trans rfl
          have hcz10_2 : wr.cell? ⟨gb192, 2, none⟩ = some (.int .u64 a0_2) := (blk_cell BK192.out 2).trans rfl
          have hcz10_3 : wr.cell? ⟨gb192, 3, none⟩ = some (.string a0_3) := (blk_cell BK192.out 3).trans rfl
          have hcz10_4 : wr.cell? ⟨gb192, 4, none⟩ = some (.slice A0_4 l0_4.length c0_4) := (blk_cell BK192.out 4).trans rfl
          have hfz10_0 := blk_frozen BK192.out 0
          have hfz10_1 := blk_frozen BK192.out 1
          have hfz10_2 := blk_frozen BK192.out 2
          have hfz10_3 := blk_frozen BK192.out 3
          have hfz10_4 := blk_frozen BK192.out 4
          go_wp2
          go_ret
          exact ⟨by first | rfl | (simp [errW_none, errW_some] <;> rfl) | (simp [*, errW_none, errW_some] <;> rfl), by repeat (first | (with_reducible first | exact HB.out | apply below_alloc | apply pw_below_drewN | apply below_drew1 | refine below_set ?_ GE192.out) | exact HB.out)⟩
      · rw [if_neg c4] at H
        have c4b0 : decide (x6_1 < (l0_4.length : Int)) = false := decide_eq_false c4
        clear c4
        obtain rfl := Option.some.inj H
        have hcz11_0 : wr.cell? ⟨gb192, 0, none⟩ = some (.int .u8 a0_0) := (blk_cell BK192.out 0).trans rfl
        have hcz11_1 : wr.cell? ⟨gb192, 1, none⟩ = some (.bool a0_1) := (blk_cell BK192.out 1).trans rfl
        have hcz11_2 : wr.cell? ⟨gb192, 2, none⟩ = some (.int .u64 a0_2) := (blk_cell BK192.out 2).trans rfl
        have hcz11_3 : wr.cell? ⟨gb192, 3, none⟩ = some (.string a0_3) := (blk_cell BK192.out 3).trans rfl
        have hcz11_4 : wr.cell? ⟨gb192, 4, none⟩ = some (.slice A0_4 l0_4.length c0_4) := (blk_cell BK192.out 4).trans rfl
        have hfz11_0 := blk_frozen BK192.out 0
        have hfz11_1 := blk_frozen BK192.out 1
        have hfz11_2 := blk_frozen BK192.out 2
        have hfz11_3 := blk_frozen BK192.out 3
        have hfz11_4 := blk_frozen BK192.out 4
        go_wp2
        go_ret
        exact ⟨by first | rfl | (simp [errW_none, errW_some] <;> rfl) | (simp [*, errW_none, errW_some] <;> rfl), by repeat (first | (with_reducible first | exact HB.out | apply below_alloc | apply pw_below_drewN | apply below_drew1 | refine below_set ?_ GE192.out) | exact HB.out)⟩

end Go.Proofs.YtdfehaonngccjaaDoor.PFnBerForms
