-- PRINTED BY print.sh 35421559b90ae4d0a3588c463048766b98c2df88dd9212a6774a882060cdf62d: not written by this session
import Derived.Test.YtdfehaonngccjaaDoorPFnBerFormsx0
namespace Go.Proofs.YtdfehaonngccjaaDoor.PFnBerForms
open Go.RowKit Go.Proofs.YtdfehaonngccjaaDoorW.PrintWords Go.Proofs.YtdfehaonngccjaaDoorW.PrintLast Go.Proofs.YtdfehaonngccjaaDoorW.PrintMore
attribute [local go_sem] max2_int min2_int max_two min_two max_three min_three max_four min_four   -- for this text's walks alone
set_option linter.unusedVariables false
set_option linter.unusedSimpArgs false

/-! ### spec_berIs: function 27 -/
mutual
def spec_berIs.j0 : Nat → Int → Bool → Int → Bool → Int → ByteArray → List (S26) → Option (Bool)
  | 0, _, _, _, _, _, _, _ => none
  | k + 1, x1, x54, x196000, x196001, x196002, x196003, x196004 => if x54 = true then (some false) else (spec_berIs.l0 k x1 x196004 (x196004.length : Int) 0)
def spec_berIs.l0 : Nat → Int → List (S26) → Int → Int → Option (Bool)
  | 0, _, _, _, _ => none
  | k + 1, x1, x56, x57, x58 => if x58 < x57 then (if 0 ≤ x58 then (if x58 < (x56.length : Int) then ((spec_berIs.f k ((rd_T26 x56 x58).f0) ((rd_T26 x56 x58).f1) ((rd_T26 x56 x58).f2) ((rd_T26 x56 x58).f3) ((rd_T26 x56 x58).f4) (wrap64 (x1 - 1))).bind fun t198 => (if t198 = true then (spec_berIs.l0 k x1 x56 x57 (wrap64 (x58 + 1))) else (some false))) else (none)) else (none)) else (some true)
def spec_berIs.f : Nat → Int → Bool → Int → ByteArray → List (S26) → Int → Option (Bool)
  | 0, _, _, _, _, _, _ => none
  | k + 1, a0_0, a0_1, a0_2, a0_3, l0_4, a1 => if a0_0 > 3 then (spec_berIs.j0 k a1 true a0_0 a0_1 a0_2 a0_3 l0_4) else (if a0_2 ≥ 2147483648 then (spec_berIs.j0 k a1 true a0_0 a0_1 a0_2 a0_3 l0_4) else (if a0_0 = 0 then (if a0_2 = 0 then (spec_berIs.j0 k a1 true a0_0 a0_1 a0_2 a0_3 l0_4) else (if a1 < 0 then (spec_berIs.j0 k a1 true a0_0 a0_1 a0_2 a0_3 l0_4) else (if (a0_3.size : Int) > 400 then (spec_berIs.j0 k a1 true a0_0 a0_1 a0_2 a0_3 l0_4) else (if a0_1 = true then (if a0_3.toList = ([] : List UInt8) then (spec_berIs.j0 k a1 false a0_0 a0_1 a0_2 a0_3 l0_4) else (spec_berIs.j0 k a1 true a0_0 a0_1 a0_2 a0_3 l0_4)) else (spec_berIs.j0 k a1 (decide ((l0_4.length : Int) > 0)) a0_0 a0_1 a0_2 a0_3 l0_4))))) else (if a1 < 0 then (spec_berIs.j0 k a1 true a0_0 a0_1 a0_2 a0_3 l0_4) else (if (a0_3.size : Int) > 400 then (spec_berIs.j0 k a1 true a0_0 a0_1 a0_2 a0_3 l0_4) else (if a0_1 = true then (if a0_3.toList = ([] : List UInt8) then (spec_berIs.j0 k a1 false a0_0 a0_1 a0_2 a0_3 l0_4) else (spec_berIs.j0 k a1 true a0_0 a0_1 a0_2 a0_3 l0_4)) else (spec_berIs.j0 k a1 (decide ((l0_4.length : Int) > 0)) a0_0 a0_1 a0_2 a0_3 l0_4))))))
end
theorem spec_berIs.mono_l : ∀ k, (∀ y0 y1 y2 y3 y4 y5, LeO (spec_berIs.f k y0 y1 y2 y3 y4 y5) (spec_berIs.f (k + 1) y0 y1 y2 y3 y4 y5)) ∧ (∀ y0 y1 y2 y3 y4 y5 y6, LeO (spec_berIs.j0 k y0 y1 y2 y3 y4 y5 y6) (spec_berIs.j0 (k + 1) y0 y1 y2 y3 y4 y5 y6)) ∧ (∀ y0 y1 y2 y3, LeO (spec_berIs.l0 k y0 y1 y2 y3) (spec_berIs.l0 (k + 1) y0 y1 y2 y3))
  | 0 => ⟨fun _ _ _ _ _ _ r h => by simp [spec_berIs.f] at h, fun _ _ _ _ _ _ _ r h => by simp [spec_berIs.j0] at h, fun _ _ _ _ r h => by simp [spec_berIs.l0] at h⟩
  | k + 1 => by
    obtain ⟨ih0, ih1, ih2⟩ := spec_berIs.mono_l k
    refine ⟨?_, ?_, ?_⟩
    · intro y0 y1 y2 y3 y4 y5
      unfold spec_berIs.f
      repeat' first
      | (with_reducible exact ih0 _ _ _ _ _ _)
      | (with_reducible exact ih1 _ _ _ _ _ _ _)
      | (with_reducible exact ih2 _ _ _ _)
      | (with_reducible exact LeO.refl _)
      | (with_reducible exact LeO.none _)
      | (with_reducible refine LeO.ite ?_ ?_)
      | (with_reducible refine LeO.bind ?_ (fun _ => ?_))
      | exact ih0 _ _ _ _ _ _
      | exact ih1 _ _ _ _ _ _ _
      | exact ih2 _ _ _ _
      | exact LeO.none _
      | refine LeO.ite ?_ ?_
      | refine LeO.bind ?_ (fun _ => ?_)
    · intro y0 y1 y2 y3 y4 y5 y6
      unfold spec_berIs.j0
      repeat' first
      | (with_reducible exact ih0 _ _ _ _ _ _)
      | (with_reducible exact ih1 _ _ _ _ _ _ _)
      | (with_reducible exact ih2 _ _ _ _)
      | (with_reducible exact LeO.refl _)
      | (with_reducible exact LeO.none _)
      | (with_reducible refine LeO.ite ?_ ?_)
      | (with_reducible refine LeO.bind ?_ (fun _ => ?_))
      | exact ih0 _ _ _ _ _ _
      | exact ih1 _ _ _ _ _ _ _
      | exact ih2 _ _ _ _
      | exact LeO.none _
      | refine LeO.ite ?_ ?_
      | refine LeO.bind ?_ (fun _ => ?_)
    · intro y0 y1 y2 y3
      unfold spec_berIs.l0
      repeat' first
      | (with_reducible exact ih0 _ _ _ _ _ _)
      | (with_reducible exact ih1 _ _ _ _ _ _ _)
      | (with_reducible exact ih2 _ _ _ _)
      | (with_reducible exact LeO.refl _)
      | (with_reducible exact LeO.none _)
      | (with_reducible refine LeO.ite ?_ ?_)
      | (with_reducible refine LeO.bind ?_ (fun _ => ?_))
      | exact ih0 _ _ _ _ _ _
      | exact ih1 _ _ _ _ _ _ _
      | exact ih2 _ _ _ _
      | exact LeO.none _
      | refine LeO.ite ?_ ?_
      | refine LeO.bind ?_ (fun _ => ?_)
theorem spec_berIs.mono : ∀ a0 a1 a2 a3 a4 a5 k, LeO (spec_berIs.f k a0 a1 a2 a3 a4 a5) (spec_berIs.f (k + 1) a0 a1 a2 a3 a4 a5) := by
  intro a0 a1 a2 a3 a4 a5 k
  obtain ⟨ih0, ih1, ih2⟩ := spec_berIs.mono_l k
  exact ih0 a0 a1 a2 a3 a4 a5
set_option maxHeartbeats 8000000 in
set_option maxRecDepth 100000 in
theorem spec_berIs.calls (k : Nat) : ∀ (a0_0 : Int) (a0_1 : Bool) (a0_2 : Int) (a0_3 : ByteArray) (A0_4 : Option Addr) (c0_4 : Nat) (l0_4 : List (S26)) (a1 : Int) (r : Bool) (w : World) (hr0_4 : Kd.C k26 w A0_4 l0_4.length l0_4) (hc0_4 : l0_4.length ≤ c0_4) (h : spec_berIs.f k a0_0 a0_1 a0_2 a0_3 l0_4 a1 = some r),
    Calls Tryd.prog 27 #[.agg #[.int .u8 a0_0, .bool a0_1, .int .u64 a0_2, .string a0_3, .slice A0_4 l0_4.length c0_4], .int .i64 a1] w fun e w' => e = .returned (.bool r) ∧ Below w.heap.size w w' := by
  induction k using Nat.strongRecOn with
  | _ k ih =>
  intro a0_0 a0_1 a0_2 a0_3 A0_4 c0_4 l0_4 a1 r w hr0_4 hc0_4 h
  cases k with
  | zero => exact absurd h (by simp [spec_berIs.f])
  | succ k =>
  simp only [spec_berIs.f] at h
  have hu26 := Tryd.underlying26
  have HR0_4 := Aside0.mk hr0_4
  have HC0_4 := Aside0.mk hc0_4
  clear hr0_4 hc0_4
  have HB := Aside0.mk (Below.refl w.heap.size w)
  have H : (if a0_0 > 3 then (spec_berIs.j0 k a1 true a0_0 a0_1 a0_2 a0_3 l0_4) else (if a0_2 ≥ 2147483648 then (spec_berIs.j0 k a1 true a0_0 a0_1 a0_2 a0_3 l0_4) else (if a0_0 = 0 then (if a0_2 = 0 then (spec_berIs.j0 k a1 true a0_0 a0_1 a0_2 a0_3 l0_4) else (if a1 < 0 then (spec_berIs.j0 k a1 true a0_0 a0_1 a0_2 a0_3 l0_4) else (if (a0_3.size : Int) > 400 then (spec_berIs.j0 k a1 true a0_0 a0_1 a0_2 a0_3 l0_4) else (if a0_1 = true then (if a0_3.toList = ([] : List UInt8) then (spec_berIs.j0 k a1 false a0_0 a0_1 a0_2 a0_3 l0_4) else (spec_berIs.j0 k a1 true a0_0 a0_1 a0_2 a0_3 l0_4)) else (spec_berIs.j0 k a1 (decide ((l0_4.length : Int) > 0)) a0_0 a0_1 a0_2 a0_3 l0_4))))) else (if a1 < 0 then (spec_berIs.j0 k a1 true a0_0 a0_1 a0_2 a0_3 l0_4) else (if (a0_3.size : Int) > 400 then (spec_berIs.j0 k a1 true a0_0 a0_1 a0_2 a0_3 l0_4) else (if a0_1 = true then (if a0_3.toList = ([] : List UInt8) then (spec_berIs.j0 k a1 false a0_0 a0_1 a0_2 a0_3 l0_4) else (spec_berIs.j0 k a1 true a0_0 a0_1 a0_2 a0_3 l0_4)) else (spec_berIs.j0 k a1 (decide ((l0_4.length : Int) > 0)) a0_0 a0_1 a0_2 a0_3 l0_4))))))) = some r := h
  clear h
  have HC3 := Aside0.mk H
  clear H
  go_enter Tryd.func27, Tryd.ntmps27
  go_upto_region 1 with (first | ((with_reducible refine gate_dst (N := 2) rfl ?_); (try (refine gate_guard (by rfl) ?_; dsimp only)); refine box_event ?hg (N := 2) ?hd (cs := #[.int .u8 a0_0, .bool a0_1, .int .u64 a0_2, .string a0_3, .slice A0_4 l0_4.length c0_4]) (t := 26) ?hr ?_; (case hd => rfl); (case hg => rfl); (case hr => first | (go_simp; done) | (go_simp; rfl)); intro gb195 hg w4 hbox hb; have n0_ := Aside0.mk (below_step (by repeat (first | (with_reducible first | exact HB.out | apply below_alloc | apply pw_below_drewN | apply below_drew1) | exact HB.out)) hb); have n1_ := Aside0.mk (hbox); have n2_ := Aside0.mk ((by rw [hg]; exact (below_size (by repeat (first | (with_reducible first | exact HB.out | apply below_alloc | apply pw_below_drewN | apply below_drew1) | exact HB.out))) : w.heap.size ≤ gb195)); have n3_ := Aside0.mk ((by rw [hg]; exact (below_size (by repeat (first | (with_reducible first | exact HB.out | apply below_alloc | apply pw_below_drewN | apply below_drew1) | exact HB.out))) : w.heap.size ≤ gb195)); clear HB; have HB := n0_; have BK195 := n1_; have GW195 := n2_; have GE195 := n3_; clear n0_ n1_ n2_ n3_; clear hb hbox hg))
  (try simp only [Act.put, List.setIfInBounds_toArray, List.set_cons_zero, List.set_cons_succ])
  go_cut [54] (fun v54 wc => ∃ (kq : Nat) (x54_2 : Bool), v54 = .bool x54_2 ∧ Aside0 (spec_berIs.j0 kq a1 x54_2 a0_0 a0_1 a0_2 a0_3 l0_4 = some r) ∧ Aside0 (kq ≤ k) ∧ Aside0 (wc.heap[gb195]? = some (.cells #[.int .u8 a0_0, .bool a0_1, .int .u64 a0_2, .string a0_3, (.slice A0_4 l0_4.length c0_4)] 26 (0, 0))) ∧ Aside0 (Below w.heap.size w wc))
  case first =>
    have H := HC3.out
    clear HC3
    by_cases c5 : a0_0 > 3
    · rw [if_pos c5] at H
      have c5b0 : decide (3 < a0_0) = true := decide_eq_true c5
      clear c5
      (first | rw [c5b0] | (simp only [i64_w, i32_w]; rw [c5b0]) | skip)
      have H' := Aside0.mk H
      clear H
      have hcz6_0 : w4.cell? ⟨gb195, 0, none⟩ = some (.int .u8 a0_0) := (blk_cell BK195.out 0).trans rfl
      have hcz6_1 : w4.cell? ⟨gb195, 1, none⟩ = some (.bool a0_1) := (blk_cell BK195.out 1).trans rfl
      have hcz6_2 : w4.cell? ⟨gb195, 2, none⟩ = some (.int .u64 a0_2) := (blk_cell BK195.out 2).trans rfl
      have hcz6_3 : w4.cell? ⟨gb195, 3, none⟩ = some (.string a0_3) := (blk_cell BK195.out 3).trans rfl
      have hcz6_4 : w4.cell? ⟨gb195, 4, none⟩ = some (.slice A0_4 l0_4.length c0_4) := (blk_cell BK195.out 4).trans rfl
      have hfz6_0 := blk_frozen BK195.out 0
      have hfz6_1 := blk_frozen BK195.out 1
      have hfz6_2 := blk_frozen BK195.out 2
      have hfz6_3 := blk_frozen BK195.out 3
      have hfz6_4 := blk_frozen BK195.out 4
      go_wp2
      go_meet
      case rel => exact ⟨_, (true), (by first | rfl | (simp; done) | (simp [*]; done)), H', ⟨by first | omega | exact Nat.le_refl _⟩, ⟨by (with_reducible repeat (first | refine blk_drewN ?_ _ | refine blk_drew ?_ | refine blk_alloc ?_ _)); exact BK195.out⟩, ⟨by repeat (first | (with_reducible first | exact HB.out | apply below_alloc | apply pw_below_drewN | apply below_drew1 | refine below_set ?_ GE195.out) | exact HB.out)⟩⟩
    · rw [if_neg c5] at H
      have c5b0 : decide (3 < a0_0) = false := decide_eq_false c5
      clear c5
      (first | rw [c5b0] | (simp only [i64_w, i32_w]; rw [c5b0]) | skip)
      by_cases c7 : a0_2 ≥ 2147483648
      · rw [if_pos c7] at H
        have c7b0 : decide (2147483648 ≤ a0_2) = true := decide_eq_true c7
        clear c7
        have H' := Aside0.mk H
        clear H
        have hcz8_0 : w4.cell? ⟨gb195, 0, none⟩ = some (.int .u8 a0_0) := (blk_cell BK195.out 0).trans rfl
        have hcz8_1 : w4.cell? ⟨gb195, 1, none⟩ = some (.bool a0_1) := (blk_cell BK195.out 1).trans rfl
        have hcz8_2 : w4.cell? ⟨gb195, 2, none⟩ = some (.int .u64 a0_2) := (blk_cell BK195.out 2).trans rfl
        have hcz8_3 : w4.cell? ⟨gb195, 3, none⟩ = some (.string a0_3) := (blk_cell BK195.out 3).trans rfl
        have hcz8_4 : w4.cell? ⟨gb195, 4, none⟩ = some (.slice A0_4 l0_4.length c0_4) := (blk_cell BK195.out 4).trans rfl
        have hfz8_0 := blk_frozen BK195.out 0
        have hfz8_1 := blk_frozen BK195.out 1
        have hfz8_2 := blk_frozen BK195.out 2
        have hfz8_3 := blk_frozen BK195.out 3
        have hfz8_4 := blk_frozen BK195.out 4
        go_wp2
        go_meet
        case rel => exact ⟨_, (true), (by first | rfl | (simp; done) | (simp [*]; done)), H', ⟨by first | omega | exact Nat.le_refl _⟩, ⟨by (with_reducible repeat (first | refine blk_drewN ?_ _ | refine blk_drew ?_ | refine blk_alloc ?_ _)); exact BK195.out⟩, ⟨by repeat (first | (with_reducible first | exact HB.out | apply below_alloc | apply pw_below_drewN | apply below_drew1 | refine below_set ?_ GE195.out) | exact HB.out)⟩⟩
      · rw [if_neg c7] at H
        have c7b0 : decide (2147483648 ≤ a0_2) = false := decide_eq_false c7
        clear c7
        by_cases c9 : a0_0 = 0
        · rw [if_pos c9] at H
          have c9b0 : (a0_0 == 0) = true := beq_iff_eq.mpr c9
          have c9b1 : (a0_0 != 0) = false := bne_eq_false_iff_eq.mpr c9
          clear c9
          by_cases c10 : a0_2 = 0
          · rw [if_pos c10] at H
            have c10b0 : (a0_2 == 0) = true := beq_iff_eq.mpr c10
            have c10b1 : (a0_2 != 0) = false := bne_eq_false_iff_eq.mpr c10
            clear c10
            have H' := Aside0.mk H
            clear H
            have hcz11_0 : w4.cell? ⟨gb195, 0, none⟩ = some (.int .u8 a0_0) := (blk_cell BK195.out 0).trans rfl
            have hcz11_1 : w4.cell? ⟨gb195, 1, none⟩ = some (.bool a0_1) := (blk_cell BK195.out 1).trans rfl
            have hcz11_2 : w4.cell? ⟨gb195, 2, none⟩ = some (.int .u64 a0_2) := (blk_cell BK195.out 2).trans rfl
            have hcz11_3 : w4.cell? ⟨gb195, 3, none⟩ = some (.string a0_3) := (blk_cell BK195.out 3).trans rfl
            have hcz11_4 : w4.cell? ⟨gb195, 4, none⟩ = some (.slice A0_4 l0_4.length c0_4) := (blk_cell BK195.out 4).trans rfl
            have hfz11_0 := blk_frozen BK195.out 0
            have hfz11_1 := blk_frozen BK195.out 1
            have hfz11_2 := blk_frozen BK195.out 2
            have hfz11_3 := blk_frozen BK195.out 3
            have hfz11_4 := blk_frozen BK195.out 4
            go_wp2
            go_meet
            case rel => exact ⟨_, (true), (by first | rfl | (simp; done) | (simp [*]; done)), H', ⟨by first | omega | exact Nat.le_refl _⟩, ⟨by (with_reducible repeat (first | refine blk_drewN ?_ _ | refine blk_drew ?_ | refine blk_alloc ?_ _)); exact BK195.out⟩, ⟨by repeat (first | (with_reducible first | exact HB.out | apply below_alloc | apply pw_below_drewN | apply below_drew1 | refine below_set ?_ GE195.out) | exact HB.out)⟩⟩
          · rw [if_neg c10] at H
            have c10b0 : (a0_2 == 0) = false := beq_eq_false_iff_ne.mpr c10
            have c10b1 : (a0_2 != 0) = true := bne_iff_ne.mpr c10
            by_cases c12 : a1 < 0
            · rw [if_pos c12] at H
              have c12b0 : decide (a1 < 0) = true := decide_eq_true c12
              clear c12
              have H' := Aside0.mk H
              clear H
              have hcz13_0 : w4.cell? ⟨gb195, 0, none⟩ = some (.int .u8 a0_0) := (blk_cell BK195.out 0).trans rfl
              have hcz13_1 : w4.cell? ⟨gb195, 1, none⟩ = some (.bool a0_1) := (blk_cell BK195.out 1).trans rfl
              have hcz13_2 : w4.cell? ⟨gb195, 2, none⟩ = some (.int .u64 a0_2) := (blk_cell BK195.out 2).trans rfl
              have hcz13_3 : w4.cell? ⟨gb195, 3, none⟩ = some (.string a0_3) := (blk_cell BK195.out 3).trans rfl
              have hcz13_4 : w4.cell? ⟨gb195, 4, none⟩ = some (.slice A0_4 l0_4.length c0_4) := (blk_cell BK195.out 4).trans rfl
              have hfz13_0 := blk_frozen BK195.out 0
              have hfz13_1 := blk_frozen BK195.out 1
              have hfz13_2 := blk_frozen BK195.out 2
              have hfz13_3 := blk_frozen BK195.out 3
              have hfz13_4 := blk_frozen BK195.out 4
              go_wp2
              go_meet
              case rel => exact ⟨_, (true), (by first | rfl | (simp; done) | (simp [*]; done)), H', ⟨by first | omega | exact Nat.le_refl _⟩, ⟨by (with_reducible repeat (first | refine blk_drewN ?_ _ | refine blk_drew ?_ | refine blk_alloc ?_ _)); exact BK195.out⟩, ⟨by repeat (first | (with_reducible first | exact HB.out | apply below_alloc | apply pw_below_drewN | apply below_drew1 | refine below_set ?_ GE195.out) | exact HB.out)⟩⟩
            · rw [if_neg c12] at H
              have c12b0 : decide (a1 < 0) = false := decide_eq_false c12
              clear c12
              by_cases c14 : (a0_3.size : Int) > 400
              · rw [if_pos c14] at H
                have c14b0 : decide (400 < (a0_3.size : Int)) = true := decide_eq_true c14
                have c14b1 : decide (400 < a0_3.size) = true := decide_eq_true (by omega)
                clear c14
                have H' := Aside0.mk H
                clear H
                have hcz15_0 : w4.cell? ⟨gb195, 0, none⟩ = some (.int .u8 a0_0) := (blk_cell BK195.out 0).trans rfl
                have hcz15_1 : w4.cell? ⟨gb195, 1, none⟩ = some (.bool a0_1) := (blk_cell BK195.out 1).trans rfl
                have hcz15_2 : w4.cell? ⟨gb195, 2, none⟩ = some (.int .u64 a0_2) := (blk_cell BK195.out 2).trans rfl
                have hcz15_3 : w4.cell? ⟨gb195, 3, none⟩ = some (.string a0_3) := (blk_cell BK195.out 3).trans rfl
                have hcz15_4 : w4.cell? ⟨gb195, 4, none⟩ = some (.slice A0_4 l0_4.length c0_4) := (blk_cell BK195.out 4).trans rfl
                have hfz15_0 := blk_frozen BK195.out 0
                have hfz15_1 := blk_frozen BK195.out 1
                have hfz15_2 := blk_frozen BK195.out 2
                have hfz15_3 := blk_frozen BK195.out 3
                have hfz15_4 := blk_frozen BK195.out 4
                go_wp2
                go_meet
                case rel => exact ⟨_, (true), (by first | rfl | (simp; done) | (simp [*]; done)), H', ⟨by first | omega | exact Nat.le_refl _⟩, ⟨by (with_reducible repeat (first | refine blk_drewN ?_ _ | refine blk_drew ?_ | refine blk_alloc ?_ _)); exact BK195.out⟩, ⟨by repeat (first | (with_reducible first | exact HB.out | apply below_alloc | apply pw_below_drewN | apply below_drew1 | refine below_set ?_ GE195.out) | exact HB.out)⟩⟩
              · rw [if_neg c14] at H
                have c14b0 : decide (400 < (a0_3.size : Int)) = false := decide_eq_false c14
                have c14b1 : decide (400 < a0_3.size) = false := decide_eq_false (by omega)
                clear c14
                by_cases c16 : a0_1 = true
                · subst c16
                  have H1 : (if a0_3.toList = ([] : List UInt8) then (spec_berIs.j0 k a1 false a0_0 true a0_2 a0_3 l0_4) else (spec_berIs.j0 k a1 true a0_0 true a0_2 a0_3 l0_4)) = some r := by rw [if_pos rfl] at H; exact H
                  clear H
                  have H := H1
                  clear H1
                  by_cases c17 : a0_3.toList = ([] : List UInt8)
                  · rw [if_pos c17] at H
                    have c17b0 : (a0_3.toList == ([] : List UInt8)) = true := beq_iff_eq.mpr c17
                    have c17b1 : (a0_3.toList != ([] : List UInt8)) = false := bne_eq_false_iff_eq.mpr c17
                    clear c17
                    have H' := Aside0.mk H
                    clear H
                    have hcz18_0 : w4.cell? ⟨gb195, 0, none⟩ = some (.int .u8 a0_0) := (blk_cell BK195.out 0).trans rfl
                    have hcz18_1 : w4.cell? ⟨gb195, 1, none⟩ = some (.bool true) := (blk_cell BK195.out 1).trans rfl
                    have hcz18_2 : w4.cell? ⟨gb195, 2, none⟩ = some (.int .u64 a0_2) := (blk_cell BK195.out 2).trans rfl
                    have hcz18_3 : w4.cell? ⟨gb195, 3, none⟩ = some (.string a0_3) := (blk_cell BK195.out 3).trans rfl
                    have hcz18_4 : w4.cell? ⟨gb195, 4, none⟩ = some (.slice A0_4 l0_4.length c0_4) := (blk_cell BK195.out 4).trans rfl
                    have hfz18_0 := blk_frozen BK195.out 0
                    have hfz18_1 := blk_frozen BK195.out 1
                    have hfz18_2 := blk_frozen BK195.out 2
                    have hfz18_3 := blk_frozen BK195.out 3
                    have hfz18_4 := blk_frozen BK195.out 4
                    go_wp2
                    go_meet
                    case rel => exact ⟨_, (false), (by first | rfl | (simp; done) | (simp [*]; done)), H', ⟨by first | omega | exact Nat.le_refl _⟩, ⟨by (with_reducible repeat (first | refine blk_drewN ?_ _ | refine blk_drew ?_ | refine blk_alloc ?_ _)); exact BK195.out⟩, ⟨by repeat (first | (with_reducible first | exact HB.out | apply below_alloc | apply pw_below_drewN | apply below_drew1 | refine below_set ?_ GE195.out) | exact HB.out)⟩⟩
                  · rw [if_neg c17] at H
                    have c17b0 : (a0_3.toList == ([] : List UInt8)) = false := beq_eq_false_iff_ne.mpr c17
                    have c17b1 : (a0_3.toList != ([] : List UInt8)) = true := bne_iff_ne.mpr c17
                    have H' := Aside0.mk H
                    clear H
                    have hcz19_0 : w4.cell? ⟨gb195, 0, none⟩ = some (.int .u8 a0_0) := (blk_cell BK195.out 0).trans rfl
                    have hcz19_1 : w4.cell? ⟨gb195, 1, none⟩ = some (.bool true) := (blk_cell BK195.out 1).trans rfl
                    have hcz19_2 : w4.cell? ⟨gb195, 2, none⟩ = some (.int .u64 a0_2) := (blk_cell BK195.out 2).trans rfl
                    have hcz19_3 : w4.cell? ⟨gb195, 3, none⟩ = some (.string a0_3) := (blk_cell BK195.out 3).trans rfl
                    have hcz19_4 : w4.cell? ⟨gb195, 4, none⟩ = some (.slice A0_4 l0_4.length c0_4) := (blk_cell BK195.out 4).trans rfl
                    have hfz19_0 := blk_frozen BK195.out 0
                    have hfz19_1 := blk_frozen BK195.out 1
                    have hfz19_2 := blk_frozen BK195.out 2
                    have hfz19_3 := blk_frozen BK195.out 3
                    have hfz19_4 := blk_frozen BK195.out 4
                    go_wp2
                    go_meet
                    case rel => exact ⟨_, (true), (by first | rfl | (simp; done) | (simp [*]; done)), H', ⟨by first | omega | exact Nat.le_refl _⟩, ⟨by (with_reducible repeat (first | refine blk_drewN ?_ _ | refine blk_drew ?_ | refine blk_alloc ?_ _)); exact BK195.out⟩, ⟨by repeat (first | (with_reducible first | exact HB.out | apply below_alloc | apply pw_below_drewN | apply below_drew1 | refine below_set ?_ GE195.out) | exact HB.out)⟩⟩
                · replace c16 := Bool.eq_false_iff.mpr c16
                  subst c16
                  have H1 : (spec_berIs.j0 k a1 (decide ((l0_4.length : Int) > 0)) a0_0 false a0_2 a0_3 l0_4) = some r := by rw [if_neg (show ¬ (false = true) by decide)] at H; exact H
                  clear H
                  have H := H1
                  clear H1
                  have H' := Aside0.mk H
                  clear H
                  have hcz20_0 : w4.cell? ⟨gb195, 0, none⟩ = some (.int .u8 a0_0) := (blk_cell BK195.out 0).trans rfl
                  have hcz20_1 : w4.cell? ⟨gb195, 1, none⟩ = some (.bool false) := (blk_cell BK195.out 1).trans rfl
                  have hcz20_2 : w4.cell? ⟨gb195, 2, none⟩ = some (.int .u64 a0_2) := (blk_cell BK195.out 2).trans rfl
                  have hcz20_3 : w4.cell? ⟨gb195, 3, none⟩ = some (.string a0_3) := (blk_cell BK195.out 3).trans rfl
                  have hcz20_4 : w4.cell? ⟨gb195, 4, none⟩ = some (.slice A0_4 l0_4.length c0_4) := (blk_cell BK195.out 4).trans rfl
                  have hfz20_0 := blk_frozen BK195.out 0
                  have hfz20_1 := blk_frozen BK195.out 1
                  have hfz20_2 := blk_frozen BK195.out 2
                  have hfz20_3 := blk_frozen BK195.out 3
                  have hfz20_4 := blk_frozen BK195.out 4
                  go_wp2
                  go_meet
                  case rel => exact ⟨_, (decide ((l0_4.length : Int) > 0)), (by first | rfl | (simp; done) | (simp [*]; done)), H', ⟨by first | omega | exact Nat.le_refl _⟩, ⟨by (with_reducible repeat (first | refine blk_drewN ?_ _ | refine blk_drew ?_ | refine blk_alloc ?_ _)); exact BK195.out⟩, ⟨by repeat (first | (with_reducible first | exact HB.out | apply below_alloc | apply pw_below_drewN | apply below_drew1 | refine below_set ?_ GE195.out) | exact HB.out)⟩⟩
        · rw [if_neg c9] at H
          have c9b0 : (a0_0 == 0) = false := beq_eq_false_iff_ne.mpr c9
          have c9b1 : (a0_0 != 0) = true := bne_iff_ne.mpr c9
          by_cases c21 : a1 < 0
          · rw [if_pos c21] at H
            have c21b0 : decide (a1 < 0) = true := decide_eq_true c21
            clear c21
            have H' := Aside0.mk H
            clear H
            have hcz22_0 : w4.cell? ⟨gb195, 0, none⟩ = some (.int .u8 a0_0) := (blk_cell BK195.out 0).trans rfl
            have hcz22_1 : w4.cell? ⟨gb195, 1, none⟩ = some (.bool a0_1) := (blk_cell BK195.out 1).trans rfl
            have hcz22_2 : w4.cell? ⟨gb195, 2, none⟩ = some (.int .u64 a0_2) := (blk_cell BK195.out 2).trans rfl
            have hcz22_3 : w4.cell? ⟨gb195, 3, none⟩ = some (.string a0_3) := (blk_cell BK195.out 3).trans rfl
            have hcz22_4 : w4.cell? ⟨gb195, 4, none⟩ = some (.slice A0_4 l0_4.length c0_4) := (blk_cell BK195.out 4).trans rfl
            have hfz22_0 := blk_frozen BK195.out 0
            have hfz22_1 := blk_frozen BK195.out 1
            have hfz22_2 := blk_frozen BK195.out 2
            have hfz22_3 := blk_frozen BK195.out 3
            have hfz22_4 := blk_frozen BK195.out 4
            go_wp2
            go_meet
            case rel => exact ⟨_, (true), (by first | rfl | (simp; done) | (simp [*]; done)), H', ⟨by first | omega | exact Nat.le_refl _⟩, ⟨by (with_reducible repeat (first | refine blk_drewN ?_ _ | refine blk_drew ?_ | refine blk_alloc ?_ _)); exact BK195.out⟩, ⟨by repeat (first | (with_reducible first | exact HB.out | apply below_alloc | apply pw_below_drewN | apply below_drew1 | refine below_set ?_ GE195.out) | exact HB.out)⟩⟩
          · rw [if_neg c21] at H
            have c21b0 : decide (a1 < 0) = false := decide_eq_false c21
            clear c21
            by_cases c23 : (a0_3.size : Int) > 400
            · rw [if_pos c23] at H
              have c23b0 : decide (400 < (a0_3.size : Int)) = true := decide_eq_true c23
              have c23b1 : decide (400 < a0_3.size) = true := decide_eq_true (by omega)
              clear c23
              have H' := Aside0.mk H
              clear H
              have hcz24_0 : w4.cell? ⟨gb195, 0, none⟩ = some (.int .u8 a0_0) := (blk_cell BK195.out 0).trans rfl
              have hcz24_1 : w4.cell? ⟨gb195, 1, none⟩ = some (.bool a0_1) := (blk_cell BK195.out 1).trans rfl
              have hcz24_2 : w4.cell? ⟨gb195, 2, none⟩ = some (.int .u64 a0_2) := (blk_cell BK195.out 2).trans rfl
              have hcz24_3 : w4.cell? ⟨gb195, 3, none⟩ = some (.string a0_3) := (blk_cell BK195.out 3).trans rfl
              have hcz24_4 : w4.cell? ⟨gb195, 4, none⟩ = some (.slice A0_4 l0_4.length c0_4) := (blk_cell BK195.out 4).trans rfl
              have hfz24_0 := blk_frozen BK195.out 0
              have hfz24_1 := blk_frozen BK195.out 1
              have hfz24_2 := blk_frozen BK195.out 2
              have hfz24_3 := blk_frozen BK195.out 3
              have hfz24_4 := blk_frozen BK195.out 4
              go_wp2
              go_meet
              case rel => exact ⟨_, (true), (by first | rfl | (simp; done) | (simp [*]; done)), H', ⟨by first | omega | exact Nat.le_refl _⟩, ⟨by (with_reducible repeat (first | refine blk_drewN ?_ _ | refine blk_drew ?_ | refine blk_alloc ?_ _)); exact BK195.out⟩, ⟨by repeat (first | (with_reducible first | exact HB.out | apply below_alloc | apply pw_below_drewN | apply below_drew1 | refine below_set ?_ GE195.out) | exact HB.out)⟩⟩
            · rw [if_neg c23] at H
              have c23b0 : decide (400 < (a0_3.size : Int)) = false := decide_eq_false c23
              have c23b1 : decide (400 < a0_3.size) = false := decide_eq_false (by omega)
              clear c23
              by_cases c25 : a0_1 = true
              · subst c25
                have H1 : (if a0_3.toList = ([] : List UInt8) then (spec_berIs.j0 k a1 false a0_0 true a0_2 a0_3 l0_4) else (spec_berIs.j0 k a1 true a0_0 true a0_2 a0_3 l0_4)) = some r := by rw [if_pos rfl] at H; exact H
                clear H
                have H := H1
                clear H1
                by_cases c26 : a0_3.toList = ([] : List UInt8)
                · rw [if_pos c26] at H
                  have c26b0 : (a0_3.toList == ([] : List UInt8)) = true := beq_iff_eq.mpr c26
                  have c26b1 : (a0_3.toList != ([] : List UInt8)) = false := bne_eq_false_iff_eq.mpr c26
                  clear c26
                  have H' := Aside0.mk H
                  clear H
                  have hcz27_0 : w4.cell? ⟨gb195, 0, none⟩ = some (.int .u8 a0_0) := (blk_cell BK195.out 0).trans rfl
                  have hcz27_1 : w4.cell? ⟨gb195, 1, none⟩ = some (.bool true) := (blk_cell BK195.out 1).trans rfl
                  have hcz27_2 : w4.cell? ⟨gb195, 2, none⟩ = some (.int .u64 a0_2) := (blk_cell BK195.out 2).trans rfl
                  have hcz27_3 : w4.cell? ⟨gb195, 3, none⟩ = some (.string a0_3) := (blk_cell BK195.out 3).trans rfl
                  have hcz27_4 : w4.cell? ⟨gb195, 4, none⟩ = some (.slice A0_4 l0_4.length c0_4) := (blk_cell BK195.out 4).trans rfl
                  have hfz27_0 := blk_frozen BK195.out 0
                  have hfz27_1 := blk_frozen BK195.out 1
                  have hfz27_2 := blk_frozen BK195.out 2
                  have hfz27_3 := blk_frozen BK195.out 3
                  have hfz27_4 := blk_frozen BK195.out 4
                  go_wp2
                  go_meet
                  case rel => exact ⟨_, (false), (by first | rfl | (simp; done) | (simp [*]; done)), H', ⟨by first | omega | exact Nat.le_refl _⟩, ⟨by (with_reducible repeat (first | refine blk_drewN ?_ _ | refine blk_drew ?_ | refine blk_alloc ?_ _)); exact BK195.out⟩, ⟨by repeat (first | (with_reducible first | exact HB.out | apply below_alloc | apply pw_below_drewN | apply below_drew1 | refine below_set ?_ GE195.out) | exact HB.out)⟩⟩
                · rw [if_neg c26] at H
                  have c26b0 : (a0_3.toList == ([] : List UInt8)) = false := beq_eq_false_iff_ne.mpr c26
                  have c26b1 : (a0_3.toList != ([] : List UInt8)) = true := bne_iff_ne.mpr c26
                  have H' := Aside0.mk H
                  clear H
                  have hcz28_0 : w4.cell? ⟨gb195, 0, none⟩ = some (.int .u8 a0_0) := (blk_cell BK195.out 0).trans rfl
                  have hcz28_1 : w4.cell? ⟨gb195, 1, none⟩ = some (.bool true) := (blk_cell BK195.out 1).trans rfl
                  have hcz28_2 : w4.cell? ⟨gb195, 2, none⟩ = some (.int .u64 a0_2) := (blk_cell BK195.out 2).trans rfl
                  have hcz28_3 : w4.cell? ⟨gb195, 3, none⟩ = some (.string a0_3) := (blk_cell BK195.out 3).trans rfl
                  have hcz28_4 : w4.cell? ⟨gb195, 4, none⟩ = some (.slice A0_4 l0_4.length c0_4) := (blk_cell BK195.out 4).trans rfl
                  have hfz28_0 := blk_frozen BK195.out 0
                  have hfz28_1 := blk_frozen BK195.out 1
                  have hfz28_2 := blk_frozen BK195.out 2
                  have hfz28_3 := blk_frozen BK195.out 3
                  have hfz28_4 := blk_frozen BK195.out 4
                  go_wp2
                  go_meet
                  case rel => exact ⟨_, (true), (by first | rfl | (simp; done) | (simp [*]; done)), H', ⟨by first | omega | exact Nat.le_refl _⟩, ⟨by (with_reducible repeat (first | refine blk_drewN ?_ _ | refine blk_drew ?_ | refine blk_alloc ?_ _)); exact BK195.out⟩, ⟨by repeat (first | (with_reducible first | exact HB.out | apply below_alloc | apply pw_below_drewN | apply below_drew1 | refine below_set ?_ GE195.out) | exact HB.out)⟩⟩
              · replace c25 := Bool.eq_false_iff.mpr c25
                subst c25
                have H1 : (spec_berIs.j0 k a1 (decide ((l0_4.length : Int) > 0)) a0_0 false a0_2 a0_3 l0_4) = some r := by rw [if_neg (show ¬ (false = true) by decide)] at H; exact H
                clear H
                have H := H1
                clear H1
                have H' := Aside0.mk H
                clear H
                have hcz29_0 : w4.cell? ⟨gb195, 0, none⟩ = some (.int .u8 a0_0) := (blk_cell BK195.out 0).trans rfl
                have hcz29_1 : w4.cell? ⟨gb195, 1, none⟩ = some (.bool false) := (blk_cell BK195.out 1).trans rfl
                have hcz29_2 : w4.cell? ⟨gb195, 2, none⟩ = some (.int .u64 a0_2) := (blk_cell BK195.out 2).trans rfl
                have hcz29_3 : w4.cell? ⟨gb195, 3, none⟩ = some (.string a0_3) := (blk_cell BK195.out 3).trans rfl
                have hcz29_4 : w4.cell? ⟨gb195, 4, none⟩ = some (.slice A0_4 l0_4.length c0_4) := (blk_cell BK195.out 4).trans rfl
                have hfz29_0 := blk_frozen BK195.out 0
                have hfz29_1 := blk_frozen BK195.out 1
                have hfz29_2 := blk_frozen BK195.out 2
                have hfz29_3 := blk_frozen BK195.out 3
                have hfz29_4 := blk_frozen BK195.out 4
                go_wp2
                go_meet
                case rel => exact ⟨_, (decide ((l0_4.length : Int) > 0)), (by first | rfl | (simp; done) | (simp [*]; done)), H', ⟨by first | omega | exact Nat.le_refl _⟩, ⟨by (with_reducible repeat (first | refine blk_drewN ?_ _ | refine blk_drew ?_ | refine blk_alloc ?_ _)); exact BK195.out⟩, ⟨by repeat (first | (with_reducible first | exact HB.out | apply below_alloc | apply pw_below_drewN | apply below_drew1 | refine below_set ?_ GE195.out) | exact HB.out)⟩⟩
  case rest =>
    clear HC3
    try clear c1
    try clear c2
    try clear p2
    try clear c5
    try clear c5b0
    try clear c7
    try clear c7b0
    try clear c9
    try clear c9b0
    try clear c9b1
    try clear c10
    try clear c10b0
    try clear c10b1
    try clear c12
    try clear c12b0
    try clear c14
    try clear c14b0
    try clear c14b1
    try clear c16
    try clear c17
    try clear c17b0
    try clear c17b1
    try clear c21
    try clear c21b0
    try clear c23
    try clear c23b0
    try clear c23b1
    try clear c25
    try clear c26
    try clear c26b0
    try clear c26b1
    try clear c27
    try clear hcz11_0
    try clear hcz11_1
    try clear hcz11_2
    try clear hcz11_3
    try clear hcz11_4
    try clear hcz13_0
    try clear hcz13_1
    try clear hcz13_2
    try clear hcz13_3
    try clear hcz13_4
    try clear hcz15_0
    try clear hcz15_1
    try clear hcz15_2
    try clear hcz15_3
    try clear hcz15_4
    try clear hcz18_0
    try clear hcz18_1
    try clear hcz18_2
    try clear hcz18_3
    try clear hcz18_4
    try clear hcz19_0
    try clear hcz19_1
    try clear hcz19_2
    try clear hcz19_3
    try clear hcz19_4
    try clear hcz20_0
    try clear hcz20_1
    try clear hcz20_2
    try clear hcz20_3
    try clear hcz20_4
    try clear hcz22_0
    try clear hcz22_1
    try clear hcz22_2
    try clear hcz22_3
    try clear hcz22_4
    try clear hcz24_0
    try clear hcz24_1
    try clear hcz24_2
    try clear hcz24_3
    try clear hcz24_4
    try clear hcz27_0
    try clear hcz27_1
    try clear hcz27_2
    try clear hcz27_3
    try clear hcz27_4
    try clear hcz28_0
    try clear hcz28_1
    try clear hcz28_2
    try clear hcz28_3
    try clear hcz28_4
    try clear hcz29_0
    try clear hcz29_1
    try clear hcz29_2
    try clear hcz29_3
    try clear hcz29_4
    try clear hcz6_0
    try clear hcz6_1
    try clear hcz6_2
    try clear hcz6_3
    try clear hcz6_4
    try clear hcz8_0
    try clear hcz8_1
    try clear hcz8_2
    try clear hcz8_3
    try clear hcz8_4
    try clear hfz11_0
    try clear hfz11_1
    try clear hfz11_2
    try clear hfz11_3
    try clear hfz11_4
    try clear hfz13_0
    try clear hfz13_1
    try clear hfz13_2
    try clear hfz13_3
    try clear hfz13_4
    try clear hfz15_0
    try clear hfz15_1
    try clear hfz15_2
    try clear hfz15_3
    try clear hfz15_4
    try clear hfz18_0
    try clear hfz18_1
    try clear hfz18_2
    try clear hfz18_3
    try clear hfz18_4
    try clear hfz19_0
    try clear hfz19_1
    try clear hfz19_2
    try clear hfz19_3
    try clear hfz19_4
    try clear hfz20_0
    try clear hfz20_1
    try clear hfz20_2
    try clear hfz20_3
    try clear hfz20_4
    try clear hfz22_0
    try clear hfz22_1
    try clear hfz22_2
    try clear hfz22_3
    try clear hfz22_4
    try clear hfz24_0
    try clear hfz24_1
    try clear hfz24_2
    try clear hfz24_3
    try clear hfz24_4
    try clear hfz27_0
    try clear hfz27_1
    try clear hfz27_2
    try clear hfz27_3
    try clear hfz27_4
    try clear hfz28_0
    try clear hfz28_1
    try clear hfz28_2
    try clear hfz28_3
    try clear hfz28_4
    try clear hfz29_0
    try clear hfz29_1
    try clear hfz29_2
    try clear hfz29_3
    try clear hfz29_4
    try clear hfz6_0
    try clear hfz6_1
    try clear hfz6_2
    try clear hfz6_3
    try clear hfz6_4
    try clear hfz8_0
    try clear hfz8_1
    try clear hfz8_2
    try clear hfz8_3
    try clear hfz8_4
    obtain ⟨kq, x54_2, rfl, HA, HJ2, BK195, HB⟩ := hcut
    cases kq with
    | zero => exact absurd HA.out (by simp [spec_berIs.j0])
    | succ kj2 =>
      have H := HA.out
      clear HA
      simp only [spec_berIs.j0] at H
      by_cases c30 : x54_2 = true
      · subst c30
        have H1 : (some false) = some r := by rw [if_pos rfl] at H; exact H
        clear H
        have H := H1
        clear H1
        obtain rfl := Option.some.inj H
        go_wp2
        go_ret
        exact ⟨by first | rfl | (simp [errW_none, errW_some] <;> rfl) | (simp [*, errW_none, errW_some] <;> rfl), by repeat (first | (with_reducible first | exact HB.out | apply below_alloc | apply pw_below_drewN | apply below_drew1 | refine below_set ?_ GE195.out) | exact HB.out)⟩
      · replace c30 := Bool.eq_false_iff.mpr c30
        subst c30
        have H1 : (spec_berIs.l0 kj2 a1 l0_4 (l0_4.length : Int) 0) = some r := by rw [if_neg (show ¬ (false = true) by decide)] at H; exact H
        clear H
        have H := H1
        clear H1
        have H' := Aside0.mk H
        clear H
        have hcz31_0 : wc.cell? ⟨gb195, 0, none⟩ = some (.int .u8 a0_0) := (blk_cell BK195.out 0).trans rfl
        have hcz31_1 : wc.cell? ⟨gb195, 1, none⟩ = some (.bool a0_1) := (blk_cell BK195.out 1).trans rfl
        have hcz31_2 : wc.cell? ⟨gb195, 2, none⟩ = some (.int .u64 a0_2) := (blk_cell BK195.out 2).trans rfl
        have hcz31_3 : wc.cell? ⟨gb195, 3, none⟩ = some (.string a0_3) := (blk_cell BK195.out 3).trans rfl
        have hcz31_4 : wc.cell? ⟨gb195, 4, none⟩ = some (.slice A0_4 l0_4.length c0_4) := (blk_cell BK195.out 4).trans rfl
        have hfz31_0 := blk_frozen BK195.out 0
        have hfz31_1 := blk_frozen BK195.out 1
        have hfz31_2 := blk_frozen BK195.out 2
        have hfz31_3 := blk_frozen BK195.out 3
        have hfz31_4 := blk_frozen BK195.out 4
        go_wp2
        go_loopg [58] kj2 (fun kq v58 w' => ∃ (x58_2 : Int), v58 = .int .i64 x58_2 ∧ Aside0 (spec_berIs.l0 kq a1 l0_4 (l0_4.length : Int) x58_2 = some r) ∧ Aside0 (kq ≤ kj2) ∧ Aside0 (w'.heap[gb195]? = some (.cells #[.int .u8 a0_0, .bool a0_1, .int .u64 a0_2, .string a0_3, (.slice A0_4 l0_4.length c0_4)] 26 (0, 0))) ∧ Aside0 (Below w.heap.size w w'))
        case atStart => exact ⟨(0), (by first | rfl | (simp; done) | (simp [*]; done)), H', ⟨Nat.le_refl _⟩, ⟨by (with_reducible repeat (first | refine blk_drewN ?_ _ | refine blk_drew ?_ | refine blk_alloc ?_ _)); exact BK195.out⟩, ⟨by repeat (first | (with_reducible first | exact HB.out | apply below_alloc | apply pw_below_drewN | apply below_drew1 | refine below_set ?_ GE195.out) | exact HB.out)⟩⟩
        case round =>
          clear H'
          try clear c1
          try clear c2
          try clear p2
          try clear c3
          try clear c5
          try clear c5b0
          try clear c7
          try clear c7b0
          try clear c9
          try clear c9b0
          try clear c9b1
          try clear c10
          try clear c10b0
          try clear c10b1
          try clear c12
          try clear c12b0
          try clear c14
          try clear c14b0
          try clear c14b1
          try clear c16
          try clear c17
          try clear c17b0
          try clear c17b1
          try clear c21
          try clear c21b0
          try clear c23
          try clear c23b0
          try clear c23b1
          try clear c25
          try clear c26
          try clear c26b0
          try clear c26b1
          try clear c27
          try clear c30
          try clear hcz11_0
          try clear hcz11_1
          try clear hcz11_2
          try clear hcz11_3
          try clear hcz11_4
          try clear hcz13_0
          try clear hcz13_1
          try clear hcz13_2
          try clear hcz13_3
          try clear hcz13_4
          try clear hcz15_0
          try clear hcz15_1
          try clear hcz15_2
          try clear hcz15_3
          try clear hcz15_4
          try clear hcz18_0
          try clear hcz18_1
          try clear hcz18_2
          try clear hcz18_3
          try clear hcz18_4
          try clear hcz19_0
          try clear hcz19_1
          try clear hcz19_2
          try clear hcz19_3
          try clear hcz19_4
          try clear hcz20_0
          try clear hcz20_1
          try clear hcz20_2
          try clear hcz20_3
          try clear hcz20_4
          try clear hcz22_0
          try clear hcz22_1
          try clear hcz22_2
          try clear hcz22_3
          try clear hcz22_4
          try clear hcz24_0
          try clear hcz24_1
          try clear hcz24_2
          try clear hcz24_3
          try clear hcz24_4
          try clear hcz27_0
          try clear hcz27_1
          try clear hcz27_2
          try clear hcz27_3
          try clear hcz27_4
          try clear hcz28_0
          try clear hcz28_1
          try clear hcz28_2
          try clear hcz28_3
          try clear hcz28_4
          try clear hcz29_0
          try clear hcz29_1
          try clear hcz29_2
          try clear hcz29_3
          try clear hcz29_4
          try clear hcz31_0
          try clear hcz31_1
          try clear hcz31_2
          try clear hcz31_3
          try clear hcz31_4
          try clear hcz6_0
          try clear hcz6_1
          try clear hcz6_2
          try clear hcz6_3
          try clear hcz6_4
          try clear hcz8_0
          try clear hcz8_1
          try clear hcz8_2
          try clear hcz8_3
          try clear hcz8_4
          try clear hfz11_0
          try clear hfz11_1
          try clear hfz11_2
          try clear hfz11_3
          try clear hfz11_4
          try clear hfz13_0
          try clear hfz13_1
          try clear hfz13_2
          try clear hfz13_3
          try clear hfz13_4
          try clear hfz15_0
          try clear hfz15_1
          try clear hfz15_2
          try clear hfz15_3
          try clear hfz15_4
          try clear hfz18_0
          try clear hfz18_1
          try clear hfz18_2
          try clear hfz18_3
          try clear hfz18_4
          try clear hfz19_0
          try clear hfz19_1
          try clear hfz19_2
          try clear hfz19_3
          try clear hfz19_4
          try clear hfz20_0
          try clear hfz20_1
          try clear hfz20_2
          try clear hfz20_3
          try clear hfz20_4
          try clear hfz22_0
          try clear hfz22_1
          try clear hfz22_2
          try clear hfz22_3
          try clear hfz22_4
          try clear hfz24_0
          try clear hfz24_1
          try clear hfz24_2
          try clear hfz24_3
          try clear hfz24_4
          try clear hfz27_0
          try clear hfz27_1
          try clear hfz27_2
          try clear hfz27_3
          try clear hfz27_4
          try clear hfz28_0
          try clear hfz28_1
          try clear hfz28_2
          try clear hfz28_3
          try clear hfz28_4
          try clear hfz29_0
          try clear hfz29_1
          try clear hfz29_2
          try clear hfz29_3
          try clear hfz29_4
          try clear hfz31_0
          try clear hfz31_1
          try clear hfz31_2
          try clear hfz31_3
          try clear hfz31_4
          try clear hfz6_0
          try clear hfz6_1
          try clear hfz6_2
          try clear hfz6_3
          try clear hfz6_4
          try clear hfz8_0
          try clear hfz8_1
          try clear hfz8_2
          try clear hfz8_3
          try clear hfz8_4
          try clear p2
          obtain ⟨x58_2, rfl, HA, HK2, BK195, HB⟩ := hrel
          cases gk with
          | zero => exact absurd HA.out (by simp [spec_berIs.l0])
          | succ k2 =>
            have H := HA.out
            clear HA
            simp only [spec_berIs.l0] at H
            by_cases c32 : x58_2 < (l0_4.length : Int)
            · rw [if_pos c32] at H
              have c32b0 : decide (x58_2 < (l0_4.length : Int)) = true := decide_eq_true c32
              clear c32
              by_cases c33 : 0 ≤ x58_2
              · rw [if_pos c33] at H
                have c33b0 : decide (0 ≤ x58_2) = true := decide_eq_true c33
                clear c33
                by_cases c34 : x58_2 < (l0_4.length : Int)
                · rw [if_pos c34] at H
                  have c34b0 : decide (x58_2 < (l0_4.length : Int)) = true := decide_eq_true c34
                  clear c34
                  replace H := Option.bind_eq_some_iff.mp H
                  obtain ⟨t198, A350, H⟩ := H
                  replace H : (if t198 = true then (spec_berIs.l0 k2 a1 l0_4 (l0_4.length : Int) (wrap64 (x58_2 + 1))) else (some false)) = some r := H
                  have A35 := Aside0.mk A350
                  clear A350
                  by_cases c36 : t198 = true
                  · subst c36
                    have H1 : (spec_berIs.l0 k2 a1 l0_4 (l0_4.length : Int) (wrap64 (x58_2 + 1))) = some r := by rw [if_pos rfl] at H; exact H
                    clear H
                    have H := H1
                    clear H1
                    have H' := Aside0.mk H
                    clear H
                    have p196 : 0 ≤ (x58_2 : Int) := of_decide_eq_true (by first | (with_reducible assumption) | assumption)
                    have q196 : x58_2 < (l0_4.length : Int) := of_decide_eq_true (by first | (with_reducible assumption) | assumption)
                    obtain ⟨ad196, A196_4, c196_4, e196, hx196_0, hx196_1, hx196_2, hx196_3, hx196_4, hl196_4, hi196_4⟩ := at_T26 HR0_4.out x58_2 p196 q196
                    cases e196
                    replace hx196_0 := (HB.out.cell (World.block_lt_of_cell? w _ hx196_0)).trans hx196_0
                    replace hx196_1 := (HB.out.cell (World.block_lt_of_cell? w _ hx196_1)).trans hx196_1
                    replace hx196_2 := (HB.out.cell (World.block_lt_of_cell? w _ hx196_2)).trans hx196_2
                    replace hx196_3 := (HB.out.cell (World.block_lt_of_cell? w _ hx196_3)).trans hx196_3
                    replace hx196_4 := (HB.out.cell (World.block_lt_of_cell? w _ hx196_4)).trans hx196_4
                    have HR196_4 := Aside0.mk hi196_4
                    have HC196_4 := Aside0.mk hl196_4
                    clear hi196_4 hl196_4
                    replace p196 := eq_true p196
                    replace q196 := eq_true q196
                    go_wp2_with (first | ((with_reducible refine gate_dst (N := 6) rfl ?_); (try (refine gate_guard (by rfl) ?_; dsimp only)); refine box_event ?hg (N := 6) ?hd (cs := #[.int .u8 0, .bool false, .int .u64 0, .string (⟨#[]⟩ : ByteArray), .slice none 0 0]) (t := 26) ?hr ?_; (case hd => rfl); (case hg => rfl); (case hr => first | (go_simp; done) | (go_simp; rfl)); intro gb197 hg w37 hbox hb; have n0_ := Aside0.mk (blk_below (g := gb195) (o := .cells #[.int .u8 a0_0, .bool a0_1, .int .u64 a0_2, .string a0_3, .slice (some ad196) l0_4.length c0_4] 26 (0, 0)) (by (with_reducible repeat (first | refine blk_drewN ?_ _ | refine blk_drew ?_ | refine blk_alloc ?_ _)); exact BK195.out) hb); have n1_ := Aside0.mk (below_step (by repeat (first | (with_reducible first | exact HB.out | apply below_alloc | apply pw_below_drewN | apply below_drew1 | refine below_set ?_ GE195.out) | exact HB.out)) hb); have n2_ := Aside0.mk (hbox); have n3_ := Aside0.mk ((by rw [hg]; exact (below_size (by repeat (first | (with_reducible first | exact HB.out | apply below_alloc | apply pw_below_drewN | apply below_drew1 | refine below_set ?_ GE195.out) | exact HB.out))) : w.heap.size ≤ gb197)); have n4_ := Aside0.mk ((by rw [hg]; exact (below_size (by repeat (first | (with_reducible first | exact HB.out | apply below_alloc | apply pw_below_drewN | apply below_drew1 | refine below_set ?_ GE195.out) | exact HB.out))) : w.heap.size ≤ gb197)); have n5_ := Aside0.mk ((by rw [hg]; exact Nat.ne_of_lt (blk_lt (g := gb195) (o := .cells #[.int .u8 a0_0, .bool a0_1, .int .u64 a0_2, .string a0_3, .slice (some ad196) l0_4.length c0_4] 26 (0, 0)) (by (with_reducible repeat (first | refine blk_drewN ?_ _ | refine blk_drew ?_ | refine blk_alloc ?_ _)); exact BK195.out)) : gb195 ≠ gb197)); have n6_ := Aside0.mk ((by rw [hg]; exact Nat.ne_of_gt (blk_lt (g := gb195) (o := .cells #[.int .u8 a0_0, .bool a0_1, .int .u64 a0_2, .string a0_3, .slice (some ad196) l0_4.length c0_4] 26 (0, 0)) (by (with_reducible repeat (first | refine blk_drewN ?_ _ | refine blk_drew ?_ | refine blk_alloc ?_ _)); exact BK195.out)) : gb197 ≠ gb195)); clear BK195; clear HB; have BK195 := n0_; have HB := n1_; have BK197 := n2_; have GW197 := n3_; have GE197 := n4_; have NB195_197 := n5_; have NB197_195 := n6_; clear n0_ n1_ n2_ n3_ n4_ n5_ n6_; clear hb hbox hg; have hnb38 := NB197_195.out; have hnc38 := NB195_197.out; have hcz39_0 : w37.cell? ⟨gb197, 0, none⟩ = some (.int .u8 0) := (blk_cell BK197.out 0).trans rfl; have hcz39_1 : w37.cell? ⟨gb197, 1, none⟩ = some (.bool false) := (blk_cell BK197.out 1).trans rfl; have hcz39_2 : w37.cell? ⟨gb197, 2, none⟩ = some (.int .u64 0) := (blk_cell BK197.out 2).trans rfl; have hcz39_3 : w37.cell? ⟨gb197, 3, none⟩ = some (.string (⟨#[]⟩ : ByteArray)) := (blk_cell BK197.out 3).trans rfl; have hcz39_4 : w37.cell? ⟨gb197, 4, none⟩ = some (.slice none 0 0) := (blk_cell BK197.out 4).trans rfl; have hfz39_0 := blk_frozen BK197.out 0; have hfz39_1 := blk_frozen BK197.out 1; have hfz39_2 := blk_frozen BK197.out 2; have hfz39_3 := blk_frozen BK197.out 3; have hfz39_4 := blk_frozen BK197.out 4) | ((with_reducible refine gate_callee (f := 27) rfl ?_); refine goesL_ (some 65) rfl rfl Tryd.func27 (by kernel_rfl) rfl #[.agg #[.int .u8 ((rd_T26 l0_4 x58_2).f0), .bool ((rd_T26 l0_4 x58_2).f1), .int .u64 ((rd_T26 l0_4 x58_2).f2), .string ((rd_T26 l0_4 x58_2).f3), .slice A196_4 ((rd_T26 l0_4 x58_2).f4).length c196_4], .int .i64 (wrap64 (a1 - 1))] rfl (by (try simp only [List.map_toArray, List.map_cons, List.map_nil]); first | done | rfl | (simp only [List.length_drop, List.length_take]; rfl)) ?_; (with_reducible refine (ih k2 (by have := HJ2.out; have := HK2.out; omega) ((rd_T26 l0_4 x58_2).f0) ((rd_T26 l0_4 x58_2).f1) ((rd_T26 l0_4 x58_2).f2) ((rd_T26 l0_4 x58_2).f3) _ _ ((rd_T26 l0_4 x58_2).f4) (wrap64 (a1 - 1)) true _ ?side1 ?side2 A35.out).mono ?_); (case side1 => exact Kd.C_below HR196_4.out (by repeat (first | (with_reducible first | exact HB.out | apply below_alloc | apply pw_below_drewN | apply below_drew1 | refine below_set ?_ GE195.out | refine below_set ?_ GE197.out) | exact HB.out))); (case side2 => exact HC196_4.out); rintro e w40 ⟨rfl, hb⟩; refine ⟨_, rfl, ?_⟩; have n0_ := Aside0.mk (blk_below (g := gb195) (o := .cells #[.int .u8 a0_0, .bool a0_1, .int .u64 a0_2, .string a0_3, .slice (some ad196) l0_4.length c0_4] 26 (0, 0)) (by (with_reducible repeat (first | refine blk_drewN ?_ _ | refine blk_drew ?_ | refine blk_alloc ?_ _)); refine blk_far ?_ NB195_197.out _; (with_reducible repeat (first | refine blk_drewN ?_ _ | refine blk_drew ?_ | refine blk_alloc ?_ _)); refine blk_far ?_ NB195_197.out _; (with_reducible repeat (first | refine blk_drewN ?_ _ | refine blk_drew ?_ | refine blk_alloc ?_ _)); refine blk_far ?_ NB195_197.out _; (with_reducible repeat (first | refine blk_drewN ?_ _ | refine blk_drew ?_ | refine blk_alloc ?_ _)); refine blk_far ?_ NB195_197.out _; (with_reducible repeat (first | refine blk_drewN ?_ _ | refine blk_drew ?_ | refine blk_alloc ?_ _)); refine blk_far ?_ NB195_197.out _; (with_reducible repeat (first | refine blk_drewN ?_ _ | refine blk_drew ?_ | refine blk_alloc ?_ _)); exact BK195.out) hb); have n1_ := Aside0.mk (blk_below (g := gb197) (o := .cells #[.int .u8 ((rd_T26 l0_4 x58_2).f0), .bool ((rd_T26 l0_4 x58_2).f1), .int .u64 ((rd_T26 l0_4 x58_2).f2), .string ((rd_T26 l0_4 x58_2).f3), .slice A196_4 ((rd_T26 l0_4 x58_2).f4).length c196_4] 26 (0, 0)) (by (with_reducible repeat (first | refine blk_drewN ?_ _ | refine blk_drew ?_ | refine blk_alloc ?_ _)); refine blk_put (cs := #[.int .u8 ((rd_T26 l0_4 x58_2).f0), .bool ((rd_T26 l0_4 x58_2).f1), .int .u64 ((rd_T26 l0_4 x58_2).f2), .string ((rd_T26 l0_4 x58_2).f3), .slice none 0 0]) ?_ 4 _ rfl; (with_reducible repeat (first | refine blk_drewN ?_ _ | refine blk_drew ?_ | refine blk_alloc ?_ _)); refine blk_put (cs := #[.int .u8 ((rd_T26 l0_4 x58_2).f0), .bool ((rd_T26 l0_4 x58_2).f1), .int .u64 ((rd_T26 l0_4 x58_2).f2), .string (⟨#[]⟩ : ByteArray), .slice none 0 0]) ?_ 3 _ rfl; (with_reducible repeat (first | refine blk_drewN ?_ _ | refine blk_drew ?_ | refine blk_alloc ?_ _)); refine blk_put (cs := #[.int .u8 ((rd_T26 l0_4 x58_2).f0), .bool ((rd_T26 l0_4 x58_2).f1), .int .u64 0, .string (⟨#[]⟩ : ByteArray), .slice none 0 0]) ?_ 2 _ rfl; (with_reducible repeat (first | refine blk_drewN ?_ _ | refine blk_drew ?_ | refine blk_alloc ?_ _)); refine blk_put (cs := #[.int .u8 ((rd_T26 l0_4 x58_2).f0), .bool false, .int .u64 0, .string (⟨#[]⟩ : ByteArray), .slice none 0 0]) ?_ 1 _ rfl; (with_reducible repeat (first | refine blk_drewN ?_ _ | refine blk_drew ?_ | refine blk_alloc ?_ _)); refine blk_put (cs := #[.int .u8 0, .bool false, .int .u64 0, .string (⟨#[]⟩ : ByteArray), .slice none 0 0]) ?_ 0 _ rfl; (with_reducible repeat (first | refine blk_drewN ?_ _ | refine blk_drew ?_ | refine blk_alloc ?_ _)); exact BK197.out) hb); have n2_ := Aside0.mk (below_step (by repeat (first | (with_reducible first | exact HB.out | apply below_alloc | apply pw_below_drewN | apply below_drew1 | refine below_set ?_ GE195.out | refine below_set ?_ GE197.out) | exact HB.out)) hb); clear BK195; clear BK197; clear HB; have BK195 := n0_; have BK197 := n1_; have HB := n2_; clear n0_ n1_ n2_; (try clear hb); (try clear hb2); (try clear hk); (try clear hi)))
                    go_roundg k2
                    case measure => have := HJ2.out; have := HK2.out; omega
                    case rel => exact ⟨(wrap64 (x58_2 + 1)), (by first | rfl | (simp; done) | (simp [*]; done)), H', ⟨by have := HJ2.out; have := HK2.out; omega⟩, ⟨by (with_reducible repeat (first | refine blk_drewN ?_ _ | refine blk_drew ?_ | refine blk_alloc ?_ _)); exact BK195.out⟩, ⟨by repeat (first | (with_reducible first | exact HB.out | apply below_alloc | apply pw_below_drewN | apply below_drew1 | refine below_set ?_ GE195.out | refine below_set ?_ GE197.out) | exact HB.out)⟩⟩
                  · replace c36 := Bool.eq_false_iff.mpr c36
                    subst c36
                    have H1 : (some false) = some r := by rw [if_neg (show ¬ (false = true) by decide)] at H; exact H
                    clear H
                    have H := H1
                    clear H1
                    obtain rfl := Option.some.inj H
                    have p196 : 0 ≤ (x58_2 : Int) := of_decide_eq_true (by first | (with_reducible assumption) | assumption)
                    have q196 : x58_2 < (l0_4.length : Int) := of_decide_eq_true (by first | (with_reducible assumption) | assumption)
                    obtain ⟨ad196, A196_4, c196_4, e196, hx196_0, hx196_1, hx196_2, hx196_3, hx196_4, hl196_4, hi196_4⟩ := at_T26 HR0_4.out x58_2 p196 q196
                    cases e196
                    replace hx196_0 := (HB.out.cell (World.block_lt_of_cell? w _ hx196_0)).trans hx196_0
                    replace hx196_1 := (HB.out.cell (World.block_lt_of_cell? w _ hx196_1)).trans hx196_1
                    replace hx196_2 := (HB.out.cell (World.block_lt_of_cell? w _ hx196_2)).trans hx196_2
                    replace hx196_3 := (HB.out.cell (World.block_lt_of_cell? w _ hx196_3)).trans hx196_3
                    replace hx196_4 := (HB.out.cell (World.block_lt_of_cell? w _ hx196_4)).trans hx196_4
                    have HR196_4 := Aside0.mk hi196_4
                    have HC196_4 := Aside0.mk hl196_4
                    clear hi196_4 hl196_4
                    replace p196 := eq_true p196
                    replace q196 := eq_true q196
                    go_wp2_with (first | ((with_reducible refine gate_dst (N := 6) rfl ?_); (try (refine gate_guard (by rfl) ?_; dsimp only)); refine box_event ?hg (N := 6) ?hd (cs := #[.int .u8 0, .bool false, .int .u64 0, .string (⟨#[]⟩ : ByteArray), .slice none 0 0]) (t := 26) ?hr ?_; (case hd => rfl); (case hg => rfl); (case hr => first | (go_simp; done) | (go_simp; rfl)); intro gb197 hg w41 hbox hb; have n0_ := Aside0.mk (blk_below (g := gb195) (o := .cells #[.int .u8 a0_0, .bool a0_1, .int .u64 a0_2, .string a0_3, .slice (some ad196) l0_4.length c0_4] 26 (0, 0)) (by (with_reducible repeat (first | refine blk_drewN ?_ _ | refine blk_drew ?_ | refine blk_alloc ?_ _)); exact BK195.out) hb); have n1_ := Aside0.mk (below_step (by repeat (first | (with_reducible first | exact HB.out | apply below_alloc | apply pw_below_drewN | apply below_drew1 | refine below_set ?_ GE195.out) | exact HB.out)) hb); have n2_ := Aside0.mk (hbox); have n3_ := Aside0.mk ((by rw [hg]; exact (below_size (by repeat (first | (with_reducible first | exact HB.out | apply below_alloc | apply pw_below_drewN | apply below_drew1 | refine below_set ?_ GE195.out) | exact HB.out))) : w.heap.size ≤ gb197)); have n4_ := Aside0.mk ((by rw [hg]; exact (below_size (by repeat (first | (with_reducible first | exact HB.out | apply below_alloc | apply pw_below_drewN | apply below_drew1 | refine below_set ?_ GE195.out) | exact HB.out))) : w.heap.size ≤ gb197)); have n5_ := Aside0.mk ((by rw [hg]; exact Nat.ne_of_lt (blk_lt (g := gb195) (o := .cells #[.int .u8 a0_0, .bool a0_1, .int .u64 a0_2, .string a0_3, .slice (some ad196) l0_4.length c0_4] 26 (0, 0)) (by (with_reducible repeat (first | refine blk_drewN ?_ _ | refine blk_drew ?_ | refine blk_alloc ?_ _)); exact BK195.out)) : gb195 ≠ gb197)); have n6_ := Aside0.mk ((by rw [hg]; exact Nat.ne_of_gt (blk_lt (g := gb195) (o := .cells #[.int .u8 a0_0, .bool a0_1, .int .u64 a0_2, .string a0_3, .slice (some ad196) l0_4.length c0_4] 26 (0, 0)) (by (with_reducible repeat (first | refine blk_drewN ?_ _ | refine blk_drew ?_ | refine blk_alloc ?_ _)); exact BK195.out)) : gb197 ≠ gb195)); clear BK195; clear HB; have BK195 := n0_; have HB := n1_; have BK197 := n2_; have GW197 := n3_; have GE197 := n4_; have NB195_197 := n5_; have NB197_195 := n6_; clear n0_ n1_ n2_ n3_ n4_ n5_ n6_; clear hb hbox hg; have hnb42 := NB197_195.out; have hnc42 := NB195_197.out; have hcz43_0 : w41.cell? ⟨gb197, 0, none⟩ = some (.int .u8 0) := (blk_cell BK197.out 0).trans rfl; have hcz43_1 : w41.cell? ⟨gb197, 1, none⟩ = some (.bool false) := (blk_cell BK197.out 1).trans rfl; have hcz43_2 : w41.cell? ⟨gb197, 2, none⟩ = some (.int .u64 0) := (blk_cell BK197.out 2).trans rfl; have hcz43_3 : w41.cell? ⟨gb197, 3, none⟩ = some (.string (⟨#[]⟩ : ByteArray)) := (blk_cell BK197.out 3).trans rfl; have hcz43_4 : w41.cell? ⟨gb197, 4, none⟩ = some (.slice none 0 0) := (blk_cell BK197.out 4).trans rfl; have hfz43_0 := blk_frozen BK197.out 0; have hfz43_1 := blk_frozen BK197.out 1; have hfz43_2 := blk_frozen BK197.out 2; have hfz43_3 := blk_frozen BK197.out 3; have hfz43_4 := blk_frozen BK197.out 4) | ((with_reducible refine gate_callee (f := 27) rfl ?_); refine goesL_ (some 65) rfl rfl Tryd.func27 (by kernel_rfl) rfl #[.agg #[.int .u8 ((rd_T26 l0_4 x58_2).f0), .bool ((rd_T26 l0_4 x58_2).f1), .int .u64 ((rd_T26 l0_4 x58_2).f2), .string ((rd_T26 l0_4 x58_2).f3), .slice A196_4 ((rd_T26 l0_4 x58_2).f4).length c196_4], .int .i64 (wrap64 (a1 - 1))] rfl (by (try simp only [List.map_toArray, List.map_cons, List.map_nil]); first | done | rfl | (simp only [List.length_drop, List.length_take]; rfl)) ?_; (with_reducible refine (ih k2 (by have := HJ2.out; have := HK2.out; omega) ((rd_T26 l0_4 x58_2).f0) ((rd_T26 l0_4 x58_2).f1) ((rd_T26 l0_4 x58_2).f2) ((rd_T26 l0_4 x58_2).f3) _ _ ((rd_T26 l0_4 x58_2).f4) (wrap64 (a1 - 1)) false _ ?side1 ?side2 A35.out).mono ?_); (case side1 => exact Kd.C_below HR196_4.out (by repeat (first | (with_reducible first | exact HB.out | apply below_alloc | apply pw_below_drewN | apply below_drew1 | refine below_set ?_ GE195.out | refine below_set ?_ GE197.out) | exact HB.out))); (case side2 => exact HC196_4.out); rintro e w44 ⟨rfl, hb⟩; refine ⟨_, rfl, ?_⟩; have n0_ := Aside0.mk (blk_below (g := gb195) (o := .cells #[.int .u8 a0_0, .bool a0_1, .int .u64 a0_2, .string a0_3, .slice (some ad196) l0_4.length c0_4] 26 (0, 0)) (by (with_reducible repeat (first | refine blk_drewN ?_ _ | refine blk_drew ?_ | refine blk_alloc ?_ _)); refine blk_far ?_ NB195_197.out _; (with_reducible repeat (first | refine blk_drewN ?_ _ | refine blk_drew ?_ | refine blk_alloc ?_ _)); refine blk_far ?_ NB195_197.out _; (with_reducible repeat (first | refine blk_drewN ?_ _ | refine blk_drew ?_ | refine blk_alloc ?_ _)); refine blk_far ?_ NB195_197.out _; (with_reducible repeat (first | refine blk_drewN ?_ _ | refine blk_drew ?_ | refine blk_alloc ?_ _)); refine blk_far ?_ NB195_197.out _; (with_reducible repeat (first | refine blk_drewN ?_ _ | refine blk_drew ?_ | refine blk_alloc ?_ _)); refine blk_far ?_ NB195_197.out _; (with_reducible repeat (first | refine blk_drewN ?_ _ | refine blk_drew ?_ | refine blk_alloc ?_ _)); exact BK195.out) hb); have n1_ := Aside0.mk (blk_below (g := gb197) (o := .cells #[.int .u8 ((rd_T26 l0_4 x58_2).f0), .bool ((rd_T26 l0_4 x58_2).f1), .int .u64 ((rd_T26 l0_4 x58_2).f2), .string ((rd_T26 l0_4 x58_2).f3), .slice A196_4 ((rd_T26 l0_4 x58_2).f4).length c196_4] 26 (0, 0)) (by (with_reducible repeat (first | refine blk_drewN ?_ _ | refine blk_drew ?_ | refine blk_alloc ?_ _)); refine blk_put (cs := #[.int .u8 ((rd_T26 l0_4 x58_2).f0), .bool ((rd_T26 l0_4 x58_2).f1), .int .u64 ((rd_T26 l0_4 x58_2).f2), .string ((rd_T26 l0_4 x58_2).f3), .slice none 0 0]) ?_ 4 _ rfl; (with_reducible repeat (first | refine blk_drewN ?_ _ | refine blk_drew ?_ | refine blk_alloc ?_ _)); refine blk_put (cs := #[.int .u8 ((rd_T26 l0_4 x58_2).f0), .bool ((rd_T26 l0_4 x58_2).f1), .int .u64 ((rd_T26 l0_4 x58_2).f2), .string (⟨#[]⟩ : ByteArray), .slice none 0 0]) ?_ 3 _ rfl; (with_reducible repeat (first | refine blk_drewN ?_ _ | refine blk_drew ?_ | refine blk_alloc ?_ _)); refine blk_put (cs := #[.int .u8 ((rd_T26 l0_4 x58_2).f0), .bool ((rd_T26 l0_4 x58_2).f1), .int .u64 0, .string (⟨#[]⟩ : ByteArray), .slice none 0 0]) ?_ 2 _ rfl; (with_reducible repeat (first | refine blk_drewN ?_ _ | refine blk_drew ?_ | refine blk_alloc ?_ _)); refine blk_put (cs := #[.int .u8 ((rd_T26 l0_4 x58_2).f0), .bool false, .int .u64 0, .string (⟨#[]⟩ : ByteArray), .slice none 0 0]) ?_ 1 _ rfl; (with_reducible repeat (first | refine blk_drewN ?_ _ | refine blk_drew ?_ | refine blk_alloc ?_ _)); refine blk_put (cs := #[.int .u8 0, .bool false, .int .u64 0, .string (⟨#[]⟩ : ByteArray), .slice none 0 0]) ?_ 0 _ rfl; (with_reducible repeat (first | refine blk_drewN ?_ _ | refine blk_drew ?_ | refine blk_alloc ?_ _)); exact BK197.out) hb); have n2_ := Aside0.mk (below_step (by repeat (first | (with_reducible first | exact HB.out | apply below_alloc | apply pw_below_drewN | apply below_drew1 | refine below_set ?_ GE195.out | refine below_set ?_ GE197.out) | exact HB.out)) hb); clear BK195; clear BK197; clear HB; have BK195 := n0_; have BK197 := n1_; have HB := n2_; clear n0_ n1_ n2_; (try clear hb); (try clear hb2); (try clear hk); (try clear hi)))
                    go_ret
                    exact ⟨by first | rfl | (simp [errW_none, errW_some] <;> rfl) | (simp [*, errW_none, errW_some] <;> rfl), by repeat (first | (with_reducible first | exact HB.out | apply below_alloc | apply pw_below_drewN | apply below_drew1 | refine below_set ?_ GE195.out | refine below_set ?_ GE197.out) | exact HB.out)⟩
                · rw [if_neg c34] at H
                  exact absurd H (by simp)
              · rw [if_neg c33] at H
                exact absurd H (by simp)
            · rw [if_neg c32] at H
              have c32b0 : decide (x58_2 < (l0_4.length : Int)) = false := decide_eq_false c32
              clear c32
              obtain rfl := Option.some.inj H
              go_wp2
              go_ret
              exact ⟨by first | rfl | (simp [errW_none, errW_some] <;> rfl) | (simp [*, errW_none, errW_some] <;> rfl), by repeat (first | (with_reducible first | exact HB.out | apply below_alloc | apply pw_below_drewN | apply below_drew1 | refine below_set ?_ GE195.out) | exact HB.out)⟩

end Go.Proofs.YtdfehaonngccjaaDoor.PFnBerForms
