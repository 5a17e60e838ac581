-- PRINTED BY print.sh 35421559b90ae4d0a3588c463048766b98c2df88dd9212a6774a882060cdf62d: not written by this session
import Derived.Test.YtdfehaonngccjaaDoorPFnBerFormsx0
import Derived.Test.YtdfehaonngccjaaDoorPFnBerFormsx4
import Derived.Test.YtdfehaonngccjaaDoorPFnBerFormsx5
namespace Go.Proofs.YtdfehaonngccjaaDoor.PFnBerForms
open Go.RowKit Go.Proofs.YtdfehaonngccjaaDoorW.PrintWords Go.Proofs.YtdfehaonngccjaaDoorW.PrintLast Go.Proofs.YtdfehaonngccjaaDoorW.PrintMore
attribute [local go_sem] max2_int min2_int max_two min_two max_three min_three max_four min_four   -- for this text's walks alone
set_option linter.unusedVariables false
set_option linter.unusedSimpArgs false

/-! ### spec_BerIs: function 12 -/
def spec_BerIs.f (k : Nat) (a0_0 : Int) (a0_1 : Bool) (a0_2 : Int) (a0_3 : ByteArray) (l0_4 : List (S26)) : Option (Bool) := (spec_berCount.f k a0_0 a0_1 a0_2 a0_3 l0_4 40).bind fun t200 => (if t200 ≤ 40 then ((spec_berIs.f k a0_0 a0_1 a0_2 a0_3 l0_4 6).bind fun t201 => (some t201)) else (some false))
theorem spec_BerIs.mono : ∀ a0 a1 a2 a3 a4 k, LeO (spec_BerIs.f k a0 a1 a2 a3 a4) (spec_BerIs.f (k + 1) a0 a1 a2 a3 a4) := by
  intro a0 a1 a2 a3 a4 k
  unfold spec_BerIs.f
  repeat' first
      | (with_reducible exact spec_berCount.mono _ _ _ _ _ _ _)
      | (with_reducible exact spec_berIs.mono _ _ _ _ _ _ _)
      | (with_reducible exact LeO.refl _)
      | (with_reducible exact LeO.none _)
      | (with_reducible refine LeO.ite ?_ ?_)
      | (with_reducible refine LeO.bind ?_ (fun _ => ?_))
      | exact spec_berCount.mono _ _ _ _ _ _ _
      | exact spec_berIs.mono _ _ _ _ _ _ _
      | exact LeO.none _
      | refine LeO.ite ?_ ?_
      | refine LeO.bind ?_ (fun _ => ?_)
set_option maxHeartbeats 8000000 in
set_option maxRecDepth 100000 in
theorem spec_BerIs.calls (k : Nat) (a0_0 : Int) (a0_1 : Bool) (a0_2 : Int) (a0_3 : ByteArray) (A0_4 : Option Addr) (c0_4 : Nat) (l0_4 : List (S26)) (r : Bool) (w : World) (hr0_4 : Kd.C k26 w A0_4 l0_4.length l0_4) (hc0_4 : l0_4.length ≤ c0_4) (h : spec_BerIs.f k a0_0 a0_1 a0_2 a0_3 l0_4 = some r) :
    Calls Tryd.prog 12 #[.agg #[.int .u8 a0_0, .bool a0_1, .int .u64 a0_2, .string a0_3, .slice A0_4 l0_4.length c0_4]] w fun e w' => e = .returned (.bool r) ∧ Below w.heap.size w w' := by
  have hu26 := Tryd.underlying26
  have HR0_4 := Aside0.mk hr0_4
  have HC0_4 := Aside0.mk hc0_4
  clear hr0_4 hc0_4
  have HB := Aside0.mk (Below.refl w.heap.size w)
  have H : ((spec_berCount.f k a0_0 a0_1 a0_2 a0_3 l0_4 40).bind fun t200 => (if t200 ≤ 40 then ((spec_berIs.f k a0_0 a0_1 a0_2 a0_3 l0_4 6).bind fun t201 => (some t201)) else (some false))) = some r := h
  clear h
  replace H := Option.bind_eq_some_iff.mp H
  obtain ⟨t200, A20, H⟩ := H
  replace H : (if t200 ≤ 40 then ((spec_berIs.f k a0_0 a0_1 a0_2 a0_3 l0_4 6).bind fun t201 => (some t201)) else (some false)) = some r := H
  have A2 := Aside0.mk A20
  clear A20
  by_cases c3 : t200 ≤ 40
  · rw [if_pos c3] at H
    have c3b0 : decide (t200 ≤ 40) = true := decide_eq_true c3
    clear c3
    replace H := Option.bind_eq_some_iff.mp H
    obtain ⟨t201, A40, H⟩ := H
    replace H : (some t201) = some r := H
    have A4 := Aside0.mk A40
    clear A40
    obtain rfl := Option.some.inj H
    go_enter Tryd.func12, Tryd.ntmps12
    go_wp2_with (first | ((with_reducible refine gate_dst (N := 1) rfl ?_); refine box_event ?hg (N := 1) ?hd (cs := #[.int .u8 a0_0, .bool a0_1, .int .u64 a0_2, .string a0_3, .slice A0_4 l0_4.length c0_4]) (t := 26) ?hr ?_; (case hd => rfl); (case hg => rfl); (case hr => first | (go_simp; done) | (go_simp; rfl)); intro gb199 hg w5 hbox hb; have n0_ := Aside0.mk (below_step (by repeat (first | (with_reducible first | exact HB.out | apply below_alloc | apply pw_below_drewN | apply below_drew1) | exact HB.out)) hb); have n1_ := Aside0.mk (hbox); have n2_ := Aside0.mk ((by rw [hg]; exact (below_size (by repeat (first | (with_reducible first | exact HB.out | apply below_alloc | apply pw_below_drewN | apply below_drew1) | exact HB.out))) : w.heap.size ≤ gb199)); have n3_ := Aside0.mk ((by rw [hg]; exact (below_size (by repeat (first | (with_reducible first | exact HB.out | apply below_alloc | apply pw_below_drewN | apply below_drew1) | exact HB.out))) : w.heap.size ≤ gb199)); clear HB; have HB := n0_; have BK199 := n1_; have GW199 := n2_; have GE199 := n3_; clear n0_ n1_ n2_ n3_; clear hb hbox hg; have hcz6_0 : w5.cell? ⟨gb199, 0, none⟩ = some (.int .u8 a0_0) := (blk_cell BK199.out 0).trans rfl; have hcz6_1 : w5.cell? ⟨gb199, 1, none⟩ = some (.bool a0_1) := (blk_cell BK199.out 1).trans rfl; have hcz6_2 : w5.cell? ⟨gb199, 2, none⟩ = some (.int .u64 a0_2) := (blk_cell BK199.out 2).trans rfl; have hcz6_3 : w5.cell? ⟨gb199, 3, none⟩ = some (.string a0_3) := (blk_cell BK199.out 3).trans rfl; have hcz6_4 : w5.cell? ⟨gb199, 4, none⟩ = some (.slice A0_4 l0_4.length c0_4) := (blk_cell BK199.out 4).trans rfl; have hfz6_0 := blk_frozen BK199.out 0; have hfz6_1 := blk_frozen BK199.out 1; have hfz6_2 := blk_frozen BK199.out 2; have hfz6_3 := blk_frozen BK199.out 3; have hfz6_4 := blk_frozen BK199.out 4) | ((with_reducible refine gate_callee (f := 26) rfl ?_); refine goesL_ (some 4) rfl rfl Tryd.func26 (by kernel_rfl) rfl #[.agg #[.int .u8 a0_0, .bool a0_1, .int .u64 a0_2, .string a0_3, .slice A0_4 l0_4.length c0_4], .int .i64 40] rfl (by (try simp only [List.map_toArray, List.map_cons, List.map_nil]); first | done | rfl | (simp only [List.length_drop, List.length_take]; rfl)) ?_; (with_reducible refine (spec_berCount.calls k a0_0 a0_1 a0_2 a0_3 _ _ l0_4 40 t200 _ ?side1 ?side2 A2.out).mono ?_); (case side1 => repeat (first | exact (Kd.C_below HR0_4.out HB.out) | (with_reducible refine Kd.C_alloc ?_ _) | (with_reducible refine Kd.C_drewN ?_ _) | (with_reducible refine Kd.C_drew ?_))); (case side2 => exact HC0_4.out); rintro e w7 ⟨rfl, hb⟩; refine ⟨_, rfl, ?_⟩; have n0_ := Aside0.mk (blk_below (g := gb199) (o := .cells #[.int .u8 a0_0, .bool a0_1, .int .u64 a0_2, .string a0_3, .slice A0_4 l0_4.length c0_4] 26 (0, 0)) (by (with_reducible repeat (first | refine blk_drewN ?_ _ | refine blk_drew ?_ | refine blk_alloc ?_ _)); exact BK199.out) hb); have n1_ := Aside0.mk (below_step (by repeat (first | (with_reducible first | exact HB.out | apply below_alloc | apply pw_below_drewN | apply below_drew1 | refine below_set ?_ GE199.out) | exact HB.out)) hb); clear BK199; clear HB; have BK199 := n0_; have HB := n1_; clear n0_ n1_; (try clear hb); (try clear hb2); (try clear hk); (try clear hi); have hcz8_0 : w7.cell? ⟨gb199, 0, none⟩ = some (.int .u8 a0_0) := (blk_cell BK199.out 0).trans rfl; have hcz8_1 : w7.cell? ⟨gb199, 1, none⟩ = some (.bool a0_1) := (blk_cell BK199.out 1).trans rfl; have hcz8_2 : w7.cell? ⟨gb199, 2, none⟩ = some (.int .u64 a0_2) := (blk_cell BK199.out 2).trans rfl; have hcz8_3 : w7.cell? ⟨gb199, 3, none⟩ = some (.string a0_3) := (blk_cell BK199.out 3).trans rfl; have hcz8_4 : w7.cell? ⟨gb199, 4, none⟩ = some (.slice A0_4 l0_4.length c0_4) := (blk_cell BK199.out 4).trans rfl; have hfz8_0 := blk_frozen BK199.out 0; have hfz8_1 := blk_frozen BK199.out 1; have hfz8_2 := blk_frozen BK199.out 2; have hfz8_3 := blk_frozen BK199.out 3; have hfz8_4 := blk_frozen BK199.out 4) | (go_at_call 27; (with_reducible refine (spec_berIs.calls k a0_0 a0_1 a0_2 a0_3 _ _ l0_4 6 t201 _ ?side1 ?side2 A4.out).mono ?_); (case side1 => repeat (first | exact (Kd.C_below HR0_4.out HB.out) | (with_reducible refine Kd.C_alloc ?_ _) | (with_reducible refine Kd.C_drewN ?_ _) | (with_reducible refine Kd.C_drew ?_))); (case side2 => exact HC0_4.out); rintro e w9 ⟨rfl, hb⟩; have n0_ := Aside0.mk (blk_below (g := gb199) (o := .cells #[.int .u8 a0_0, .bool a0_1, .int .u64 a0_2, .string a0_3, .slice A0_4 l0_4.length c0_4] 26 (0, 0)) (by (with_reducible repeat (first | refine blk_drewN ?_ _ | refine blk_drew ?_ | refine blk_alloc ?_ _)); exact BK199.out) hb); have n1_ := Aside0.mk (below_step (by repeat (first | (with_reducible first | exact HB.out | apply below_alloc | apply pw_below_drewN | apply below_drew1 | refine below_set ?_ GE199.out) | exact HB.out)) hb); clear BK199; clear HB; have BK199 := n0_; have HB := n1_; clear n0_ n1_; (try clear hb); (try clear hb2); (try clear hk); (try clear hi)))
    go_ret
    exact ⟨by first | rfl | (simp [errW_none, errW_some] <;> rfl) | (simp [*, errW_none, errW_some] <;> rfl), by repeat (first | (with_reducible first | exact HB.out | apply below_alloc | apply pw_below_drewN | apply below_drew1 | refine below_set ?_ GE199.out) | exact HB.out)⟩
  · rw [if_neg c3] at H
    have c3b0 : decide (t200 ≤ 40) = false := decide_eq_false c3
    clear c3
    obtain rfl := Option.some.inj H
    go_enter Tryd.func12, Tryd.ntmps12
    go_wp2_with (first | ((with_reducible refine gate_dst (N := 1) rfl ?_); refine box_event ?hg (N := 1) ?hd (cs := #[.int .u8 a0_0, .bool a0_1, .int .u64 a0_2, .string a0_3, .slice A0_4 l0_4.length c0_4]) (t := 26) ?hr ?_; (case hd => rfl); (case hg => rfl); (case hr => first | (go_simp; done) | (go_simp; rfl)); intro gb199 hg w10 hbox hb; have n0_ := Aside0.mk (below_step (by repeat (first | (with_reducible first | exact HB.out | apply below_alloc | apply pw_below_drewN | apply below_drew1) | exact HB.out)) hb); have n1_ := Aside0.mk (hbox); have n2_ := Aside0.mk ((by rw [hg]; exact (below_size (by repeat (first | (with_reducible first | exact HB.out | apply below_alloc | apply pw_below_drewN | apply below_drew1) | exact HB.out))) : w.heap.size ≤ gb199)); have n3_ := Aside0.mk ((by rw [hg]; exact (below_size (by repeat (first | (with_reducible first | exact HB.out | apply below_alloc | apply pw_below_drewN | apply below_drew1) | exact HB.out))) : w.heap.size ≤ gb199)); clear HB; have HB := n0_; have BK199 := n1_; have GW199 := n2_; have GE199 := n3_; clear n0_ n1_ n2_ n3_; clear hb hbox hg; have hcz11_0 : w10.cell? ⟨gb199, 0, none⟩ = some (.int .u8 a0_0) := (blk_cell BK199.out 0).trans rfl; have hcz11_1 : w10.cell? ⟨gb199, 1, none⟩ = some (.bool a0_1) := (blk_cell BK199.out 1).trans rfl; have hcz11_2 : w10.cell? ⟨gb199, 2, none⟩ = some (.int .u64 a0_2) := (blk_cell BK199.out 2).trans rfl; have hcz11_3 : w10.cell? ⟨gb199, 3, none⟩ = some (.string a0_3) := (blk_cell BK199.out 3).trans rfl; have hcz11_4 : w10.cell? ⟨gb199, 4, none⟩ = some (.slice A0_4 l0_4.length c0_4) := (blk_cell BK199.out 4).trans rfl; have hfz11_0 := blk_frozen BK199.out 0; have hfz11_1 := blk_frozen BK199.out 1; have hfz11_2 := blk_frozen BK199.out 2; have hfz11_3 := blk_frozen BK199.out 3; have hfz11_4 := blk_frozen BK199.out 4) | ((with_reducible refine gate_callee (f := 26) rfl ?_); refine goesL_ (some 4) rfl rfl Tryd.func26 (by kernel_rfl) rfl #[.agg #[.int .u8 a0_0, .bool a0_1, .int .u64 a0_2, .string a0_3, .slice A0_4 l0_4.length c0_4], .int .i64 40] rfl (by (try simp only [List.map_toArray, List.map_cons, List.map_nil]); first | done | rfl | (simp only [List.length_drop, List.length_take]; rfl)) ?_; (with_reducible refine (spec_berCount.calls k a0_0 a0_1 a0_2 a0_3 _ _ l0_4 40 t200 _ ?side1 ?side2 A2.out).mono ?_); (case side1 => repeat (first | exact (Kd.C_below HR0_4.out HB.out) | (with_reducible refine Kd.C_alloc ?_ _) | (with_reducible refine Kd.C_drewN ?_ _) | (with_reducible refine Kd.C_drew ?_))); (case side2 => exact HC0_4.out); rintro e w12 ⟨rfl, hb⟩; refine ⟨_, rfl, ?_⟩; have n0_ := Aside0.mk (blk_below (g := gb199) (o := .cells #[.int .u8 a0_0, .bool a0_1, .int .u64 a0_2, .string a0_3, .slice A0_4 l0_4.length c0_4] 26 (0, 0)) (by (with_reducible repeat (first | refine blk_drewN ?_ _ | refine blk_drew ?_ | refine blk_alloc ?_ _)); exact BK199.out) hb); have n1_ := Aside0.mk (below_step (by repeat (first | (with_reducible first | exact HB.out | apply below_alloc | apply pw_below_drewN | apply below_drew1 | refine below_set ?_ GE199.out) | exact HB.out)) hb); clear BK199; clear HB; have BK199 := n0_; have HB := n1_; clear n0_ n1_; (try clear hb); (try clear hb2); (try clear hk); (try clear hi)))
    go_ret
    exact ⟨by first | rfl | (simp [errW_none, errW_some] <;> rfl) | (simp [*, errW_none, errW_some] <;> rfl), by repeat (first | (with_reducible first | exact HB.out | apply below_alloc | apply pw_below_drewN | apply below_drew1 | refine below_set ?_ GE199.out) | exact HB.out)⟩

end Go.Proofs.YtdfehaonngccjaaDoor.PFnBerForms
