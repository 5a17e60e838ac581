-- PRINTED BY print.sh 35421559b90ae4d0a3588c463048766b98c2df88dd9212a6774a882060cdf62d: not written by this session
import Derived.Test.YtdfehaonngccjaaGreatDoorPFnResultToldx0
import Derived.Test.YtdfehaonngccjaaGreatDoorPFnResultToldx1
namespace Go.Proofs.YtdfehaonngccjaaGreatDoor.PFnResultTold
open Go.RowKit Go.Proofs.YtdfehaonngccjaaGreatDoorW.PrintWords Go.Proofs.YtdfehaonngccjaaGreatDoorW.PrintLast Go.Proofs.YtdfehaonngccjaaGreatDoorW.PrintMore
attribute [local go_sem] max2_int min2_int max_two min_two max_three min_three max_four min_four   -- for this text's walks alone
set_option linter.unusedVariables false
set_option linter.unusedSimpArgs false

/-! ### utf8_word_byte: function 76 -/
def utf8_word_byte.f (l0 : List Int) : Option (Int) := if 0 < (l0.length : Int) then (if 1 < (l0.length : Int) then (if 2 < (l0.length : Int) then (if 3 < (l0.length : Int) then (if 4 < (l0.length : Int) then (if 5 < (l0.length : Int) then (if 6 < (l0.length : Int) then (if 7 < (l0.length : Int) then (some (Go.bits .or .u64 (Go.bits .or .u64 (Go.bits .or .u64 (Go.bits .or .u64 (Go.bits .or .u64 (Go.bits .or .u64 (Go.bits .or .u64 (IntKind.u64.wrap (rd l0 0)) (IntKind.u64.wrap ((IntKind.u64.wrap (rd l0 1)) * 256))) (IntKind.u64.wrap ((IntKind.u64.wrap (rd l0 2)) * 65536))) (IntKind.u64.wrap ((IntKind.u64.wrap (rd l0 3)) * 16777216))) (IntKind.u64.wrap ((IntKind.u64.wrap (rd l0 4)) * 4294967296))) (IntKind.u64.wrap ((IntKind.u64.wrap (rd l0 5)) * 1099511627776))) (IntKind.u64.wrap ((IntKind.u64.wrap (rd l0 6)) * 281474976710656))) (IntKind.u64.wrap ((IntKind.u64.wrap (rd l0 7)) * 72057594037927936)))) else (none)) else (none)) else (none)) else (none)) else (none)) else (none)) else (none)) else (none)
set_option maxHeartbeats 8000000 in
set_option maxRecDepth 100000 in
theorem utf8_word_byte.calls (A0 : Option Addr) (c0 : Nat) (l0 : List Int) (r : Int) (w : World) (hr0 : Kd.C (Kd.int .u8) w A0 l0.length l0) (hc0 : l0.length ≤ c0) (h : utf8_word_byte.f l0 = some r) :
    Calls Tryz.prog 76 #[.slice A0 l0.length c0] w fun e w' => e = .returned (.int .u64 r) ∧ Drawn0 w w' := by
  have HR0 := Aside0.mk hr0
  have HC0 := Aside0.mk hc0
  clear hr0 hc0
  have H : (if 0 < (l0.length : Int) then (if 1 < (l0.length : Int) then (if 2 < (l0.length : Int) then (if 3 < (l0.length : Int) then (if 4 < (l0.length : Int) then (if 5 < (l0.length : Int) then (if 6 < (l0.length : Int) then (if 7 < (l0.length : Int) then (some (Go.bits .or .u64 (Go.bits .or .u64 (Go.bits .or .u64 (Go.bits .or .u64 (Go.bits .or .u64 (Go.bits .or .u64 (Go.bits .or .u64 (IntKind.u64.wrap (rd l0 0)) (IntKind.u64.wrap ((IntKind.u64.wrap (rd l0 1)) * 256))) (IntKind.u64.wrap ((IntKind.u64.wrap (rd l0 2)) * 65536))) (IntKind.u64.wrap ((IntKind.u64.wrap (rd l0 3)) * 16777216))) (IntKind.u64.wrap ((IntKind.u64.wrap (rd l0 4)) * 4294967296))) (IntKind.u64.wrap ((IntKind.u64.wrap (rd l0 5)) * 1099511627776))) (IntKind.u64.wrap ((IntKind.u64.wrap (rd l0 6)) * 281474976710656))) (IntKind.u64.wrap ((IntKind.u64.wrap (rd l0 7)) * 72057594037927936)))) else (none)) else (none)) else (none)) else (none)) else (none)) else (none)) else (none)) else (none)) = some r := h
  clear h
  by_cases c2 : 0 < (l0.length : Int)
  · rw [if_pos c2] at H
    have c2b0 : decide (0 < (l0.length : Int)) = true := decide_eq_true c2
    have c2b1 : decide (0 < l0.length) = true := decide_eq_true (by omega)
    clear c2
    by_cases c3 : 1 < (l0.length : Int)
    · rw [if_pos c3] at H
      have c3b0 : decide (1 < (l0.length : Int)) = true := decide_eq_true c3
      have c3b1 : decide (1 < l0.length) = true := decide_eq_true (by omega)
      clear c3
      by_cases c4 : 2 < (l0.length : Int)
      · rw [if_pos c4] at H
        have c4b0 : decide (2 < (l0.length : Int)) = true := decide_eq_true c4
        have c4b1 : decide (2 < l0.length) = true := decide_eq_true (by omega)
        clear c4
        by_cases c5 : 3 < (l0.length : Int)
        · rw [if_pos c5] at H
          have c5b0 : decide (3 < (l0.length : Int)) = true := decide_eq_true c5
          have c5b1 : decide (3 < l0.length) = true := decide_eq_true (by omega)
          clear c5
          by_cases c6 : 4 < (l0.length : Int)
          · rw [if_pos c6] at H
            have c6b0 : decide (4 < (l0.length : Int)) = true := decide_eq_true c6
            have c6b1 : decide (4 < l0.length) = true := decide_eq_true (by omega)
            clear c6
            by_cases c7 : 5 < (l0.length : Int)
            · rw [if_pos c7] at H
              have c7b0 : decide (5 < (l0.length : Int)) = true := decide_eq_true c7
              have c7b1 : decide (5 < l0.length) = true := decide_eq_true (by omega)
              clear c7
              by_cases c8 : 6 < (l0.length : Int)
              · rw [if_pos c8] at H
                have c8b0 : decide (6 < (l0.length : Int)) = true := decide_eq_true c8
                have c8b1 : decide (6 < l0.length) = true := decide_eq_true (by omega)
                clear c8
                by_cases c9 : 7 < (l0.length : Int)
                · rw [if_pos c9] at H
                  have c9b0 : decide (7 < (l0.length : Int)) = true := decide_eq_true c9
                  have c9b1 : decide (7 < l0.length) = true := decide_eq_true (by omega)
                  clear c9
                  obtain rfl := Option.some.inj H
                  have p171 : 0 ≤ (0 : Int) := (by omega)
                  have q171 : 0 < (l0.length : Int) := of_decide_eq_true (by first | (with_reducible assumption) | assumption)
                  obtain ⟨ad171, e171, hx171_0⟩ := Kd.at_int HR0.out 0 p171 q171
                  cases e171
                  have qi171 : (0 < l0.length) = True := eq_true (by omega)
                  (try rw [show ((0 : Int)).toNat = 0 from rfl] at hx171_0)
                  (try rw [Addr.add_zero'] at hx171_0)
                  replace p171 := eq_true p171
                  replace q171 := eq_true q171
                  have p172 : 0 ≤ (1 : Int) := (by omega)
                  have q172 : 1 < (l0.length : Int) := of_decide_eq_true (by first | (with_reducible assumption) | assumption)
                  obtain ⟨ad172, e172, hx172_0⟩ := Kd.at_int HR0.out 1 p172 q172
                  obtain rfl : ad171 = ad172 := (by injection e172)
                  (try simp only [show (1 : Int).toNat = 1 from rfl, Nat.reduceMul, Nat.reduceEqDiff, Go.Addr.add, ↓reduceIte] at hx172_0)
                  have qi172 : (1 < l0.length) = True := eq_true (by omega)
                  (try rw [show ((1 : Int)).toNat = 1 from rfl] at hx172_0)
                  replace p172 := eq_true p172
                  replace q172 := eq_true q172
                  have p173 : 0 ≤ (2 : Int) := (by omega)
                  have q173 : 2 < (l0.length : Int) := of_decide_eq_true (by first | (with_reducible assumption) | assumption)
                  obtain ⟨ad173, e173, hx173_0⟩ := Kd.at_int HR0.out 2 p173 q173
                  obtain rfl : ad171 = ad173 := (by injection e173)
                  (try simp only [show (2 : Int).toNat = 2 from rfl, Nat.reduceMul, Nat.reduceEqDiff, Go.Addr.add, ↓reduceIte] at hx173_0)
                  have qi173 : (2 < l0.length) = True := eq_true (by omega)
                  (try rw [show ((2 : Int)).toNat = 2 from rfl] at hx173_0)
                  replace p173 := eq_true p173
                  replace q173 := eq_true q173
                  have p174 : 0 ≤ (3 : Int) := (by omega)
                  have q174 : 3 < (l0.length : Int) := of_decide_eq_true (by first | (with_reducible assumption) | assumption)
                  obtain ⟨ad174, e174, hx174_0⟩ := Kd.at_int HR0.out 3 p174 q174
                  obtain rfl : ad171 = ad174 := (by injection e174)
                  (try simp only [show (3 : Int).toNat = 3 from rfl, Nat.reduceMul, Nat.reduceEqDiff, Go.Addr.add, ↓reduceIte] at hx174_0)
                  have qi174 : (3 < l0.length) = True := eq_true (by omega)
                  (try rw [show ((3 : Int)).toNat = 3 from rfl] at hx174_0)
                  replace p174 := eq_true p174
                  replace q174 := eq_true q174
                  have p175 : 0 ≤ (4 : Int) := (by omega)
                  have q175 : 4 < (l0.length : Int) := of_decide_eq_true (by first | (with_reducible assumption) | assumption)
                  obtain ⟨ad175, e175, hx175_0⟩ := Kd.at_int HR0.out 4 p175 q175
                  obtain rfl : ad171 = ad175 := (by injection e175)
                  (try simp only [show (4 : Int).toNat = 4 from rfl, Nat.reduceMul, Nat.reduceEqDiff, Go.Addr.add, ↓reduceIte] at hx175_0)
                  have qi175 : (4 < l0.length) = True := eq_true (by omega)
                  (try rw [show ((4 : Int)).toNat = 4 from rfl] at hx175_0)
                  replace p175 := eq_true p175
                  replace q175 := eq_true q175
                  have p176 : 0 ≤ (5 : Int) := (by omega)
                  have q176 : 5 < (l0.length : Int) := of_decide_eq_true (by first | (with_reducible assumption) | assumption)
                  obtain ⟨ad176, e176, hx176_0⟩ := Kd.at_int HR0.out 5 p176 q176
                  obtain rfl : ad171 = ad176 := (by injection e176)
                  (try simp only [show (5 : Int).toNat = 5 from rfl, Nat.reduceMul, Nat.reduceEqDiff, Go.Addr.add, ↓reduceIte] at hx176_0)
                  have qi176 : (5 < l0.length) = True := eq_true (by omega)
                  (try rw [show ((5 : Int)).toNat = 5 from rfl] at hx176_0)
                  replace p176 := eq_true p176
                  replace q176 := eq_true q176
                  have p177 : 0 ≤ (6 : Int) := (by omega)
                  have q177 : 6 < (l0.length : Int) := of_decide_eq_true (by first | (with_reducible assumption) | assumption)
                  obtain ⟨ad177, e177, hx177_0⟩ := Kd.at_int HR0.out 6 p177 q177
                  obtain rfl : ad171 = ad177 := (by injection e177)
                  (try simp only [show (6 : Int).toNat = 6 from rfl, Nat.reduceMul, Nat.reduceEqDiff, Go.Addr.add, ↓reduceIte] at hx177_0)
                  have qi177 : (6 < l0.length) = True := eq_true (by omega)
                  (try rw [show ((6 : Int)).toNat = 6 from rfl] at hx177_0)
                  replace p177 := eq_true p177
                  replace q177 := eq_true q177
                  have p178 : 0 ≤ (7 : Int) := (by omega)
                  have q178 : 7 < (l0.length : Int) := of_decide_eq_true (by first | (with_reducible assumption) | assumption)
                  obtain ⟨ad178, e178, hx178_0⟩ := Kd.at_int HR0.out 7 p178 q178
                  obtain rfl : ad171 = ad178 := (by injection e178)
                  (try simp only [show (7 : Int).toNat = 7 from rfl, Nat.reduceMul, Nat.reduceEqDiff, Go.Addr.add, ↓reduceIte] at hx178_0)
                  have qi178 : (7 < l0.length) = True := eq_true (by omega)
                  (try rw [show ((7 : Int)).toNat = 7 from rfl] at hx178_0)
                  replace p178 := eq_true p178
                  replace q178 := eq_true q178
                  go_enter Tryz.func76, Tryz.ntmps76
                  go_wp2
                  repeat (go_quiet (fail); try go_wp2)
                  go_ret
                  exact ⟨by first | rfl | (simp; done) | (simp [*]; done), by repeat (first | exact Drawn0.refl _ | apply Drawn0.step)⟩
                · rw [if_neg c9] at H
                  exact absurd H (by simp)
              · rw [if_neg c8] at H
                exact absurd H (by simp)
            · rw [if_neg c7] at H
              exact absurd H (by simp)
          · rw [if_neg c6] at H
            exact absurd H (by simp)
        · rw [if_neg c5] at H
          exact absurd H (by simp)
      · rw [if_neg c4] at H
        exact absurd H (by simp)
    · rw [if_neg c3] at H
      exact absurd H (by simp)
  · rw [if_neg c2] at H
    exact absurd H (by simp)

-- NOT PRINTED: function 59 (utf8_Valid)

-- NOT PRINTED: function 60 (asn1ber_parseRelativeObjectIdentifier)

-- NOT PRINTED: function 61 (asn1ber_isPrintableString)

-- NOT PRINTED: function 40 (asn1ber_readPacket)

-- NOT PRINTED: function 23 (asn1ber_ReadPacket)

-- NOT PRINTED: function 24 (impl_back)

/-! ### bytes_Reader_Len: function 25 -/
def bytes_Reader_Len.f (s0_0 : List Int) (s0_1 : Int) (s0_2 : Int) : Option (Int × Int × Int) := if s0_1 ≥ (s0_0.length : Int) then (some (0, s0_1, s0_2)) else (some (wrap64 ((s0_0.length : Int) - s0_1), s0_1, s0_2))
set_option maxHeartbeats 8000000 in
set_option maxRecDepth 100000 in
theorem bytes_Reader_Len.calls (g : Nat) (s0_0 : List Int) (s0_1 : Int) (s0_2 : Int) (r1 : Int) (r2 : Int) (r3 : Int) (w0 w : World) (hI : IsS99 w0 w g s0_0 s0_1 s0_2) (hB : Below w0.heap.size w0 w) (h : bytes_Reader_Len.f s0_0 s0_1 s0_2 = some (r1, r2, r3)) :
    Calls Tryz.prog 25 #[.pointer (some ⟨g, 0, none⟩)] w fun e w' => e = .returned (.int .i64 r1) ∧ IsS99 w0 w' g s0_0 r2 r3 ∧ Below w0.heap.size w0 w' ∧ KeepBut w w' g none := by
  have HI0 := Aside0.mk hI
  have HK := Aside0.mk (KeepBut.refl w g none)
  have HL := Aside0.mk hB.size
  clear hI
  have HW0 := Aside0.mk hB.size
  have HB := Aside0.mk hB
  clear hB
  have H : (if s0_1 ≥ (s0_0.length : Int) then (some (0, s0_1, s0_2)) else (some (wrap64 ((s0_0.length : Int) - s0_1), s0_1, s0_2))) = some (r1, r2, r3) := h
  clear h
  by_cases c2 : s0_1 ≥ (s0_0.length : Int)
  · rw [if_pos c2] at H
    have c2b0 : decide ((s0_0.length : Int) ≤ s0_1) = true := decide_eq_true c2
    clear c2
    simp only [Option.some.injEq, Prod.mk.injEq] at H
    obtain ⟨rfl, rfl, rfl⟩ := H
    obtain ⟨ASz3_0, cSz3_0, HGz3, hgz3, HSz3_0⟩ := HI0.out
    have hcz3_0 := cellS99_0 HGz3
    have hcz3_1 := cellS99_1 HGz3
    have hcz3_2 := cellS99_2 HGz3
    have hfz3_1 := blk_frozen HGz3 1
    have hfz3_2 := blk_frozen HGz3 2
    clear HGz3 hgz3
    go_enter Tryz.func25, Tryz.ntmps25
    go_wp2
    repeat (go_quiet (fail); try go_wp2)
    go_ret
    exact ⟨by first | rfl | (simp [errW_none, errW_some] <;> rfl) | (simp [*, errW_none, errW_some] <;> rfl), by repeat (first | (with_reducible first | exact HI0.out | apply IsS99.alloc | apply IsS99.drewN | apply IsS99.drew | apply IsS99.set_1 | apply IsS99.set_2) | exact HI0.out), by repeat (first | (with_reducible first | exact HB.out | apply below_alloc | apply pw_below_drewN | apply below_drew1 | refine below_set ?_ (IsS99.ge HI0.out)) | exact HB.out), by repeat (first | (with_reducible first | exact HK.out | apply KeepBut.set_ | apply keep_drewN | apply keep_drew | apply keep_alloc) | exact HK.out)⟩
  · rw [if_neg c2] at H
    have c2b0 : decide ((s0_0.length : Int) ≤ s0_1) = false := decide_eq_false c2
    clear c2
    simp only [Option.some.injEq, Prod.mk.injEq] at H
    obtain ⟨rfl, rfl, rfl⟩ := H
    obtain ⟨ASz4_0, cSz4_0, HGz4, hgz4, HSz4_0⟩ := HI0.out
    have hcz4_0 := cellS99_0 HGz4
    have hcz4_1 := cellS99_1 HGz4
    have hcz4_2 := cellS99_2 HGz4
    have hfz4_1 := blk_frozen HGz4 1
    have hfz4_2 := blk_frozen HGz4 2
    clear HGz4 hgz4
    go_enter Tryz.func25, Tryz.ntmps25
    go_wp2
    repeat (go_quiet (fail); try go_wp2)
    go_ret
    exact ⟨by first | rfl | (simp [errW_none, errW_some] <;> rfl) | (simp [*, errW_none, errW_some] <;> rfl), by repeat (first | (with_reducible first | exact HI0.out | apply IsS99.alloc | apply IsS99.drewN | apply IsS99.drew | apply IsS99.set_1 | apply IsS99.set_2) | exact HI0.out), by repeat (first | (with_reducible first | exact HB.out | apply below_alloc | apply pw_below_drewN | apply below_drew1 | refine below_set ?_ (IsS99.ge HI0.out)) | exact HB.out), by repeat (first | (with_reducible first | exact HK.out | apply KeepBut.set_ | apply keep_drewN | apply keep_drew | apply keep_alloc) | exact HK.out)⟩

-- NOT PRINTED: function 14 (impl_BerRead)

-- NOT PRINTED: function 7 (laws_berAwake)

/-! ### spec_LdapKinds: function 8 -/
def spec_LdapKinds.f  : Option (List Int) := some (([1, 5, 7, 9, 11, 13, 15, 24] : List Int))
set_option maxHeartbeats 8000000 in
set_option maxRecDepth 100000 in
theorem spec_LdapKinds.calls  (r : List Int) (w : World) (h : spec_LdapKinds.f  = some r) :
    Calls Tryz.prog 8 #[] w fun e w' => ∃ v0_ : Value, e = .returned (v0_) ∧ Kd.R (Kd.int .u64) 32 w' w.heap.size (fun _ => True) v0_ r ∧ Below w.heap.size w w' := by
  have HB := Aside0.mk (Below.refl w.heap.size w)
  have H : (some (([1, 5, 7, 9, 11, 13, 15, 24] : List Int))) = some r := h
  clear h
  obtain ⟨y180, hy180⟩ : ∃ y_ : List Int, y_ = (([1, 5, 7, 9, 11, 13, 15, 24] : List Int)) := ⟨_, rfl⟩
  replace H : (some y180) = some r := by first | (rw [hy180]; with_reducible exact H) | (have H2_ := (Option.bind_some _ _).symm.trans H; rw [hy180]; with_reducible exact H2_) | (have H2_ := (Option.bind_some _ _).symm.trans H; with_reducible exact H2_) | with_reducible exact H | (rw [hy180]; exact H) | exact H
  have Ny180 := Aside0.mk hy180
  clear hy180
  obtain rfl := Option.some.inj H
  go_enter Tryz.func8, Tryz.ntmps8
  go_wp2_with (first | ((with_reducible refine gate_dst (N := 1) rfl ?_); refine Kd.R_lit (Kd.int .u64) _ 32 ?hg (N := 1) ?hd (xs := ([1, 5, 7, 9, 11, 13, 15, 24] : List Int)) (inner := [.int .u64 1, .int .u64 5, .int .u64 7, .int .u64 9, .int .u64 11, .int .u64 13, .int .u64 15, .int .u64 24]) (ok := fun _ => True) (okp := fun _ => True) ?hr ?hp (fun _ hk => hk) trivial (Below.refl _ _) (Nat.le_refl _) (by simp) ?_; (case hd => rfl); (case hg => rfl); (case hr => first | (go_simp; done) | (go_simp; rfl)); (case hp => exact (Reps.one (show Kd.M (Kd.int .u64) _ _ _ 1 [.int .u64 1] from rfl) (Reps.one (show Kd.M (Kd.int .u64) _ _ _ 5 [.int .u64 5] from rfl) (Reps.one (show Kd.M (Kd.int .u64) _ _ _ 7 [.int .u64 7] from rfl) (Reps.one (show Kd.M (Kd.int .u64) _ _ _ 9 [.int .u64 9] from rfl) (Reps.one (show Kd.M (Kd.int .u64) _ _ _ 11 [.int .u64 11] from rfl) (Reps.one (show Kd.M (Kd.int .u64) _ _ _ 13 [.int .u64 13] from rfl) (Reps.one (show Kd.M (Kd.int .u64) _ _ _ 15 [.int .u64 15] from rfl) (Reps.one (show Kd.M (Kd.int .u64) _ _ _ 24 [.int .u64 24] from rfl) (Reps.none _ _)))))))))); intro v181 w1 ho2 hb hg_ hnew_; clear hg_ hnew_; (first | rw [← Ny180.out] at ho2 | (simp only [Int.reduceToNat] at ho2; rw [← Ny180.out] at ho2)); have n0_ := Aside0.mk (Kd.R_lower ho2 (below_size (by repeat (first | (with_reducible first | exact HB.out | apply below_alloc | apply pw_below_drewN | apply below_drew1) | exact HB.out)))); have n1_ := Aside0.mk (below_step (by repeat (first | (with_reducible first | exact HB.out | apply below_alloc | apply pw_below_drewN | apply below_drew1) | exact HB.out)) hb); clear HB; have HO182 := n0_; have HB := n1_; clear n0_ n1_; clear hb ho2))
  go_ret
  exact ⟨_, by first | rfl | (simp [errW_none, errW_some] <;> rfl) | (simp [*, errW_none, errW_some] <;> rfl), by (with_reducible repeat (first | apply Kd.R_alloc | apply Kd.R_drewN | apply Kd.R_drew)); exact HO182.out, by repeat (first | (with_reducible first | exact HB.out | apply below_alloc | apply pw_below_drewN | apply below_drew1) | exact HB.out)⟩

/-! ### spec_BerTag: function 42 -/
mutual
def spec_BerTag.j0 : Nat → Int → Int → Bool → Int → ByteArray → List (S35) → Option (ByteArray)
  | 0, _, _, _, _, _, _ => none
  | k + 1, x3, x184000, x184001, x184002, x184003, x184004 => if x184002 < 31 then (some (strOfNums (([Go.bits .or .u8 x3 ((x184002) % 256)] : List Int)))) else (spec_BerTag.l0 k x3 (strOfNums (([(Go.bits .and .u64 x184002 127) % 256] : List Int))) (x184002 / 128))
def spec_BerTag.l0 : Nat → Int → ByteArray → Int → Option (ByteArray)
  | 0, _, _, _ => none
  | k + 1, x3, x4, x5 => if x5 > 0 then ((some (([Go.bits .or .u8 ((Go.bits .and .u64 x5 127) % 256) 128] : List Int) : List Int)).bind fun y190 => (if (strOfNums y190).size + x4.size ≤ 9223372036854775807 then (spec_BerTag.l0 k x3 ((strOfNums y190) ++ x4) (x5 / 128)) else (none))) else ((some (([Go.bits .or .u8 x3 31] : List Int) : List Int)).bind fun y193 => (if (strOfNums y193).size + x4.size ≤ 9223372036854775807 then (some ((strOfNums y193) ++ x4)) else (none)))
end
def spec_BerTag.f (k : Nat) (a0_0 : Int) (a0_1 : Bool) (a0_2 : Int) (a0_3 : ByteArray) (l0_4 : List (S35)) : Option (ByteArray) := if a0_1 = true then (spec_BerTag.j0 k (Go.bits .or .u8 ((a0_0 * 64) % 256) 32) a0_0 a0_1 a0_2 a0_3 l0_4) else (spec_BerTag.j0 k ((a0_0 * 64) % 256) a0_0 a0_1 a0_2 a0_3 l0_4)
theorem spec_BerTag.mono_l : ∀ k, (∀ y0 y1 y2 y3 y4 y5, LeO (spec_BerTag.j0 k y0 y1 y2 y3 y4 y5) (spec_BerTag.j0 (k + 1) y0 y1 y2 y3 y4 y5)) ∧ (∀ y0 y1 y2, LeO (spec_BerTag.l0 k y0 y1 y2) (spec_BerTag.l0 (k + 1) y0 y1 y2))
  | 0 => ⟨fun _ _ _ _ _ _ r h => by simp [spec_BerTag.j0] at h, fun _ _ _ r h => by simp [spec_BerTag.l0] at h⟩
  | k + 1 => by
    obtain ⟨ih0, ih1⟩ := spec_BerTag.mono_l k
    refine ⟨?_, ?_⟩
    · intro y0 y1 y2 y3 y4 y5
      unfold spec_BerTag.j0
      repeat' first
      | (with_reducible exact ih0 _ _ _ _ _ _)
      | (with_reducible exact ih1 _ _ _)
      | (with_reducible exact LeO.refl _)
      | (with_reducible exact LeO.none _)
      | (with_reducible refine LeO.ite ?_ ?_)
      | (with_reducible refine LeO.bind ?_ (fun _ => ?_))
      | exact ih0 _ _ _ _ _ _
      | exact ih1 _ _ _
      | exact LeO.none _
      | refine LeO.ite ?_ ?_
      | refine LeO.bind ?_ (fun _ => ?_)
    · intro y0 y1 y2
      unfold spec_BerTag.l0
      repeat' first
      | (with_reducible exact ih0 _ _ _ _ _ _)
      | (with_reducible exact ih1 _ _ _)
      | (with_reducible exact LeO.refl _)
      | (with_reducible exact LeO.none _)
      | (with_reducible refine LeO.ite ?_ ?_)
      | (with_reducible refine LeO.bind ?_ (fun _ => ?_))
      | exact ih0 _ _ _ _ _ _
      | exact ih1 _ _ _
      | exact LeO.none _
      | refine LeO.ite ?_ ?_
      | refine LeO.bind ?_ (fun _ => ?_)
theorem spec_BerTag.mono : ∀ a0 a1 a2 a3 a4 k, LeO (spec_BerTag.f k a0 a1 a2 a3 a4) (spec_BerTag.f (k + 1) a0 a1 a2 a3 a4) := by
  intro a0 a1 a2 a3 a4 k
  obtain ⟨ih0, ih1⟩ := spec_BerTag.mono_l k
  unfold spec_BerTag.f
  repeat' first
      | (with_reducible exact ih0 _ _ _ _ _ _)
      | (with_reducible exact ih1 _ _ _)
      | (with_reducible exact LeO.refl _)
      | (with_reducible exact LeO.none _)
      | (with_reducible refine LeO.ite ?_ ?_)
      | (with_reducible refine LeO.bind ?_ (fun _ => ?_))
      | exact ih0 _ _ _ _ _ _
      | exact ih1 _ _ _
      | exact LeO.none _
      | refine LeO.ite ?_ ?_
      | refine LeO.bind ?_ (fun _ => ?_)
set_option maxHeartbeats 8000000 in
set_option maxRecDepth 100000 in
theorem spec_BerTag.calls (k : Nat) (a0_0 : Int) (a0_1 : Bool) (a0_2 : Int) (a0_3 : ByteArray) (A0_4 : Option Addr) (c0_4 : Nat) (l0_4 : List (S35)) (r : ByteArray) (w : World) (hr0_4 : Kd.C k35 w A0_4 l0_4.length l0_4) (hc0_4 : l0_4.length ≤ c0_4) (h : spec_BerTag.f k a0_0 a0_1 a0_2 a0_3 l0_4 = some r) :
    Calls Tryz.prog 42 #[.agg #[.int .u8 a0_0, .bool a0_1, .int .u64 a0_2, .string a0_3, .slice A0_4 l0_4.length c0_4]] w fun e w' => e = .returned (.string r) ∧ Below w.heap.size w w' := by
  have hu35 := Tryz.underlying35
  have HR0_4 := Aside0.mk hr0_4
  have HC0_4 := Aside0.mk hc0_4
  clear hr0_4 hc0_4
  have HB := Aside0.mk (Below.refl w.heap.size w)
  have H : (if a0_1 = true then (spec_BerTag.j0 k (Go.bits .or .u8 ((a0_0 * 64) % 256) 32) a0_0 a0_1 a0_2 a0_3 l0_4) else (spec_BerTag.j0 k ((a0_0 * 64) % 256) a0_0 a0_1 a0_2 a0_3 l0_4)) = some r := h
  clear h
  have HC2 := Aside0.mk H
  clear H
  go_enter Tryz.func42, Tryz.ntmps42
  go_upto_if 10 with (first | ((with_reducible refine gate_dst (N := 1) rfl ?_); refine box_event ?hg (N := 1) ?hd (cs := #[.int .u8 a0_0, .bool a0_1, .int .u64 a0_2, .string a0_3, .slice A0_4 l0_4.length c0_4]) (t := 35) ?hr ?_; (case hd => rfl); (case hg => rfl); (case hr => first | (go_simp; done) | (go_simp; rfl)); intro gb183 hg w3 hbox hb; have n0_ := Aside0.mk (below_step (by repeat (first | (with_reducible first | exact HB.out | apply below_alloc | apply pw_below_drewN | apply below_drew1) | exact HB.out)) hb); have n1_ := Aside0.mk (hbox); have n2_ := Aside0.mk ((by rw [hg]; exact (below_size (by repeat (first | (with_reducible first | exact HB.out | apply below_alloc | apply pw_below_drewN | apply below_drew1) | exact HB.out))) : w.heap.size ≤ gb183)); have n3_ := Aside0.mk ((by rw [hg]; exact (below_size (by repeat (first | (with_reducible first | exact HB.out | apply below_alloc | apply pw_below_drewN | apply below_drew1) | exact HB.out))) : w.heap.size ≤ gb183)); clear HB; have HB := n0_; have BK183 := n1_; have GW183 := n2_; have GE183 := n3_; clear n0_ n1_ n2_ n3_; clear hb hbox hg; have hcz4_0 : w3.cell? ⟨gb183, 0, none⟩ = some (.int .u8 a0_0) := (blk_cell BK183.out 0).trans rfl; have hcz4_1 : w3.cell? ⟨gb183, 1, none⟩ = some (.bool a0_1) := (blk_cell BK183.out 1).trans rfl; have hcz4_2 : w3.cell? ⟨gb183, 2, none⟩ = some (.int .u64 a0_2) := (blk_cell BK183.out 2).trans rfl; have hcz4_3 : w3.cell? ⟨gb183, 3, none⟩ = some (.string a0_3) := (blk_cell BK183.out 3).trans rfl; have hcz4_4 : w3.cell? ⟨gb183, 4, none⟩ = some (.slice A0_4 l0_4.length c0_4) := (blk_cell BK183.out 4).trans rfl; have hfz4_0 := blk_frozen BK183.out 0; have hfz4_1 := blk_frozen BK183.out 1; have hfz4_2 := blk_frozen BK183.out 2; have hfz4_3 := blk_frozen BK183.out 3; have hfz4_4 := blk_frozen BK183.out 4))
  (try simp only [Act.put, List.setIfInBounds_toArray, List.set_cons_zero, List.set_cons_succ])
  go_cut [3] (fun v3 wc => ∃ (kq : Nat) (x3_1 : Int), v3 = .int .u8 x3_1 ∧ Aside0 (spec_BerTag.j0 kq x3_1 a0_0 a0_1 a0_2 a0_3 l0_4 = some r) ∧ Aside0 (kq ≤ k) ∧ Aside0 (wc.heap[gb183]? = some (.cells #[.int .u8 a0_0, .bool a0_1, .int .u64 a0_2, .string a0_3, (.slice A0_4 l0_4.length c0_4)] 35 (0, 0))) ∧ Aside0 (Below w.heap.size w wc))
  case first =>
    have H := HC2.out
    clear HC2
    by_cases c5 : a0_1 = true
    · subst c5
      have H1 : (spec_BerTag.j0 k (Go.bits .or .u8 ((a0_0 * 64) % 256) 32) a0_0 true a0_2 a0_3 l0_4) = some r := by rw [if_pos rfl] at H; exact H
      clear H
      have H := H1
      clear H1
      have H' := Aside0.mk H
      clear H
      go_wp2
      go_meet
      case rel => exact ⟨_, (Go.bits .or .u8 ((a0_0 * 64) % 256) 32), (by first | rfl | (simp; done) | (simp [*]; done)), H', ⟨by first | omega | exact Nat.le_refl _⟩, ⟨by (with_reducible repeat (first | refine blk_drewN ?_ _ | refine blk_drew ?_ | refine blk_alloc ?_ _)); exact BK183.out⟩, ⟨by repeat (first | (with_reducible first | exact HB.out | apply below_alloc | apply pw_below_drewN | apply below_drew1 | refine below_set ?_ GE183.out) | exact HB.out)⟩⟩
    · replace c5 := Bool.eq_false_iff.mpr c5
      subst c5
      have H1 : (spec_BerTag.j0 k ((a0_0 * 64) % 256) a0_0 false a0_2 a0_3 l0_4) = some r := by rw [if_neg (show ¬ (false = true) by decide)] at H; exact H
      clear H
      have H := H1
      clear H1
      have H' := Aside0.mk H
      clear H
      go_wp2
      go_meet
      case rel => exact ⟨_, ((a0_0 * 64) % 256), (by first | rfl | (simp; done) | (simp [*]; done)), H', ⟨by first | omega | exact Nat.le_refl _⟩, ⟨by (with_reducible repeat (first | refine blk_drewN ?_ _ | refine blk_drew ?_ | refine blk_alloc ?_ _)); exact BK183.out⟩, ⟨by repeat (first | (with_reducible first | exact HB.out | apply below_alloc | apply pw_below_drewN | apply below_drew1 | refine below_set ?_ GE183.out) | exact HB.out)⟩⟩
  case rest =>
    clear HC2
    try clear p2
    try clear c4
    try clear c5
    try clear hcz4_0
    try clear hcz4_1
    try clear hcz4_2
    try clear hcz4_3
    try clear hcz4_4
    try clear hfz4_0
    try clear hfz4_1
    try clear hfz4_2
    try clear hfz4_3
    try clear hfz4_4
    obtain ⟨kq, x3_1, rfl, HA, HJ1, BK183, HB⟩ := hcut
    cases kq with
    | zero => exact absurd HA.out (by simp [spec_BerTag.j0])
    | succ kj1 =>
      have H := HA.out
      clear HA
      simp only [spec_BerTag.j0] at H
      by_cases c6 : a0_2 < 31
      · rw [if_pos c6] at H
        have c6b0 : decide (a0_2 < 31) = true := decide_eq_true c6
        clear c6
        obtain ⟨y184, hy184⟩ : ∃ y_ : List Int, y_ = (([Go.bits .or .u8 x3_1 ((a0_2) % 256)] : List Int)) := ⟨_, rfl⟩
        replace H : (some (strOfNums y184)) = some r := by first | (rw [hy184]; with_reducible exact H) | (have H2_ := (Option.bind_some _ _).symm.trans H; rw [hy184]; with_reducible exact H2_) | (have H2_ := (Option.bind_some _ _).symm.trans H; with_reducible exact H2_) | with_reducible exact H | (rw [hy184]; exact H) | exact H
        have Ny184 := Aside0.mk hy184
        clear hy184
        obtain rfl := Option.some.inj H
        have hcz7_0 : wc.cell? ⟨gb183, 0, none⟩ = some (.int .u8 a0_0) := (blk_cell BK183.out 0).trans rfl
        have hcz7_1 : wc.cell? ⟨gb183, 1, none⟩ = some (.bool a0_1) := (blk_cell BK183.out 1).trans rfl
        have hcz7_2 : wc.cell? ⟨gb183, 2, none⟩ = some (.int .u64 a0_2) := (blk_cell BK183.out 2).trans rfl
        have hcz7_3 : wc.cell? ⟨gb183, 3, none⟩ = some (.string a0_3) := (blk_cell BK183.out 3).trans rfl
        have hcz7_4 : wc.cell? ⟨gb183, 4, none⟩ = some (.slice A0_4 l0_4.length c0_4) := (blk_cell BK183.out 4).trans rfl
        have hfz7_0 := blk_frozen BK183.out 0
        have hfz7_1 := blk_frozen BK183.out 1
        have hfz7_2 := blk_frozen BK183.out 2
        have hfz7_3 := blk_frozen BK183.out 3
        have hfz7_4 := blk_frozen BK183.out 4
        go_wp2_with (first | ((with_reducible refine gate_dst (N := 21) rfl ?_); refine Kd.R_lit (Kd.int .u8) _ 5 ?hg (N := 21) ?hd (xs := ([Go.bits .or .u8 x3_1 ((a0_2) % 256)] : List Int)) (inner := [.int .u8 (Go.bits .or .u8 x3_1 ((a0_2) % 256))]) (ok := fun _ => True) (okp := fun _ => True) ?hr ?hp (fun _ hk => hk) trivial (Below.refl _ _) (Nat.le_refl _) (by simp) ?_; (case hd => rfl); (case hg => rfl); (case hr => first | (go_simp; done) | (go_simp; rfl)); (case hp => exact (Reps.one (show Kd.M (Kd.int .u8) _ _ _ (Go.bits .or .u8 x3_1 ((a0_2) % 256)) [.int .u8 (Go.bits .or .u8 x3_1 ((a0_2) % 256))] from rfl) (Reps.none _ _))); intro v185 w8 ho9 hb hg_ hnew_; clear hg_ hnew_; (first | rw [← Ny184.out] at ho9 | (simp only [Int.reduceToNat] at ho9; rw [← Ny184.out] at ho9)); have n0_ := Aside0.mk (Kd.R_lower ho9 (below_size (by repeat (first | (with_reducible first | exact HB.out | apply below_alloc | apply pw_below_drewN | apply below_drew1 | refine below_set ?_ GE183.out) | exact HB.out)))); have n1_ := Aside0.mk (blk_below (g := gb183) (o := .cells #[.int .u8 a0_0, .bool a0_1, .int .u64 a0_2, .string a0_3, .slice A0_4 l0_4.length c0_4] 35 (0, 0)) (by (with_reducible repeat (first | refine blk_drewN ?_ _ | refine blk_drew ?_ | refine blk_alloc ?_ _)); exact BK183.out) hb); have n2_ := Aside0.mk (below_step (by repeat (first | (with_reducible first | exact HB.out | apply below_alloc | apply pw_below_drewN | apply below_drew1 | refine below_set ?_ GE183.out) | exact HB.out)) hb); clear BK183; clear HB; have HO186 := n0_; have BK183 := n1_; have HB := n2_; clear n0_ n1_ n2_; clear hb ho9; have hcv10 := own_string (P := Tryz.prog) Tryz.underlying25 Tryz.underlying5 Tryz.underlying9 (Kd.own_of_R HO186.out)))
        go_ret
        exact ⟨by first | rfl | (simp [errW_none, errW_some] <;> rfl) | (simp [*, errW_none, errW_some] <;> rfl), by repeat (first | (with_reducible first | exact HB.out | apply below_alloc | apply pw_below_drewN | apply below_drew1 | refine below_set ?_ GE183.out) | exact HB.out)⟩
      · rw [if_neg c6] at H
        have c6b0 : decide (a0_2 < 31) = false := decide_eq_false c6
        clear c6
        obtain ⟨y187, hy187⟩ : ∃ y_ : List Int, y_ = (([(Go.bits .and .u64 a0_2 127) % 256] : List Int)) := ⟨_, rfl⟩
        replace H : (spec_BerTag.l0 kj1 x3_1 (strOfNums y187) (a0_2 / 128)) = some r := by first | (rw [hy187]; with_reducible exact H) | (have H2_ := (Option.bind_some _ _).symm.trans H; rw [hy187]; with_reducible exact H2_) | (have H2_ := (Option.bind_some _ _).symm.trans H; with_reducible exact H2_) | with_reducible exact H | (rw [hy187]; exact H) | exact H
        have Ny187 := Aside0.mk hy187
        clear hy187
        have H' := Aside0.mk H
        clear H
        have hcz11_0 : wc.cell? ⟨gb183, 0, none⟩ = some (.int .u8 a0_0) := (blk_cell BK183.out 0).trans rfl
        have hcz11_1 : wc.cell? ⟨gb183, 1, none⟩ = some (.bool a0_1) := (blk_cell BK183.out 1).trans rfl
        have hcz11_2 : wc.cell? ⟨gb183, 2, none⟩ = some (.int .u64 a0_2) := (blk_cell BK183.out 2).trans rfl
        have hcz11_3 : wc.cell? ⟨gb183, 3, none⟩ = some (.string a0_3) := (blk_cell BK183.out 3).trans rfl
        have hcz11_4 : wc.cell? ⟨gb183, 4, none⟩ = some (.slice A0_4 l0_4.length c0_4) := (blk_cell BK183.out 4).trans rfl
        have hfz11_0 := blk_frozen BK183.out 0
        have hfz11_1 := blk_frozen BK183.out 1
        have hfz11_2 := blk_frozen BK183.out 2
        have hfz11_3 := blk_frozen BK183.out 3
        have hfz11_4 := blk_frozen BK183.out 4
        go_wp2_with (first | ((with_reducible refine gate_dst (N := 27) rfl ?_); refine Kd.R_lit (Kd.int .u8) _ 5 ?hg (N := 27) ?hd (xs := ([(Go.bits .and .u64 a0_2 127) % 256] : List Int)) (inner := [.int .u8 ((Go.bits .and .u64 a0_2 127) % 256)]) (ok := fun _ => True) (okp := fun _ => True) ?hr ?hp (fun _ hk => hk) trivial (Below.refl _ _) (Nat.le_refl _) (by simp) ?_; (case hd => rfl); (case hg => rfl); (case hr => first | (go_simp; done) | (go_simp; rfl)); (case hp => exact (Reps.one (show Kd.M (Kd.int .u8) _ _ _ ((Go.bits .and .u64 a0_2 127) % 256) [.int .u8 ((Go.bits .and .u64 a0_2 127) % 256)] from rfl) (Reps.none _ _))); intro v188 w12 ho13 hb hg_ hnew_; clear hg_ hnew_; (first | rw [← Ny187.out] at ho13 | (simp only [Int.reduceToNat] at ho13; rw [← Ny187.out] at ho13)); have n0_ := Aside0.mk (Kd.R_lower ho13 (below_size (by repeat (first | (with_reducible first | exact HB.out | apply below_alloc | apply pw_below_drewN | apply below_drew1 | refine below_set ?_ GE183.out) | exact HB.out)))); have n1_ := Aside0.mk (blk_below (g := gb183) (o := .cells #[.int .u8 a0_0, .bool a0_1, .int .u64 a0_2, .string a0_3, .slice A0_4 l0_4.length c0_4] 35 (0, 0)) (by (with_reducible repeat (first | refine blk_drewN ?_ _ | refine blk_drew ?_ | refine blk_alloc ?_ _)); exact BK183.out) hb); have n2_ := Aside0.mk (below_step (by repeat (first | (with_reducible first | exact HB.out | apply below_alloc | apply pw_below_drewN | apply below_drew1 | refine below_set ?_ GE183.out) | exact HB.out)) hb); clear BK183; clear HB; have HO189 := n0_; have BK183 := n1_; have HB := n2_; clear n0_ n1_ n2_; clear hb ho13; have hcv14 := own_string (P := Tryz.prog) Tryz.underlying25 Tryz.underlying5 Tryz.underlying9 (Kd.own_of_R HO189.out); have hcz15_0 : w12.cell? ⟨gb183, 0, none⟩ = some (.int .u8 a0_0) := (blk_cell BK183.out 0).trans rfl; have hcz15_1 : w12.cell? ⟨gb183, 1, none⟩ = some (.bool a0_1) := (blk_cell BK183.out 1).trans rfl; have hcz15_2 : w12.cell? ⟨gb183, 2, none⟩ = some (.int .u64 a0_2) := (blk_cell BK183.out 2).trans rfl; have hcz15_3 : w12.cell? ⟨gb183, 3, none⟩ = some (.string a0_3) := (blk_cell BK183.out 3).trans rfl; have hcz15_4 : w12.cell? ⟨gb183, 4, none⟩ = some (.slice A0_4 l0_4.length c0_4) := (blk_cell BK183.out 4).trans rfl; have hfz15_0 := blk_frozen BK183.out 0; have hfz15_1 := blk_frozen BK183.out 1; have hfz15_2 := blk_frozen BK183.out 2; have hfz15_3 := blk_frozen BK183.out 3; have hfz15_4 := blk_frozen BK183.out 4))
        go_loopg [4, 5] kj1 (fun kq v4 v5 w' => ∃ (x4_2 : ByteArray) (x5_2 : Int), v4 = .string x4_2 ∧ v5 = .int .u64 x5_2 ∧ Aside0 (spec_BerTag.l0 kq x3_1 x4_2 x5_2 = some r) ∧ Aside0 (kq ≤ kj1) ∧ Aside0 (w'.heap[gb183]? = some (.cells #[.int .u8 a0_0, .bool a0_1, .int .u64 a0_2, .string a0_3, (.slice A0_4 l0_4.length c0_4)] 35 (0, 0))) ∧ Aside0 (Below w.heap.size w w'))
        case atStart => exact ⟨(strOfNums y187), (a0_2 / 128), (by first | rfl | (simp; done) | (simp [*]; done)), (by first | rfl | (simp; done) | (simp [*]; done)), H', ⟨Nat.le_refl _⟩, ⟨by (with_reducible repeat (first | refine blk_drewN ?_ _ | refine blk_drew ?_ | refine blk_alloc ?_ _)); exact BK183.out⟩, ⟨by repeat (first | (with_reducible first | exact HB.out | apply below_alloc | apply pw_below_drewN | apply below_drew1 | refine below_set ?_ GE183.out) | exact HB.out)⟩⟩
        case round =>
          clear H'
          try clear hcv1
          try clear p2
          try clear c4
          try clear c5
          try clear c6
          try clear c6b0
          try clear hcv10
          try clear hcv14
          try clear hcz11_0
          try clear hcz11_1
          try clear hcz11_2
          try clear hcz11_3
          try clear hcz11_4
          try clear hcz15_0
          try clear hcz15_1
          try clear hcz15_2
          try clear hcz15_3
          try clear hcz15_4
          try clear hcz4_0
          try clear hcz4_1
          try clear hcz4_2
          try clear hcz4_3
          try clear hcz4_4
          try clear hcz7_0
          try clear hcz7_1
          try clear hcz7_2
          try clear hcz7_3
          try clear hcz7_4
          try clear hfz11_0
          try clear hfz11_1
          try clear hfz11_2
          try clear hfz11_3
          try clear hfz11_4
          try clear hfz15_0
          try clear hfz15_1
          try clear hfz15_2
          try clear hfz15_3
          try clear hfz15_4
          try clear hfz4_0
          try clear hfz4_1
          try clear hfz4_2
          try clear hfz4_3
          try clear hfz4_4
          try clear hfz7_0
          try clear hfz7_1
          try clear hfz7_2
          try clear hfz7_3
          try clear hfz7_4
          try clear p2
          obtain ⟨x4_2, x5_2, rfl, rfl, HA, HK2, BK183, HB⟩ := hrel
          cases gk with
          | zero => exact absurd HA.out (by simp [spec_BerTag.l0])
          | succ k2 =>
            have H := HA.out
            clear HA
            simp only [spec_BerTag.l0] at H
            by_cases c16 : x5_2 > 0
            · rw [if_pos c16] at H
              have c16b0 : decide (0 < x5_2) = true := decide_eq_true c16
              clear c16
              obtain ⟨y190, hy190⟩ : ∃ y_ : List Int, y_ = (([Go.bits .or .u8 ((Go.bits .and .u64 x5_2 127) % 256) 128] : List Int)) := ⟨_, rfl⟩
              replace H : (if (strOfNums y190).size + x4_2.size ≤ 9223372036854775807 then (spec_BerTag.l0 k2 x3_1 ((strOfNums y190) ++ x4_2) (x5_2 / 128)) else (none)) = some r := by first | (rw [hy190]; with_reducible exact H) | (have H2_ := (Option.bind_some _ _).symm.trans H; rw [hy190]; with_reducible exact H2_) | (have H2_ := (Option.bind_some _ _).symm.trans H; with_reducible exact H2_) | with_reducible exact H | (rw [hy190]; exact H) | exact H
              have Ny190 := Aside0.mk hy190
              clear hy190
              by_cases c17 : (strOfNums y190).size + x4_2.size ≤ 9223372036854775807
              · rw [if_pos c17] at H
                have c17b0 := eq_true c17
                have c17b1 : decide ((strOfNums y190).size + x4_2.size ≤ 9223372036854775807) = true := decide_eq_true c17
                try have c17b2 : (9223372036854775807 < (strOfNums y190).size + x4_2.size) = False := eq_false (Nat.not_lt.2 c17)
                have H' := Aside0.mk H
                clear H
                go_wp2_with (first | ((with_reducible refine gate_dst (N := 40) rfl ?_); refine Kd.R_lit (Kd.int .u8) _ 5 ?hg (N := 40) ?hd (xs := ([Go.bits .or .u8 ((Go.bits .and .u64 x5_2 127) % 256) 128] : List Int)) (inner := [.int .u8 (Go.bits .or .u8 ((Go.bits .and .u64 x5_2 127) % 256) 128)]) (ok := fun _ => True) (okp := fun _ => True) ?hr ?hp (fun _ hk => hk) trivial (Below.refl _ _) (Nat.le_refl _) (by simp) ?_; (case hd => rfl); (case hg => rfl); (case hr => first | (go_simp; done) | (go_simp; rfl)); (case hp => exact (Reps.one (show Kd.M (Kd.int .u8) _ _ _ (Go.bits .or .u8 ((Go.bits .and .u64 x5_2 127) % 256) 128) [.int .u8 (Go.bits .or .u8 ((Go.bits .and .u64 x5_2 127) % 256) 128)] from rfl) (Reps.none _ _))); intro v191 w18 ho19 hb hg_ hnew_; clear hg_ hnew_; (first | rw [← Ny190.out] at ho19 | (simp only [Int.reduceToNat] at ho19; rw [← Ny190.out] at ho19)); have n0_ := Aside0.mk (Kd.R_lower ho19 (below_size (by repeat (first | (with_reducible first | exact HB.out | apply below_alloc | apply pw_below_drewN | apply below_drew1 | refine below_set ?_ GE183.out) | exact HB.out)))); have n1_ := Aside0.mk (blk_below (g := gb183) (o := .cells #[.int .u8 a0_0, .bool a0_1, .int .u64 a0_2, .string a0_3, .slice A0_4 l0_4.length c0_4] 35 (0, 0)) (by (with_reducible repeat (first | refine blk_drewN ?_ _ | refine blk_drew ?_ | refine blk_alloc ?_ _)); exact BK183.out) hb); have n2_ := Aside0.mk (below_step (by repeat (first | (with_reducible first | exact HB.out | apply below_alloc | apply pw_below_drewN | apply below_drew1 | refine below_set ?_ GE183.out) | exact HB.out)) hb); clear BK183; clear HB; have HO192 := n0_; have BK183 := n1_; have HB := n2_; clear n0_ n1_ n2_; clear hb ho19; have hcv20 := own_string (P := Tryz.prog) Tryz.underlying25 Tryz.underlying5 Tryz.underlying9 (Kd.own_of_R HO192.out)))
                go_roundg k2
                case measure => have := HJ1.out; have := HK2.out; omega
                case rel => exact ⟨((strOfNums y190) ++ x4_2), (x5_2 / 128), (by first | rfl | (simp; done) | (simp [*]; done)), (by first | rfl | (simp; done) | (simp [*]; done)), H', ⟨by have := HJ1.out; have := HK2.out; omega⟩, ⟨by (with_reducible repeat (first | refine blk_drewN ?_ _ | refine blk_drew ?_ | refine blk_alloc ?_ _)); exact BK183.out⟩, ⟨by repeat (first | (with_reducible first | exact HB.out | apply below_alloc | apply pw_below_drewN | apply below_drew1 | refine below_set ?_ GE183.out) | exact HB.out)⟩⟩
              · rw [if_neg c17] at H
                exact absurd H (by simp)
            · rw [if_neg c16] at H
              have c16b0 : decide (0 < x5_2) = false := decide_eq_false c16
              clear c16
              obtain ⟨y193, hy193⟩ : ∃ y_ : List Int, y_ = (([Go.bits .or .u8 x3_1 31] : List Int)) := ⟨_, rfl⟩
              replace H : (if (strOfNums y193).size + x4_2.size ≤ 9223372036854775807 then (some ((strOfNums y193) ++ x4_2)) else (none)) = some r := by first | (rw [hy193]; with_reducible exact H) | (have H2_ := (Option.bind_some _ _).symm.trans H; rw [hy193]; with_reducible exact H2_) | (have H2_ := (Option.bind_some _ _).symm.trans H; with_reducible exact H2_) | with_reducible exact H | (rw [hy193]; exact H) | exact H
              have Ny193 := Aside0.mk hy193
              clear hy193
              by_cases c21 : (strOfNums y193).size + x4_2.size ≤ 9223372036854775807
              · rw [if_pos c21] at H
                have c21b0 := eq_true c21
                have c21b1 : decide ((strOfNums y193).size + x4_2.size ≤ 9223372036854775807) = true := decide_eq_true c21
                try have c21b2 : (9223372036854775807 < (strOfNums y193).size + x4_2.size) = False := eq_false (Nat.not_lt.2 c21)
                obtain rfl := Option.some.inj H
                go_wp2_with (first | ((with_reducible refine gate_dst (N := 46) rfl ?_); refine Kd.R_lit (Kd.int .u8) _ 5 ?hg (N := 46) ?hd (xs := ([Go.bits .or .u8 x3_1 31] : List Int)) (inner := [.int .u8 (Go.bits .or .u8 x3_1 31)]) (ok := fun _ => True) (okp := fun _ => True) ?hr ?hp (fun _ hk => hk) trivial (Below.refl _ _) (Nat.le_refl _) (by simp) ?_; (case hd => rfl); (case hg => rfl); (case hr => first | (go_simp; done) | (go_simp; rfl)); (case hp => exact (Reps.one (show Kd.M (Kd.int .u8) _ _ _ (Go.bits .or .u8 x3_1 31) [.int .u8 (Go.bits .or .u8 x3_1 31)] from rfl) (Reps.none _ _))); intro v194 w22 ho23 hb hg_ hnew_; clear hg_ hnew_; (first | rw [← Ny193.out] at ho23 | (simp only [Int.reduceToNat] at ho23; rw [← Ny193.out] at ho23)); have n0_ := Aside0.mk (Kd.R_lower ho23 (below_size (by repeat (first | (with_reducible first | exact HB.out | apply below_alloc | apply pw_below_drewN | apply below_drew1 | refine below_set ?_ GE183.out) | exact HB.out)))); have n1_ := Aside0.mk (blk_below (g := gb183) (o := .cells #[.int .u8 a0_0, .bool a0_1, .int .u64 a0_2, .string a0_3, .slice A0_4 l0_4.length c0_4] 35 (0, 0)) (by (with_reducible repeat (first | refine blk_drewN ?_ _ | refine blk_drew ?_ | refine blk_alloc ?_ _)); exact BK183.out) hb); have n2_ := Aside0.mk (below_step (by repeat (first | (with_reducible first | exact HB.out | apply below_alloc | apply pw_below_drewN | apply below_drew1 | refine below_set ?_ GE183.out) | exact HB.out)) hb); clear BK183; clear HB; have HO195 := n0_; have BK183 := n1_; have HB := n2_; clear n0_ n1_ n2_; clear hb ho23; have hcv24 := own_string (P := Tryz.prog) Tryz.underlying25 Tryz.underlying5 Tryz.underlying9 (Kd.own_of_R HO195.out)))
                go_ret
                exact ⟨by first | rfl | (simp [errW_none, errW_some] <;> rfl) | (simp [*, errW_none, errW_some] <;> rfl), by repeat (first | (with_reducible first | exact HB.out | apply below_alloc | apply pw_below_drewN | apply below_drew1 | refine below_set ?_ GE183.out) | exact HB.out)⟩
              · rw [if_neg c21] at H
                exact absurd H (by simp)

/-! ### spec_BerLength: function 43 -/
mutual
def spec_BerLength.j0 : Nat → Int → Int → Bool → Option (ByteArray)
  | 0, _, _, _ => none
  | k + 1, x0, x1, x12 => if x12 = true then (some (strOfNums (([(x0) % 256] : List Int)))) else (spec_BerLength.l0 k x1 (⟨#[]⟩ : ByteArray) x0)
def spec_BerLength.l0 : Nat → Int → ByteArray → Int → Option (ByteArray)
  | 0, _, _, _ => none
  | k + 1, x1, x5, x6 => if x6 > 0 then ((some (([(x6) % 256] : List Int) : List Int)).bind fun y199 => (if (strOfNums y199).size + x5.size ≤ 9223372036854775807 then (spec_BerLength.l0 k x1 ((strOfNums y199) ++ x5) (x6 / 256)) else (none))) else (if x5.toList = ([] : List UInt8) then ((some (([(x6) % 256] : List Int) : List Int)).bind fun y202 => (if (strOfNums y202).size + x5.size ≤ 9223372036854775807 then (spec_BerLength.l0 k x1 ((strOfNums y202) ++ x5) (x6 / 256)) else (none))) else (spec_BerLength.l1 k x5 (mx (wrap64 (x1 - 1)) 0) 0))
def spec_BerLength.l1 : Nat → ByteArray → Int → Int → Option (ByteArray)
  | 0, _, _, _ => none
  | k + 1, x5, x34, x35 => if x35 < x34 then (if 1 + x5.size ≤ 9223372036854775807 then (spec_BerLength.l1 k ((⟨#[0]⟩ : ByteArray) ++ x5) x34 (wrap64 (x35 + 1))) else (none)) else ((some (([Go.bits .or .u8 128 (((x5.size : Int)) % 256)] : List Int) : List Int)).bind fun y205 => (if (strOfNums y205).size + x5.size ≤ 9223372036854775807 then (some ((strOfNums y205) ++ x5)) else (none)))
end
def spec_BerLength.f (k : Nat) (a0 : Int) (a1 : Int) : Option (ByteArray) := if a0 < 128 then (spec_BerLength.j0 k a0 a1 (a1 == 0)) else (spec_BerLength.j0 k a0 a1 false)
theorem spec_BerLength.mono_l : ∀ k, (∀ y0 y1 y2, LeO (spec_BerLength.j0 k y0 y1 y2) (spec_BerLength.j0 (k + 1) y0 y1 y2)) ∧ (∀ y0 y1 y2, LeO (spec_BerLength.l0 k y0 y1 y2) (spec_BerLength.l0 (k + 1) y0 y1 y2)) ∧ (∀ y0 y1 y2, LeO (spec_BerLength.l1 k y0 y1 y2) (spec_BerLength.l1 (k + 1) y0 y1 y2))
  | 0 => ⟨fun _ _ _ r h => by simp [spec_BerLength.j0] at h, fun _ _ _ r h => by simp [spec_BerLength.l0] at h, fun _ _ _ r h => by simp [spec_BerLength.l1] at h⟩
  | k + 1 => by
    obtain ⟨ih0, ih1, ih2⟩ := spec_BerLength.mono_l k
    refine ⟨?_, ?_, ?_⟩
    · intro y0 y1 y2
      unfold spec_BerLength.j0
      repeat' first
      | (with_reducible exact ih0 _ _ _)
      | (with_reducible exact ih1 _ _ _)
      | (with_reducible exact ih2 _ _ _)
      | (with_reducible exact LeO.refl _)
      | (with_reducible exact LeO.none _)
      | (with_reducible refine LeO.ite ?_ ?_)
      | (with_reducible refine LeO.bind ?_ (fun _ => ?_))
      | exact ih0 _ _ _
      | exact ih1 _ _ _
      | exact ih2 _ _ _
      | exact LeO.none _
      | refine LeO.ite ?_ ?_
      | refine LeO.bind ?_ (fun _ => ?_)
    · intro y0 y1 y2
      unfold spec_BerLength.l0
      repeat' first
      | (with_reducible exact ih0 _ _ _)
      | (with_reducible exact ih1 _ _ _)
      | (with_reducible exact ih2 _ _ _)
      | (with_reducible exact LeO.refl _)
      | (with_reducible exact LeO.none _)
      | (with_reducible refine LeO.ite ?_ ?_)
      | (with_reducible refine LeO.bind ?_ (fun _ => ?_))
      | exact ih0 _ _ _
      | exact ih1 _ _ _
      | exact ih2 _ _ _
      | exact LeO.none _
      | refine LeO.ite ?_ ?_
      | refine LeO.bind ?_ (fun _ => ?_)
    · intro y0 y1 y2
      unfold spec_BerLength.l1
      repeat' first
      | (with_reducible exact ih0 _ _ _)
      | (with_reducible exact ih1 _ _ _)
      | (with_reducible exact ih2 _ _ _)
      | (with_reducible exact LeO.refl _)
      | (with_reducible exact LeO.none _)
      | (with_reducible refine LeO.ite ?_ ?_)
      | (with_reducible refine LeO.bind ?_ (fun _ => ?_))
      | exact ih0 _ _ _
      | exact ih1 _ _ _
      | exact ih2 _ _ _
      | exact LeO.none _
      | refine LeO.ite ?_ ?_
      | refine LeO.bind ?_ (fun _ => ?_)
theorem spec_BerLength.mono : ∀ a0 a1 k, LeO (spec_BerLength.f k a0 a1) (spec_BerLength.f (k + 1) a0 a1) := by
  intro a0 a1 k
  obtain ⟨ih0, ih1, ih2⟩ := spec_BerLength.mono_l k
  unfold spec_BerLength.f
  repeat' first
      | (with_reducible exact ih0 _ _ _)
      | (with_reducible exact ih1 _ _ _)
      | (with_reducible exact ih2 _ _ _)
      | (with_reducible exact LeO.refl _)
      | (with_reducible exact LeO.none _)
      | (with_reducible refine LeO.ite ?_ ?_)
      | (with_reducible refine LeO.bind ?_ (fun _ => ?_))
      | exact ih0 _ _ _
      | exact ih1 _ _ _
      | exact ih2 _ _ _
      | exact LeO.none _
      | refine LeO.ite ?_ ?_
      | refine LeO.bind ?_ (fun _ => ?_)
set_option maxHeartbeats 8000000 in
set_option maxRecDepth 100000 in
theorem spec_BerLength.calls (k : Nat) (a0 : Int) (a1 : Int) (r : ByteArray) (w : World) (h : spec_BerLength.f k a0 a1 = some r) :
    Calls Tryz.prog 43 #[.int .i64 a0, .int .i64 a1] w fun e w' => e = .returned (.string r) ∧ Below w.heap.size w w' := by
  have HB := Aside0.mk (Below.refl w.heap.size w)
  have H : (if a0 < 128 then (spec_BerLength.j0 k a0 a1 (a1 == 0)) else (spec_BerLength.j0 k a0 a1 false)) = some r := h
  clear h
  have HC3 := Aside0.mk H
  clear H
  go_enter Tryz.func43, Tryz.ntmps43
  go_upto_region 1 with (fail)
  go_cut [12] (fun v12 wc => ∃ (kq : Nat) (x12_2 : Bool), v12 = .bool x12_2 ∧ Aside0 (spec_BerLength.j0 kq a0 a1 x12_2 = some r) ∧ Aside0 (kq ≤ k) ∧ Aside0 (Below w.heap.size w wc))
  case first =>
    have H := HC3.out
    clear HC3
    by_cases c4 : a0 < 128
    · rw [if_pos c4] at H
      have c4b0 : decide (a0 < 128) = true := decide_eq_true c4
      clear c4
      (first | rw [c4b0] | (simp only [i64_w, i32_w]; rw [c4b0]) | skip)
      have H' := Aside0.mk H
      clear H
      go_wp2
      go_meet
      case rel => exact ⟨_, ((a1 == 0)), (by first | rfl | (simp; done) | (simp [*]; done)), H', ⟨by first | omega | exact Nat.le_refl _⟩, ⟨by repeat (first | (with_reducible first | exact HB.out | apply below_alloc | apply pw_below_drewN | apply below_drew1) | exact HB.out)⟩⟩
    · rw [if_neg c4] at H
      have c4b0 : decide (a0 < 128) = false := decide_eq_false c4
      clear c4
      (first | rw [c4b0] | (simp only [i64_w, i32_w]; rw [c4b0]) | skip)
      have H' := Aside0.mk H
      clear H
      go_wp2
      go_meet
      case rel => exact ⟨_, (false), (by first | rfl | (simp; done) | (simp [*]; done)), H', ⟨by first | omega | exact Nat.le_refl _⟩, ⟨by repeat (first | (with_reducible first | exact HB.out | apply below_alloc | apply pw_below_drewN | apply below_drew1) | exact HB.out)⟩⟩
  case rest =>
    clear HC3
    try clear p2
    try clear c4
    try clear c4b0
    obtain ⟨kq, x12_2, rfl, HA, HJ2, HB⟩ := hcut
    cases kq with
    | zero => exact absurd HA.out (by simp [spec_BerLength.j0])
    | succ kj2 =>
      have H := HA.out
      clear HA
      simp only [spec_BerLength.j0] at H
      by_cases c5 : x12_2 = true
      · subst c5
        have H1 : (some (strOfNums (([(a0) % 256] : List Int)))) = some r := by rw [if_pos rfl] at H; exact H
        clear H
        have H := H1
        clear H1
        obtain ⟨y196, hy196⟩ : ∃ y_ : List Int, y_ = (([(a0) % 256] : List Int)) := ⟨_, rfl⟩
        replace H : (some (strOfNums y196)) = some r := by first | (rw [hy196]; with_reducible exact H) | (have H2_ := (Option.bind_some _ _).symm.trans H; rw [hy196]; with_reducible exact H2_) | (have H2_ := (Option.bind_some _ _).symm.trans H; with_reducible exact H2_) | with_reducible exact H | (rw [hy196]; exact H) | exact H
        have Ny196 := Aside0.mk hy196
        clear hy196
        obtain rfl := Option.some.inj H
        go_wp2_with (first | ((with_reducible refine gate_dst (N := 15) rfl ?_); refine Kd.R_lit (Kd.int .u8) _ 5 ?hg (N := 15) ?hd (xs := ([(a0) % 256] : List Int)) (inner := [.int .u8 ((a0) % 256)]) (ok := fun _ => True) (okp := fun _ => True) ?hr ?hp (fun _ hk => hk) trivial (Below.refl _ _) (Nat.le_refl _) (by simp) ?_; (case hd => rfl); (case hg => rfl); (case hr => first | (go_simp; done) | (go_simp; rfl)); (case hp => exact (Reps.one (show Kd.M (Kd.int .u8) _ _ _ ((a0) % 256) [.int .u8 ((a0) % 256)] from rfl) (Reps.none _ _))); intro v197 w6 ho7 hb hg_ hnew_; clear hg_ hnew_; (first | rw [← Ny196.out] at ho7 | (simp only [Int.reduceToNat] at ho7; rw [← Ny196.out] at ho7)); have n0_ := Aside0.mk (Kd.R_lower ho7 (below_size (by repeat (first | (with_reducible first | exact HB.out | apply below_alloc | apply pw_below_drewN | apply below_drew1) | exact HB.out)))); have n1_ := Aside0.mk (below_step (by repeat (first | (with_reducible first | exact HB.out | apply below_alloc | apply pw_below_drewN | apply below_drew1) | exact HB.out)) hb); clear HB; have HO198 := n0_; have HB := n1_; clear n0_ n1_; clear hb ho7; have hcv8 := own_string (P := Tryz.prog) Tryz.underlying25 Tryz.underlying5 Tryz.underlying9 (Kd.own_of_R HO198.out)))
        go_ret
        exact ⟨by first | rfl | (simp [errW_none, errW_some] <;> rfl) | (simp [*, errW_none, errW_some] <;> rfl), by repeat (first | (with_reducible first | exact HB.out | apply below_alloc | apply pw_below_drewN | apply below_drew1) | exact HB.out)⟩
      · replace c5 := Bool.eq_false_iff.mpr c5
        subst c5
        have H1 : (spec_BerLength.l0 kj2 a1 (⟨#[]⟩ : ByteArray) a0) = some r := by rw [if_neg (show ¬ (false = true) by decide)] at H; exact H
        clear H
        have H := H1
        clear H1
        have H' := Aside0.mk H
        clear H
        go_wp2
        go_loopg [5, 6] kj2 (fun kq v5 v6 w' => ∃ (x5_2 : ByteArray) (x6_2 : Int), v5 = .string x5_2 ∧ v6 = .int .i64 x6_2 ∧ Aside0 (spec_BerLength.l0 kq a1 x5_2 x6_2 = some r) ∧ Aside0 (kq ≤ kj2) ∧ Aside0 (Below w.heap.size w w'))
        case atStart => exact ⟨((⟨#[]⟩ : ByteArray)), (a0), (by first | rfl | (simp; done) | (simp [*]; done)), (by first | rfl | (simp; done) | (simp [*]; done)), H', ⟨Nat.le_refl _⟩, ⟨by repeat (first | (with_reducible first | exact HB.out | apply below_alloc | apply pw_below_drewN | apply below_drew1) | exact HB.out)⟩⟩
        case round =>
          clear H'
          try clear p2
          try clear c4
          try clear c4b0
          try clear c5
          try clear hcv8
          try clear p2
          obtain ⟨x5_2, x6_2, rfl, rfl, HA, HK2, HB⟩ := hrel
          cases gk with
          | zero => exact absurd HA.out (by simp [spec_BerLength.l0])
          | succ k2 =>
            have H := HA.out
            clear HA
            simp only [spec_BerLength.l0] at H
            by_cases c9 : x6_2 > 0
            · rw [if_pos c9] at H
              have c9b0 : decide (0 < x6_2) = true := decide_eq_true c9
              clear c9
              obtain ⟨y199, hy199⟩ : ∃ y_ : List Int, y_ = (([(x6_2) % 256] : List Int)) := ⟨_, rfl⟩
              replace H : (if (strOfNums y199).size + x5_2.size ≤ 9223372036854775807 then (spec_BerLength.l0 k2 a1 ((strOfNums y199) ++ x5_2) (x6_2 / 256)) else (none)) = some r := by first | (rw [hy199]; with_reducible exact H) | (have H2_ := (Option.bind_some _ _).symm.trans H; rw [hy199]; with_reducible exact H2_) | (have H2_ := (Option.bind_some _ _).symm.trans H; with_reducible exact H2_) | with_reducible exact H | (rw [hy199]; exact H) | exact H
              have Ny199 := Aside0.mk hy199
              clear hy199
              by_cases c10 : (strOfNums y199).size + x5_2.size ≤ 9223372036854775807
              · rw [if_pos c10] at H
                have c10b0 := eq_true c10
                have c10b1 : decide ((strOfNums y199).size + x5_2.size ≤ 9223372036854775807) = true := decide_eq_true c10
                try have c10b2 : (9223372036854775807 < (strOfNums y199).size + x5_2.size) = False := eq_false (Nat.not_lt.2 c10)
                have H' := Aside0.mk H
                clear H
                go_wp2_with (first | ((with_reducible refine gate_dst (N := 28) rfl ?_); refine Kd.R_lit (Kd.int .u8) _ 5 ?hg (N := 28) ?hd (xs := ([(x6_2) % 256] : List Int)) (inner := [.int .u8 ((x6_2) % 256)]) (ok := fun _ => True) (okp := fun _ => True) ?hr ?hp (fun _ hk => hk) trivial (Below.refl _ _) (Nat.le_refl _) (by simp) ?_; (case hd => rfl); (case hg => rfl); (case hr => first | (go_simp; done) | (go_simp; rfl)); (case hp => exact (Reps.one (show Kd.M (Kd.int .u8) _ _ _ ((x6_2) % 256) [.int .u8 ((x6_2) % 256)] from rfl) (Reps.none _ _))); intro v200 w11 ho12 hb hg_ hnew_; clear hg_ hnew_; (first | rw [← Ny199.out] at ho12 | (simp only [Int.reduceToNat] at ho12; rw [← Ny199.out] at ho12)); have n0_ := Aside0.mk (Kd.R_lower ho12 (below_size (by repeat (first | (with_reducible first | exact HB.out | apply below_alloc | apply pw_below_drewN | apply below_drew1) | exact HB.out)))); have n1_ := Aside0.mk (below_step (by repeat (first | (with_reducible first | exact HB.out | apply below_alloc | apply pw_below_drewN | apply below_drew1) | exact HB.out)) hb); clear HB; have HO201 := n0_; have HB := n1_; clear n0_ n1_; clear hb ho12; have hcv13 := own_string (P := Tryz.prog) Tryz.underlying25 Tryz.underlying5 Tryz.underlying9 (Kd.own_of_R HO201.out)))
                go_roundg k2
                case measure => have := HJ2.out; have := HK2.out; omega
                case rel => exact ⟨((strOfNums y199) ++ x5_2), (x6_2 / 256), (by first | rfl | (simp; done) | (simp [*]; done)), (by first | rfl | (simp; done) | (simp [*]; done)), H', ⟨by have := HJ2.out; have := HK2.out; omega⟩, ⟨by repeat (first | (with_reducible first | exact HB.out | apply below_alloc | apply pw_below_drewN | apply below_drew1) | exact HB.out)⟩⟩
              · rw [if_neg c10] at H
                exact absurd H (by simp)
            · rw [if_neg c9] at H
              have c9b0 : decide (0 < x6_2) = false := decide_eq_false c9
              clear c9
              by_cases c14 : x5_2.toList = ([] : List UInt8)
              · rw [if_pos c14] at H
                have c14b0 : (x5_2.toList == ([] : List UInt8)) = true := beq_iff_eq.mpr c14
                have c14b1 : (x5_2.toList != ([] : List UInt8)) = false := bne_eq_false_iff_eq.mpr c14
                clear c14
                obtain ⟨y202, hy202⟩ : ∃ y_ : List Int, y_ = (([(x6_2) % 256] : List Int)) := ⟨_, rfl⟩
                replace H : (if (strOfNums y202).size + x5_2.size ≤ 9223372036854775807 then (spec_BerLength.l0 k2 a1 ((strOfNums y202) ++ x5_2) (x6_2 / 256)) else (none)) = some r := by first | (rw [hy202]; with_reducible exact H) | (have H2_ := (Option.bind_some _ _).symm.trans H; rw [hy202]; with_reducible exact H2_) | (have H2_ := (Option.bind_some _ _).symm.trans H; with_reducible exact H2_) | with_reducible exact H | (rw [hy202]; exact H) | exact H
                have Ny202 := Aside0.mk hy202
                clear hy202
                by_cases c15 : (strOfNums y202).size + x5_2.size ≤ 9223372036854775807
                · rw [if_pos c15] at H
                  have c15b0 := eq_true c15
                  have c15b1 : decide ((strOfNums y202).size + x5_2.size ≤ 9223372036854775807) = true := decide_eq_true c15
                  try have c15b2 : (9223372036854775807 < (strOfNums y202).size + x5_2.size) = False := eq_false (Nat.not_lt.2 c15)
                  have H' := Aside0.mk H
                  clear H
                  go_wp2_with (first | ((with_reducible refine gate_dst (N := 28) rfl ?_); refine Kd.R_lit (Kd.int .u8) _ 5 ?hg (N := 28) ?hd (xs := ([(x6_2) % 256] : List Int)) (inner := [.int .u8 ((x6_2) % 256)]) (ok := fun _ => True) (okp := fun _ => True) ?hr ?hp (fun _ hk => hk) trivial (Below.refl _ _) (Nat.le_refl _) (by simp) ?_; (case hd => rfl); (case hg => rfl); (case hr => first | (go_simp; done) | (go_simp; rfl)); (case hp => exact (Reps.one (show Kd.M (Kd.int .u8) _ _ _ ((x6_2) % 256) [.int .u8 ((x6_2) % 256)] from rfl) (Reps.none _ _))); intro v203 w16 ho17 hb hg_ hnew_; clear hg_ hnew_; (first | rw [← Ny202.out] at ho17 | (simp only [Int.reduceToNat] at ho17; rw [← Ny202.out] at ho17)); have n0_ := Aside0.mk (Kd.R_lower ho17 (below_size (by repeat (first | (with_reducible first | exact HB.out | apply below_alloc | apply pw_below_drewN | apply below_drew1) | exact HB.out)))); have n1_ := Aside0.mk (below_step (by repeat (first | (with_reducible first | exact HB.out | apply below_alloc | apply pw_below_drewN | apply below_drew1) | exact HB.out)) hb); clear HB; have HO204 := n0_; have HB := n1_; clear n0_ n1_; clear hb ho17; have hcv18 := own_string (P := Tryz.prog) Tryz.underlying25 Tryz.underlying5 Tryz.underlying9 (Kd.own_of_R HO204.out)))
                  go_roundg k2
                  case measure => have := HJ2.out; have := HK2.out; omega
                  case rel => exact ⟨((strOfNums y202) ++ x5_2), (x6_2 / 256), (by first | rfl | (simp; done) | (simp [*]; done)), (by first | rfl | (simp; done) | (simp [*]; done)), H', ⟨by have := HJ2.out; have := HK2.out; omega⟩, ⟨by repeat (first | (with_reducible first | exact HB.out | apply below_alloc | apply pw_below_drewN | apply below_drew1) | exact HB.out)⟩⟩
                · rw [if_neg c15] at H
                  exact absurd H (by simp)
              · rw [if_neg c14] at H
                have c14b0 : (x5_2.toList == ([] : List UInt8)) = false := beq_eq_false_iff_ne.mpr c14
                have c14b1 : (x5_2.toList != ([] : List UInt8)) = true := bne_iff_ne.mpr c14
                obtain ⟨ji19, hji19⟩ : ∃ j_ : Int, (mx (wrap64 (a1 - 1)) 0) = j_ := ⟨_, rfl⟩
                replace H : (spec_BerLength.l1 k2 x5_2 ji19 0) = some r := by first | (rw [hji19] at H; exact H) | (simp only [hji19] at H ⊢; exact H)
                have hji19_ : (if (wrap64 (a1 - 1)) < 0 then 0 else (wrap64 (a1 - 1))) = ji19 := hji19
                have H' := Aside0.mk H
                clear H
                go_wp2
                go_loopg [5, 35] k2 (fun kq v5 v35 w' => ∃ (x5_3 : ByteArray) (x35_3 : Int), v5 = .string x5_3 ∧ v35 = .int .i64 x35_3 ∧ Aside0 (spec_BerLength.l1 kq x5_3 ji19 x35_3 = some r) ∧ Aside0 (kq ≤ k2) ∧ Aside0 (Below w.heap.size w w'))
                case atStart => exact ⟨(x5_2), (0), (by first | rfl | (simp; done) | (simp [*]; done)), (by first | rfl | (simp; done) | (simp [*]; done)), H', ⟨Nat.le_refl _⟩, ⟨by repeat (first | (with_reducible first | exact HB.out | apply below_alloc | apply pw_below_drewN | apply below_drew1) | exact HB.out)⟩⟩
                case round =>
                  clear H'
                  try clear c1
                  try clear hcv1
                  try clear p2
                  try clear c4
                  try clear c4b0
                  try clear c5
                  try clear p6
                  try clear hcv8
                  try clear c9
                  try clear c9b0
                  try clear c10
                  try clear c10b0
                  try clear c10b1
                  try clear c10b2
                  try clear hcv13
                  try clear c14
                  try clear c14b0
                  try clear c14b1
                  try clear c15
                  try clear c15b0
                  try clear c15b1
                  try clear c15b2
                  try clear hcv18
                  try clear p2
                  obtain ⟨x5_3, x35_3, rfl, rfl, HA, HK3, HB⟩ := hrel
                  cases gk with
                  | zero => exact absurd HA.out (by simp [spec_BerLength.l1])
                  | succ k3 =>
                    have H := HA.out
                    clear HA
                    simp only [spec_BerLength.l1] at H
                    by_cases c20 : x35_3 < ji19
                    · rw [if_pos c20] at H
                      have c20b0 : decide (x35_3 < ji19) = true := decide_eq_true c20
                      clear c20
                      by_cases c21 : 1 + x5_3.size ≤ 9223372036854775807
                      · rw [if_pos c21] at H
                        have c21b0 := eq_true c21
                        have c21b1 : decide (1 + x5_3.size ≤ 9223372036854775807) = true := decide_eq_true c21
                        try have c21b2 : (9223372036854775807 < 1 + x5_3.size) = False := eq_false (Nat.not_lt.2 c21)
                        have H' := Aside0.mk H
                        clear H
                        go_wp2
                        go_roundg k3
                        case measure => have := HJ2.out; have := HK2.out; have := HK3.out; omega
                        case rel => exact ⟨((⟨#[0]⟩ : ByteArray) ++ x5_3), (wrap64 (x35_3 + 1)), (by first | rfl | (simp; done) | (simp [*]; done)), (by first | rfl | (simp; done) | (simp [*]; done)), H', ⟨by have := HJ2.out; have := HK2.out; have := HK3.out; omega⟩, ⟨by repeat (first | (with_reducible first | exact HB.out | apply below_alloc | apply pw_below_drewN | apply below_drew1) | exact HB.out)⟩⟩
                      · rw [if_neg c21] at H
                        exact absurd H (by simp)
                    · rw [if_neg c20] at H
                      have c20b0 : decide (x35_3 < ji19) = false := decide_eq_false c20
                      clear c20
                      obtain ⟨y205, hy205⟩ : ∃ y_ : List Int, y_ = (([Go.bits .or .u8 128 (((x5_3.size : Int)) % 256)] : List Int)) := ⟨_, rfl⟩
                      replace H : (if (strOfNums y205).size + x5_3.size ≤ 9223372036854775807 then (some ((strOfNums y205) ++ x5_3)) else (none)) = some r := by first | (rw [hy205]; with_reducible exact H) | (have H2_ := (Option.bind_some _ _).symm.trans H; rw [hy205]; with_reducible exact H2_) | (have H2_ := (Option.bind_some _ _).symm.trans H; with_reducible exact H2_) | with_reducible exact H | (rw [hy205]; exact H) | exact H
                      have Ny205 := Aside0.mk hy205
                      clear hy205
                      by_cases c22 : (strOfNums y205).size + x5_3.size ≤ 9223372036854775807
                      · rw [if_pos c22] at H
                        have c22b0 := eq_true c22
                        have c22b1 : decide ((strOfNums y205).size + x5_3.size ≤ 9223372036854775807) = true := decide_eq_true c22
                        try have c22b2 : (9223372036854775807 < (strOfNums y205).size + x5_3.size) = False := eq_false (Nat.not_lt.2 c22)
                        obtain rfl := Option.some.inj H
                        go_wp2_with (first | ((with_reducible refine gate_dst (N := 44) rfl ?_); refine Kd.R_lit (Kd.int .u8) _ 5 ?hg (N := 44) ?hd (xs := ([Go.bits .or .u8 128 (((x5_3.size : Int)) % 256)] : List Int)) (inner := [.int .u8 (Go.bits .or .u8 128 (((x5_3.size : Int)) % 256))]) (ok := fun _ => True) (okp := fun _ => True) ?hr ?hp (fun _ hk => hk) trivial (Below.refl _ _) (Nat.le_refl _) (by simp) ?_; (case hd => rfl); (case hg => rfl); (case hr => first | (go_simp; done) | (go_simp; rfl)); (case hp => exact (Reps.one (show Kd.M (Kd.int .u8) _ _ _ (Go.bits .or .u8 128 (((x5_3.size : Int)) % 256)) [.int .u8 (Go.bits .or .u8 128 (((x5_3.size : Int)) % 256))] from rfl) (Reps.none _ _))); intro v206 w23 ho24 hb hg_ hnew_; clear hg_ hnew_; (first | rw [← Ny205.out] at ho24 | (simp only [Int.reduceToNat] at ho24; rw [← Ny205.out] at ho24)); have n0_ := Aside0.mk (Kd.R_lower ho24 (below_size (by repeat (first | (with_reducible first | exact HB.out | apply below_alloc | apply pw_below_drewN | apply below_drew1) | exact HB.out)))); have n1_ := Aside0.mk (below_step (by repeat (first | (with_reducible first | exact HB.out | apply below_alloc | apply pw_below_drewN | apply below_drew1) | exact HB.out)) hb); clear HB; have HO207 := n0_; have HB := n1_; clear n0_ n1_; clear hb ho24; have hcv25 := own_string (P := Tryz.prog) Tryz.underlying25 Tryz.underlying5 Tryz.underlying9 (Kd.own_of_R HO207.out)))
                        go_ret
                        exact ⟨by first | rfl | (simp [errW_none, errW_some] <;> rfl) | (simp only [← hji19]; first | rfl | (simp [errW_none, errW_some] <;> rfl)) | (simp [*, errW_none, errW_some] <;> rfl), by repeat (first | (with_reducible first | exact HB.out | apply below_alloc | apply pw_below_drewN | apply below_drew1) | exact HB.out)⟩
                      · rw [if_neg c22] at H
                        exact absurd H (by simp)

-- NOT PRINTED: function 26 (spec_berForms)

-- NOT PRINTED: function 15 (spec_BerForms)

/-! ### spec_BerInt: function 44 -/
def spec_BerInt.l0 : Nat → Int → ByteArray → Option (ByteArray)
  | 0, _, _ => none
  | k + 1, x0, x3 => if x0 < (-128) then ((some (([(x0 / 256) % 256] : List Int) : List Int)).bind fun y212 => (if (strOfNums y212).size + x3.size ≤ 9223372036854775807 then (spec_BerInt.l0 k (x0 / 256) ((strOfNums y212) ++ x3)) else (none))) else (if x0 > 127 then ((some (([(x0 / 256) % 256] : List Int) : List Int)).bind fun y215 => (if (strOfNums y215).size + x3.size ≤ 9223372036854775807 then (spec_BerInt.l0 k (x0 / 256) ((strOfNums y215) ++ x3)) else (none))) else (some x3))
def spec_BerInt.f (k : Nat) (a0 : Int) : Option (ByteArray) := spec_BerInt.l0 k a0 (strOfNums (([(a0) % 256] : List Int)))
theorem spec_BerInt.mono_l : ∀ k, (∀ y0 y1, LeO (spec_BerInt.l0 k y0 y1) (spec_BerInt.l0 (k + 1) y0 y1))
  | 0 => fun _ _ r h => by simp [spec_BerInt.l0] at h
  | k + 1 => by
    have ih0 := spec_BerInt.mono_l k
    · intro y0 y1
      unfold spec_BerInt.l0
      repeat' first
      | (with_reducible exact ih0 _ _)
      | (with_reducible exact LeO.refl _)
      | (with_reducible exact LeO.none _)
      | (with_reducible refine LeO.ite ?_ ?_)
      | (with_reducible refine LeO.bind ?_ (fun _ => ?_))
      | exact ih0 _ _
      | exact LeO.none _
      | refine LeO.ite ?_ ?_
      | refine LeO.bind ?_ (fun _ => ?_)
theorem spec_BerInt.mono : ∀ a0 k, LeO (spec_BerInt.f k a0) (spec_BerInt.f (k + 1) a0) := by
  intro a0 k
  have ih0 := spec_BerInt.mono_l k
  unfold spec_BerInt.f
  repeat' first
      | (with_reducible exact ih0 _ _)
      | (with_reducible exact LeO.refl _)
      | (with_reducible exact LeO.none _)
      | (with_reducible refine LeO.ite ?_ ?_)
      | (with_reducible refine LeO.bind ?_ (fun _ => ?_))
      | exact ih0 _ _
      | exact LeO.none _
      | refine LeO.ite ?_ ?_
      | refine LeO.bind ?_ (fun _ => ?_)
set_option maxHeartbeats 8000000 in
set_option maxRecDepth 100000 in
theorem spec_BerInt.calls (k : Nat) (a0 : Int) (r : ByteArray) (w : World) (h : spec_BerInt.f k a0 = some r) :
    Calls Tryz.prog 44 #[.int .i64 a0] w fun e w' => e = .returned (.string r) ∧ Below w.heap.size w w' := by
  have HB := Aside0.mk (Below.refl w.heap.size w)
  have H : (spec_BerInt.l0 k a0 (strOfNums (([(a0) % 256] : List Int)))) = some r := h
  clear h
  obtain ⟨y209, hy209⟩ : ∃ y_ : List Int, y_ = (([(a0) % 256] : List Int)) := ⟨_, rfl⟩
  replace H : (spec_BerInt.l0 k a0 (strOfNums y209)) = some r := by first | (rw [hy209]; with_reducible exact H) | (have H2_ := (Option.bind_some _ _).symm.trans H; rw [hy209]; with_reducible exact H2_) | (have H2_ := (Option.bind_some _ _).symm.trans H; with_reducible exact H2_) | with_reducible exact H | (rw [hy209]; exact H) | exact H
  have Ny209 := Aside0.mk hy209
  clear hy209
  have H' := Aside0.mk H
  clear H
  go_enter Tryz.func44, Tryz.ntmps44
  go_wp2_with (first | ((with_reducible refine gate_dst (N := 6) rfl ?_); refine Kd.R_lit (Kd.int .u8) _ 5 ?hg (N := 6) ?hd (xs := ([(a0) % 256] : List Int)) (inner := [.int .u8 ((a0) % 256)]) (ok := fun _ => True) (okp := fun _ => True) ?hr ?hp (fun _ hk => hk) trivial (Below.refl _ _) (Nat.le_refl _) (by simp) ?_; (case hd => rfl); (case hg => rfl); (case hr => first | (go_simp; done) | (go_simp; rfl)); (case hp => exact (Reps.one (show Kd.M (Kd.int .u8) _ _ _ ((a0) % 256) [.int .u8 ((a0) % 256)] from rfl) (Reps.none _ _))); intro v210 w2 ho3 hb hg_ hnew_; clear hg_ hnew_; (first | rw [← Ny209.out] at ho3 | (simp only [Int.reduceToNat] at ho3; rw [← Ny209.out] at ho3)); have n0_ := Aside0.mk (Kd.R_lower ho3 (below_size (by repeat (first | (with_reducible first | exact HB.out | apply below_alloc | apply pw_below_drewN | apply below_drew1) | exact HB.out)))); have n1_ := Aside0.mk (below_step (by repeat (first | (with_reducible first | exact HB.out | apply below_alloc | apply pw_below_drewN | apply below_drew1) | exact HB.out)) hb); clear HB; have HO211 := n0_; have HB := n1_; clear n0_ n1_; clear hb ho3; have hcv4 := own_string (P := Tryz.prog) Tryz.underlying25 Tryz.underlying5 Tryz.underlying9 (Kd.own_of_R HO211.out)))
  go_loopg [0, 3] k (fun kq v0 v3 w' => ∃ (x0_1 : Int) (x3_1 : ByteArray), v0 = .int .i64 x0_1 ∧ v3 = .string x3_1 ∧ Aside0 (spec_BerInt.l0 kq x0_1 x3_1 = some r) ∧ Aside0 (kq ≤ k) ∧ Aside0 (Below w.heap.size w w'))
  case atStart => exact ⟨(a0), (strOfNums y209), (by first | rfl | (simp; done) | (simp [*]; done)), (by first | rfl | (simp; done) | (simp [*]; done)), H', ⟨Nat.le_refl _⟩, ⟨by repeat (first | (with_reducible first | exact HB.out | apply below_alloc | apply pw_below_drewN | apply below_drew1) | exact HB.out)⟩⟩
  case round =>
    clear H'
    try clear p2
    try clear c4
    try clear hcv4
    obtain ⟨x0_1, x3_1, rfl, rfl, HA, HK1, HB⟩ := hrel
    cases gk with
    | zero => exact absurd HA.out (by simp [spec_BerInt.l0])
    | succ k1 =>
      have H := HA.out
      clear HA
      simp only [spec_BerInt.l0] at H
      by_cases c5 : x0_1 < (-128)
      · rw [if_pos c5] at H
        have c5b0 : decide (x0_1 < (-128)) = true := decide_eq_true c5
        clear c5
        obtain ⟨y212, hy212⟩ : ∃ y_ : List Int, y_ = (([(x0_1 / 256) % 256] : List Int)) := ⟨_, rfl⟩
        replace H : (if (strOfNums y212).size + x3_1.size ≤ 9223372036854775807 then (spec_BerInt.l0 k1 (x0_1 / 256) ((strOfNums y212) ++ x3_1)) else (none)) = some r := by first | (rw [hy212]; with_reducible exact H) | (have H2_ := (Option.bind_some _ _).symm.trans H; rw [hy212]; with_reducible exact H2_) | (have H2_ := (Option.bind_some _ _).symm.trans H; with_reducible exact H2_) | with_reducible exact H | (rw [hy212]; exact H) | exact H
        have Ny212 := Aside0.mk hy212
        clear hy212
        by_cases c6 : (strOfNums y212).size + x3_1.size ≤ 9223372036854775807
        · rw [if_pos c6] at H
          have c6b0 := eq_true c6
          have c6b1 : decide ((strOfNums y212).size + x3_1.size ≤ 9223372036854775807) = true := decide_eq_true c6
          try have c6b2 : (9223372036854775807 < (strOfNums y212).size + x3_1.size) = False := eq_false (Nat.not_lt.2 c6)
          have H' := Aside0.mk H
          clear H
          go_wp2_with (first | ((with_reducible refine gate_dst (N := 18) rfl ?_); refine Kd.R_lit (Kd.int .u8) _ 5 ?hg (N := 18) ?hd (xs := ([(x0_1 / 256) % 256] : List Int)) (inner := [.int .u8 ((x0_1 / 256) % 256)]) (ok := fun _ => True) (okp := fun _ => True) ?hr ?hp (fun _ hk => hk) trivial (Below.refl _ _) (Nat.le_refl _) (by simp) ?_; (case hd => rfl); (case hg => rfl); (case hr => first | (go_simp; done) | (go_simp; rfl)); (case hp => exact (Reps.one (show Kd.M (Kd.int .u8) _ _ _ ((x0_1 / 256) % 256) [.int .u8 ((x0_1 / 256) % 256)] from rfl) (Reps.none _ _))); intro v213 w7 ho8 hb hg_ hnew_; clear hg_ hnew_; (first | rw [← Ny212.out] at ho8 | (simp only [Int.reduceToNat] at ho8; rw [← Ny212.out] at ho8)); have n0_ := Aside0.mk (Kd.R_lower ho8 (below_size (by repeat (first | (with_reducible first | exact HB.out | apply below_alloc | apply pw_below_drewN | apply below_drew1) | exact HB.out)))); have n1_ := Aside0.mk (below_step (by repeat (first | (with_reducible first | exact HB.out | apply below_alloc | apply pw_below_drewN | apply below_drew1) | exact HB.out)) hb); clear HB; have HO214 := n0_; have HB := n1_; clear n0_ n1_; clear hb ho8; have hcv9 := own_string (P := Tryz.prog) Tryz.underlying25 Tryz.underlying5 Tryz.underlying9 (Kd.own_of_R HO214.out)))
          go_roundg k1
          case measure => have := HK1.out; omega
          case rel => exact ⟨(x0_1 / 256), ((strOfNums y212) ++ x3_1), (by first | rfl | (simp; done) | (simp [*]; done)), (by first | rfl | (simp; done) | (simp [*]; done)), H', ⟨by have := HK1.out; omega⟩, ⟨by repeat (first | (with_reducible first | exact HB.out | apply below_alloc | apply pw_below_drewN | apply below_drew1) | exact HB.out)⟩⟩
        · rw [if_neg c6] at H
          exact absurd H (by simp)
      · rw [if_neg c5] at H
        have c5b0 : decide (x0_1 < (-128)) = false := decide_eq_false c5
        clear c5
        by_cases c10 : x0_1 > 127
        · rw [if_pos c10] at H
          have c10b0 : decide (127 < x0_1) = true := decide_eq_true c10
          clear c10
          obtain ⟨y215, hy215⟩ : ∃ y_ : List Int, y_ = (([(x0_1 / 256) % 256] : List Int)) := ⟨_, rfl⟩
          replace H : (if (strOfNums y215).size + x3_1.size ≤ 9223372036854775807 then (spec_BerInt.l0 k1 (x0_1 / 256) ((strOfNums y215) ++ x3_1)) else (none)) = some r := by first | (rw [hy215]; with_reducible exact H) | (have H2_ := (Option.bind_some _ _).symm.trans H; rw [hy215]; with_reducible exact H2_) | (have H2_ := (Option.bind_some _ _).symm.trans H; with_reducible exact H2_) | with_reducible exact H | (rw [hy215]; exact H) | exact H
          have Ny215 := Aside0.mk hy215
          clear hy215
          by_cases c11 : (strOfNums y215).size + x3_1.size ≤ 9223372036854775807
          · rw [if_pos c11] at H
            have c11b0 := eq_true c11
            have c11b1 : decide ((strOfNums y215).size + x3_1.size ≤ 9223372036854775807) = true := decide_eq_true c11
            try have c11b2 : (9223372036854775807 < (strOfNums y215).size + x3_1.size) = False := eq_false (Nat.not_lt.2 c11)
            have H' := Aside0.mk H
            clear H
            go_wp2_with (first | ((with_reducible refine gate_dst (N := 18) rfl ?_); refine Kd.R_lit (Kd.int .u8) _ 5 ?hg (N := 18) ?hd (xs := ([(x0_1 / 256) % 256] : List Int)) (inner := [.int .u8 ((x0_1 / 256) % 256)]) (ok := fun _ => True) (okp := fun _ => True) ?hr ?hp (fun _ hk => hk) trivial (Below.refl _ _) (Nat.le_refl _) (by simp) ?_; (case hd => rfl); (case hg => rfl); (case hr => first | (go_simp; done) | (go_simp; rfl)); (case hp => exact (Reps.one (show Kd.M (Kd.int .u8) _ _ _ ((x0_1 / 256) % 256) [.int .u8 ((x0_1 / 256) % 256)] from rfl) (Reps.none _ _))); intro v216 w12 ho13 hb hg_ hnew_; clear hg_ hnew_; (first | rw [← Ny215.out] at ho13 | (simp only [Int.reduceToNat] at ho13; rw [← Ny215.out] at ho13)); have n0_ := Aside0.mk (Kd.R_lower ho13 (below_size (by repeat (first | (with_reducible first | exact HB.out | apply below_alloc | apply pw_below_drewN | apply below_drew1) | exact HB.out)))); have n1_ := Aside0.mk (below_step (by repeat (first | (with_reducible first | exact HB.out | apply below_alloc | apply pw_below_drewN | apply below_drew1) | exact HB.out)) hb); clear HB; have HO217 := n0_; have HB := n1_; clear n0_ n1_; clear hb ho13; have hcv14 := own_string (P := Tryz.prog) Tryz.underlying25 Tryz.underlying5 Tryz.underlying9 (Kd.own_of_R HO217.out)))
            go_roundg k1
            case measure => have := HK1.out; omega
            case rel => exact ⟨(x0_1 / 256), ((strOfNums y215) ++ x3_1), (by first | rfl | (simp; done) | (simp [*]; done)), (by first | rfl | (simp; done) | (simp [*]; done)), H', ⟨by have := HK1.out; omega⟩, ⟨by repeat (first | (with_reducible first | exact HB.out | apply below_alloc | apply pw_below_drewN | apply below_drew1) | exact HB.out)⟩⟩
          · rw [if_neg c11] at H
            exact absurd H (by simp)
        · rw [if_neg c10] at H
          have c10b0 : decide (127 < x0_1) = false := decide_eq_false c10
          clear c10
          obtain rfl := Option.some.inj H
          go_wp2
          go_ret
          exact ⟨by first | rfl | (simp [errW_none, errW_some] <;> rfl) | (simp [*, errW_none, errW_some] <;> rfl), by repeat (first | (with_reducible first | exact HB.out | apply below_alloc | apply pw_below_drewN | apply below_drew1) | exact HB.out)⟩

end Go.Proofs.YtdfehaonngccjaaGreatDoor.PFnResultTold
