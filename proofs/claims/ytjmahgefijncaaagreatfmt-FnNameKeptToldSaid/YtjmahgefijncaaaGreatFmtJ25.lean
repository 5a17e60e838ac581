/- unicode/utf8.Valid: it ends. -/
import Derived.Test.YtjmahgefijncaaaGreatFmtJ24
set_option linter.unusedVariables false
set_option linter.unusedSimpArgs false
namespace Go.Proofs.YtjmahgefijncaaaGreatFmt
open Go Go.RowKit

set_option maxRecDepth 100000 in
set_option maxHeartbeats 16000000 in
theorem utf8_valid (w : World) (G L c : Nat) (l : Nat → Nat) (hL : L < 1000000) (hLc : L ≤ c) (hG : G < w.heap.size) (hM : UtvMem w G L l) :
    Calls Tryz.prog 128 #[.slice (some ⟨G, 0, none⟩) L c] w fun e w' => BoolOut w e w' := by
  have HM := Lib.hid (fun (w2 : World) (h : Below w.heap.size w w2) => hM.stays h)
  clear hM
  have i0 : (0 : Int) ≤ (L : Int) := by omega
  have i1 : (L : Int) ≤ (c : Int) := by omega
  go_enter Tryz.func128, Tryz.ntmps128
  go_wp2_with fail
  go_loopw [0] (fun t0 wr => ∃ (o n : Nat), t0 = .slice (some ⟨G, o, none⟩) n n ∧ (n = 0 ∨ o + n = L) ∧ n ≤ L ∧ Hid (Below w.heap.size w wr)) (fun t0 _ => match t0 with | .slice _ n _ => n | _ => 0)
  case atStart => exact ⟨0, L, by simp, Or.inr (by omega), Nat.le_refl _, Lib.hid (Below.refl _ _)⟩
  case round =>
    obtain ⟨o, n, rfl, hon, hnL, HB⟩ := hrel
    have hsz := HB.out.size
    by_cases hn : n = 0
    · subst hn
      go_wp2_with fail
      go_ret
      exact ⟨⟨_, rfl⟩, HB.out⟩
    have hon2 : o + n = L := by omega
    have HMr := Lib.hid (HM.out wr HB.out)
    have k0 := HMr.out.cell o (by omega)
    have hb0 := HMr.out.byte o
    have p0 : (0 : Int) < (n : Int) := by omega
    have p0' : 0 < n := by omega
    by_cases h128 : l o < 128
    · as_aux_lemma =>
        by_cases hn1 : n = 1
        · subst hn1
          go_wp2_with fail
          exact ⟨⟨o, 0, rfl, Or.inl rfl, by omega, HB⟩, by simp⟩
        · have hn2 : ¬ n ≤ 1 := by omega
          have hn3 : 1 ≤ n := by omega
          have hn4 : ¬ n = 1 := hn1
          have HBr : Hid (∀ m, Below w.heap.size w (wr.drewN m)) := Lib.hid (fun m => ⟨HB.out.os, HB.out.tape, HB.out.output, HB.out.size, HB.out.block⟩)
          obtain ⟨r, hr⟩ : ∃ r, r = (decide (8 < n - 1) && (bits BinOp.and IntKind.u64 (wordAt l (o + 1)) 9259542123273814144 == 0)) := ⟨_, rfl⟩
          have HR := Lib.hid hr
          clear hr
          have t128 : decide ((l o : Int) < 128) = true := by simp; omega
          go_upto_region 6 with (fail)
          go_cut [31] from 23 to 31 (fun t31 wx => t31 = .bool r ∧ Hid (∃ m, wx = wr.drewN m))
          case first =>
            by_cases h8 : 8 < n - 1
            · have HW := Lib.hid (word_mem HMr.out (o + 1) (n - 1) (n - 1) (by omega) (by omega) (by omega))
              go_wp2_with fail
              refine HW.out.mono ?_
              rintro e w2 ⟨rfl, m, rfl⟩
              go_wp2_with fail
              go_meet
              exact ⟨by rw [HR.out, decide_eq_true h8]; rfl, Lib.hid ⟨m, rfl⟩⟩
            · go_wp2_with fail
              go_meet
              exact ⟨by rw [HR.out, decide_eq_false h8]; rfl, Lib.hid ⟨0, rfl⟩⟩
          case rest =>
            obtain ⟨rfl, HX⟩ := hcut
            obtain ⟨m, rfl⟩ := HX.out
            have HBm := Lib.hid (HBr.out m)
            clear HX HBr HMr k0 HB hsz
            generalize wr.drewN m = wa at *
            clear m wr
            cases r with
            | false =>
              clear HR
              go_wp2_with fail
              exact ⟨⟨o + 1, n - 1, rfl, Or.inr (by omega), by omega, HBm⟩, by simp; omega⟩
            | true =>
              have h8 : 8 < n - 1 := by
                have := HR.out.symm
                rw [Bool.and_eq_true, decide_eq_true_eq] at this
                exact this.1
              clear HR
              have h8' : 8 ≤ n - 1 := by omega
              have h8n : ¬ n - 1 = 8 := by omega
              obtain ⟨n2, hn2d⟩ : ∃ n2, n2 = n - 1 - 8 := ⟨_, rfl⟩
              have hn2p : 0 < n2 := by omega
              obtain ⟨r2, hr2⟩ : ∃ r2, r2 = (decide (16 < n - 1 - 8) && (bits BinOp.and IntKind.u64 (bits BinOp.or IntKind.u64 (wordAt l (o + 1 + 8)) (wordAt l (o + 1 + 8 + 8))) 9259542123273814144 == 0)) := ⟨_, rfl⟩
              have HR2 := Lib.hid hr2
              clear hr2
              have HMm := Lib.hid (fun k => HM.out (wa.drewN k) ⟨HBm.out.os, HBm.out.tape, HBm.out.output, HBm.out.size, HBm.out.block⟩)
              go_upto_region 8 with (fail)
              go_cut [46] from 34 to 46 (fun t46 wx => t46 = .bool r2 ∧ Hid (∃ m, wx = wa.drewN m))
              case first =>
                by_cases h16 : 16 < n - 1 - 8
                · have HW1 := Lib.hid (fun k => word_mem (HMm.out k) (o + 1 + 8) (n - 1 - 8) (n - 1 - 8) (by omega) (by omega) (by omega))
                  have HW2 := Lib.hid (fun k => word_mem (HMm.out k) (o + 1 + 8 + 8) (n - 1 - 8 - 8) (n - 1 - 8 - 8) (by omega) (by omega) (by omega))
                  have t16 : decide (((n - 1 - 8 : Nat) : Int) > 16) = true := by simp; omega
                  have g8 : 8 ≤ n - 1 - 8 := by omega
                  have g8n : ¬ n - 1 - 8 = 8 := by omega
                  go_wp2_with fail
                  go_quiet (first | with_reducible exact Calls.quiet_of (HW1.out _) | with_reducible exact Calls.quiet_of (HW2.out _))
                  go_wp2_with fail
                  go_meet
                  exact ⟨by rw [HR2.out, decide_eq_true h16]; rfl, Lib.hid ⟨nq, rfl⟩⟩
                · have t16 : decide (((n - 1 - 8 : Nat) : Int) > 16) = false := by simp; omega
                  go_wp2_with fail
                  go_quiet (fail)
                  go_wp2_with fail
                  go_meet
                  exact ⟨by rw [HR2.out, decide_eq_false h16]; rfl, Lib.hid ⟨nq, rfl⟩⟩
              case rest =>
                obtain ⟨rfl, HX⟩ := hcut
                obtain ⟨m2, rfl⟩ := HX.out
                have HBm2 : Hid (Below w.heap.size w (wa.drewN m2)) := Lib.hid ⟨HBm.out.os, HBm.out.tape, HBm.out.output, HBm.out.size, HBm.out.block⟩
                clear HX HBm HMm
                generalize wa.drewN m2 = wb at *
                clear m2 wa
                cases r2 with
                | false =>
                  clear HR2
                  go_wp2_with fail
                  exact ⟨⟨o + 1 + 8, n - 1 - 8, rfl, Or.inr (by omega), by omega, HBm2⟩, by simp; omega⟩
                | true =>
                  have h16 : 16 < n - 1 - 8 := by
                    have := HR2.out.symm
                    rw [Bool.and_eq_true, decide_eq_true_eq] at this
                    exact this.1
                  clear HR2
                  have h16' : 16 ≤ n - 1 - 8 := by omega
                  have h16n : ¬ n - 1 - 8 = 16 := by omega
                  go_wp2_with fail
                  have HB0 := HBm2
                  clear HBm2
                  go_loopw [0] (fun t0 wr => ∃ (o' n' : Nat), t0 = .slice (some ⟨G, o', none⟩) n' n' ∧ o' + n' = L ∧ n' ≤ L ∧ 0 < n' ∧ n' < n ∧ Hid (Below w.heap.size w wr)) (fun t0 _ => match t0 with | .slice _ n _ => n | _ => 0)
                  case atStart => exact ⟨_, _, rfl, by omega, by omega, by omega, by omega, HB0⟩
                  case round =>
                    clear HB0
                    obtain ⟨o3, n3, rfl, hon3, hnL3, hp3, hn3n, HB3⟩ := hrel
                    clear hn1 hn2 hn3 hn4 t128 h8 h8' h8n hn2p h16 h16' h16n hn2d n2 hn hon hon2 p0 p0' hnL
                    obtain ⟨r3, hr3⟩ : ∃ r3, r3 = (decide (32 < n3) && (bits BinOp.and IntKind.u64 (bits BinOp.or IntKind.u64 (bits BinOp.or IntKind.u64 (wordAt l o3) (wordAt l (o3 + 8))) (bits BinOp.or IntKind.u64 (wordAt l (o3 + 16)) (wordAt l (o3 + 24)))) 9259542123273814144 == 0)) := ⟨_, rfl⟩
                    have HR3 := Lib.hid hr3
                    clear hr3
                    have HM3 := Lib.hid (fun k => HM.out (wr.drewN k) ⟨HB3.out.os, HB3.out.tape, HB3.out.output, HB3.out.size, HB3.out.block⟩)
                    go_upto_region 10 with (fail)
                    go_cut [69] from 49 to 69 (fun t69 wx => t69 = .bool r3 ∧ Hid (∃ m, wx = wr.drewN m))
                    case first =>
                      by_cases h32 : 32 < n3
                      · have HV1 := Lib.hid (fun k => word_mem (HM3.out k) o3 n3 n3 (by omega) (by omega) (by omega))
                        have HV2 := Lib.hid (fun k => word_mem (HM3.out k) (o3 + 8) (n3 - 8) (n3 - 8) (by omega) (by omega) (by omega))
                        have HV3 := Lib.hid (fun k => word_mem (HM3.out k) (o3 + 16) (n3 - 16) (n3 - 16) (by omega) (by omega) (by omega))
                        have HV4 := Lib.hid (fun k => word_mem (HM3.out k) (o3 + 24) (n3 - 24) (n3 - 24) (by omega) (by omega) (by omega))
                        have t32 : decide ((n3 : Int) > 32) = true := by simp; omega
                        have g8 : 8 ≤ n3 := by omega
                        have g8n : ¬ n3 = 8 := by omega
                        have g16 : 16 ≤ n3 := by omega
                        have g16n : ¬ n3 = 16 := by omega
                        have g24 : 24 ≤ n3 := by omega
                        have g24n : ¬ n3 = 24 := by omega
                        go_wp2_with fail
                        go_quiet (first | with_reducible exact Calls.quiet_of (HV1.out _) | with_reducible exact Calls.quiet_of (HV2.out _) | with_reducible exact Calls.quiet_of (HV3.out _) | with_reducible exact Calls.quiet_of (HV4.out _))
                        go_wp2_with fail
                        go_meet
                        exact ⟨by rw [HR3.out, decide_eq_true h32]; rfl, Lib.hid ⟨nq, rfl⟩⟩
                      · have t32 : decide ((n3 : Int) > 32) = false := by simp; omega
                        go_wp2_with fail
                        go_quiet (fail)
                        go_wp2_with fail
                        go_meet
                        exact ⟨by rw [HR3.out, decide_eq_false h32]; rfl, Lib.hid ⟨nq, rfl⟩⟩
                    case rest =>
                      obtain ⟨rfl, HX⟩ := hcut
                      obtain ⟨m3, rfl⟩ := HX.out
                      have HBm3 : Hid (Below w.heap.size w (wr.drewN m3)) := Lib.hid ⟨HB3.out.os, HB3.out.tape, HB3.out.output, HB3.out.size, HB3.out.block⟩
                      clear HX HB3 HM3
                      generalize wr.drewN m3 = wd at *
                      clear m3 wr
                      cases r3 with
                      | false =>
                        clear HR3
                        go_wp2_with fail
                        exact ⟨⟨o3, n3, rfl, Or.inr (by omega), by omega, HBm3⟩, by simp; omega⟩
                      | true =>
                        have h32 : 32 < n3 := by
                          have := HR3.out.symm
                          rw [Bool.and_eq_true, decide_eq_true_eq] at this
                          exact this.1
                        clear HR3
                        have h32' : 32 ≤ n3 := by omega
                        have h32n : ¬ n3 = 32 := by omega
                        go_wp2_with fail
                        exact ⟨⟨o3 + 32, n3 - 32, rfl, by omega, by omega, by omega, by omega, HBm3⟩, by simp; omega⟩
    · obtain ⟨x, hx, hcx⟩ := HMr.out.tab.first (l o) hb0
      obtain ⟨lo, hi, ha1, ha2⟩ := HMr.out.tab.acc (x / 16) (by omega)
      have t128 : decide ((l o : Int) < 128) = false := by simp; omega
      have HBn : Hid (∀ m, Below w.heap.size w ((wr.alloc (.cells #[.int .u8 lo, .int .u8 hi] 224)).drewN m)) := Lib.hid (fun m => by
        have h := HB.out.alloc hsz (.cells #[.int .u8 lo, .int .u8 hi] 224)
        exact ⟨h.os, h.tape, h.output, h.size, h.block⟩)
      have HMc : Hid (∀ j, j < L → (wr.alloc (.cells #[.int .u8 lo, .int .u8 hi] 224)).cell? ⟨G, j, none⟩ = some (.int .u8 (l j : Int))) := Lib.hid (fun j hj => cell_alloc (HMr.out.cell j hj) _)
      clear HB hon hn
      have h8 : x % 8 = 2 ∨ x % 8 = 3 ∨ x % 8 = 4 ∨ x % 8 ≠ 2 ∧ x % 8 ≠ 3 ∧ x % 8 ≠ 4 := by omega
      rcases h8 with h8 | h8 | h8 | ⟨h82, h83, h84⟩
      · have s2 : ((x : Int) % 8 == 2) = true := by first | (rw [beq_iff_eq]; omega) | (rw [beq_eq_false_iff_ne]; omega)
        have s3 : ((x : Int) % 8 == 3) = false := by first | (rw [beq_iff_eq]; omega) | (rw [beq_eq_false_iff_ne]; omega)
        have s4 : ((x : Int) % 8 == 4) = false := by first | (rw [beq_iff_eq]; omega) | (rw [beq_eq_false_iff_ne]; omega)
        as_aux_lemma =>
          by_cases hsh : n < 2
          · have d0 : decide ((n : Int) < 2) = true := by simp; omega
            go_wp2_with fail
            go_quiet (fail)
            go_wp2_with fail
            go_ret
            exact ⟨⟨_, rfl⟩, HBn.out _⟩
          have d0 : decide ((n : Int) < 2) = false := by simp; omega
          have b1 := HMc.out (o + 1) (by omega)
          have g1 : 1 < n := by omega
          by_cases q0 : ((l (o + 1) : Nat) : Int) < (lo : Int)
          · have d1 : decide (((l (o + 1) : Nat) : Int) < (lo : Int)) = true := by simpa using q0
            go_wp2_with fail
            go_quiet (fail)
            go_wp2_with fail
            go_ret
            exact ⟨⟨_, rfl⟩, HBn.out _⟩
          have d1 : decide (((l (o + 1) : Nat) : Int) < (lo : Int)) = false := by simpa using q0
          have n1 : ¬ l (o + 1) < lo := by omega
          have m1 : lo ≤ l (o + 1) := by omega
          by_cases q1 : (hi : Int) < ((l (o + 1) : Nat) : Int)
          · have d2 : decide ((hi : Int) < ((l (o + 1) : Nat) : Int)) = true := by simpa using q1
            go_wp2_with fail
            go_quiet (fail)
            go_wp2_with fail
            go_ret
            exact ⟨⟨_, rfl⟩, HBn.out _⟩
          have d2 : decide ((hi : Int) < ((l (o + 1) : Nat) : Int)) = false := by simpa using q1
          have n2 : ¬ hi < l (o + 1) := by omega
          have m2 : l (o + 1) ≤ hi := by omega
          have k0 : 2 ≤ n := by omega
          by_cases hnk : n = 2
          · subst hnk
            go_wp2_with fail
            go_quiet (fail)
            go_wp2_with fail
            exact ⟨⟨o, 0, by simp, Or.inl rfl, by omega, Lib.hid (HBn.out _)⟩, by simp⟩
          · go_wp2_with fail
            go_quiet (fail)
            go_wp2_with fail
            exact ⟨⟨o + 2, n - 2, rfl, Or.inr (by omega), by omega, Lib.hid (HBn.out _)⟩, by simp; omega⟩
      · have s2 : ((x : Int) % 8 == 2) = false := by first | (rw [beq_iff_eq]; omega) | (rw [beq_eq_false_iff_ne]; omega)
        have s3 : ((x : Int) % 8 == 3) = true := by first | (rw [beq_iff_eq]; omega) | (rw [beq_eq_false_iff_ne]; omega)
        have s4 : ((x : Int) % 8 == 4) = false := by first | (rw [beq_iff_eq]; omega) | (rw [beq_eq_false_iff_ne]; omega)
        as_aux_lemma =>
          by_cases hsh : n < 3
          · have d0 : decide ((n : Int) < 3) = true := by simp; omega
            go_wp2_with fail
            go_quiet (fail)
            go_wp2_with fail
            go_ret
            exact ⟨⟨_, rfl⟩, HBn.out _⟩
          have d0 : decide ((n : Int) < 3) = false := by simp; omega
          have b1 := HMc.out (o + 1) (by omega)
          have g1 : 1 < n := by omega
          have b2 := HMc.out (o + 2) (by omega)
          have g2 : 2 < n := by omega
          by_cases q0 : ((l (o + 1) : Nat) : Int) < (lo : Int)
          · have d1 : decide (((l (o + 1) : Nat) : Int) < (lo : Int)) = true := by simpa using q0
            go_wp2_with fail
            go_quiet (fail)
            go_wp2_with fail
            go_ret
            exact ⟨⟨_, rfl⟩, HBn.out _⟩
          have d1 : decide (((l (o + 1) : Nat) : Int) < (lo : Int)) = false := by simpa using q0
          have n1 : ¬ l (o + 1) < lo := by omega
          have m1 : lo ≤ l (o + 1) := by omega
          by_cases q1 : (hi : Int) < ((l (o + 1) : Nat) : Int)
          · have d2 : decide ((hi : Int) < ((l (o + 1) : Nat) : Int)) = true := by simpa using q1
            go_wp2_with fail
            go_quiet (fail)
            go_wp2_with fail
            go_ret
            exact ⟨⟨_, rfl⟩, HBn.out _⟩
          have d2 : decide ((hi : Int) < ((l (o + 1) : Nat) : Int)) = false := by simpa using q1
          have n2 : ¬ hi < l (o + 1) := by omega
          have m2 : l (o + 1) ≤ hi := by omega
          by_cases q2 : ((l (o + 2) : Nat) : Int) < 128
          · have d3 : decide (((l (o + 2) : Nat) : Int) < 128) = true := by simpa using q2
            go_wp2_with fail
            go_quiet (fail)
            go_wp2_with fail
            go_ret
            exact ⟨⟨_, rfl⟩, HBn.out _⟩
          have d3 : decide (((l (o + 2) : Nat) : Int) < 128) = false := by simpa using q2
          have n3 : ¬ l (o + 2) < 128 := by omega
          have m3 : 128 ≤ l (o + 2) := by omega
          by_cases q3 : 191 < ((l (o + 2) : Nat) : Int)
          · have d4 : decide (191 < ((l (o + 2) : Nat) : Int)) = true := by simpa using q3
            go_wp2_with fail
            go_quiet (fail)
            go_wp2_with fail
            go_ret
            exact ⟨⟨_, rfl⟩, HBn.out _⟩
          have d4 : decide (191 < ((l (o + 2) : Nat) : Int)) = false := by simpa using q3
          have n4 : ¬ 191 < l (o + 2) := by omega
          have m4 : l (o + 2) ≤ 191 := by omega
          have k0 : 3 ≤ n := by omega
          by_cases hnk : n = 3
          · subst hnk
            go_wp2_with fail
            go_quiet (fail)
            go_wp2_with fail
            exact ⟨⟨o, 0, by simp, Or.inl rfl, by omega, Lib.hid (HBn.out _)⟩, by simp⟩
          · go_wp2_with fail
            go_quiet (fail)
            go_wp2_with fail
            exact ⟨⟨o + 3, n - 3, rfl, Or.inr (by omega), by omega, Lib.hid (HBn.out _)⟩, by simp; omega⟩
      · have s2 : ((x : Int) % 8 == 2) = false := by first | (rw [beq_iff_eq]; omega) | (rw [beq_eq_false_iff_ne]; omega)
        have s3 : ((x : Int) % 8 == 3) = false := by first | (rw [beq_iff_eq]; omega) | (rw [beq_eq_false_iff_ne]; omega)
        have s4 : ((x : Int) % 8 == 4) = true := by first | (rw [beq_iff_eq]; omega) | (rw [beq_eq_false_iff_ne]; omega)
        as_aux_lemma =>
          by_cases hsh : n < 4
          · have d0 : decide ((n : Int) < 4) = true := by simp; omega
            go_wp2_with fail
            go_quiet (fail)
            go_wp2_with fail
            go_ret
            exact ⟨⟨_, rfl⟩, HBn.out _⟩
          have d0 : decide ((n : Int) < 4) = false := by simp; omega
          have b1 := HMc.out (o + 1) (by omega)
          have g1 : 1 < n := by omega
          have b2 := HMc.out (o + 2) (by omega)
          have g2 : 2 < n := by omega
          have b3 := HMc.out (o + 3) (by omega)
          have g3 : 3 < n := by omega
          by_cases q0 : ((l (o + 1) : Nat) : Int) < (lo : Int)
          · have d1 : decide (((l (o + 1) : Nat) : Int) < (lo : Int)) = true := by simpa using q0
            go_wp2_with fail
            go_quiet (fail)
            go_wp2_with fail
            go_ret
            exact ⟨⟨_, rfl⟩, HBn.out _⟩
          have d1 : decide (((l (o + 1) : Nat) : Int) < (lo : Int)) = false := by simpa using q0
          have n1 : ¬ l (o + 1) < lo := by omega
          have m1 : lo ≤ l (o + 1) := by omega
          by_cases q1 : (hi : Int) < ((l (o + 1) : Nat) : Int)
          · have d2 : decide ((hi : Int) < ((l (o + 1) : Nat) : Int)) = true := by simpa using q1
            go_wp2_with fail
            go_quiet (fail)
            go_wp2_with fail
            go_ret
            exact ⟨⟨_, rfl⟩, HBn.out _⟩
          have d2 : decide ((hi : Int) < ((l (o + 1) : Nat) : Int)) = false := by simpa using q1
          have n2 : ¬ hi < l (o + 1) := by omega
          have m2 : l (o + 1) ≤ hi := by omega
          by_cases q2 : ((l (o + 2) : Nat) : Int) < 128
          · have d3 : decide (((l (o + 2) : Nat) : Int) < 128) = true := by simpa using q2
            go_wp2_with fail
            go_quiet (fail)
            go_wp2_with fail
            go_ret
            exact ⟨⟨_, rfl⟩, HBn.out _⟩
          have d3 : decide (((l (o + 2) : Nat) : Int) < 128) = false := by simpa using q2
          have n3 : ¬ l (o + 2) < 128 := by omega
          have m3 : 128 ≤ l (o + 2) := by omega
          by_cases q3 : 191 < ((l (o + 2) : Nat) : Int)
          · have d4 : decide (191 < ((l (o + 2) : Nat) : Int)) = true := by simpa using q3
            go_wp2_with fail
            go_quiet (fail)
            go_wp2_with fail
            go_ret
            exact ⟨⟨_, rfl⟩, HBn.out _⟩
          have d4 : decide (191 < ((l (o + 2) : Nat) : Int)) = false := by simpa using q3
          have n4 : ¬ 191 < l (o + 2) := by omega
          have m4 : l (o + 2) ≤ 191 := by omega
          by_cases q4 : ((l (o + 3) : Nat) : Int) < 128
          · have d5 : decide (((l (o + 3) : Nat) : Int) < 128) = true := by simpa using q4
            go_wp2_with fail
            go_quiet (fail)
            go_wp2_with fail
            go_ret
            exact ⟨⟨_, rfl⟩, HBn.out _⟩
          have d5 : decide (((l (o + 3) : Nat) : Int) < 128) = false := by simpa using q4
          have n5 : ¬ l (o + 3) < 128 := by omega
          have m5 : 128 ≤ l (o + 3) := by omega
          by_cases q5 : 191 < ((l (o + 3) : Nat) : Int)
          · have d6 : decide (191 < ((l (o + 3) : Nat) : Int)) = true := by simpa using q5
            go_wp2_with fail
            go_quiet (fail)
            go_wp2_with fail
            go_ret
            exact ⟨⟨_, rfl⟩, HBn.out _⟩
          have d6 : decide (191 < ((l (o + 3) : Nat) : Int)) = false := by simpa using q5
          have n6 : ¬ 191 < l (o + 3) := by omega
          have m6 : l (o + 3) ≤ 191 := by omega
          have k0 : 4 ≤ n := by omega
          by_cases hnk : n = 4
          · subst hnk
            go_wp2_with fail
            go_quiet (fail)
            go_wp2_with fail
            exact ⟨⟨o, 0, by simp, Or.inl rfl, by omega, Lib.hid (HBn.out _)⟩, by simp⟩
          · go_wp2_with fail
            go_quiet (fail)
            go_wp2_with fail
            exact ⟨⟨o + 4, n - 4, rfl, Or.inr (by omega), by omega, Lib.hid (HBn.out _)⟩, by simp; omega⟩
      · have s2 : ((x : Int) % 8 == 2) = false := by rw [beq_eq_false_iff_ne]; omega
        have s3 : ((x : Int) % 8 == 3) = false := by rw [beq_eq_false_iff_ne]; omega
        have s4 : ((x : Int) % 8 == 4) = false := by rw [beq_eq_false_iff_ne]; omega
        go_wp2_with fail
        go_ret
        exact ⟨⟨_, rfl⟩, HBn.out 0⟩
end Go.Proofs.YtjmahgefijncaaaGreatFmt

