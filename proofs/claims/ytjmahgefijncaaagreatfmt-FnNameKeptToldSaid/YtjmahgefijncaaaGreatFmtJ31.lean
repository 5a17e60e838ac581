/- zzBlank. -/
import Derived.Test.YtjmahgefijncaaaGreatFmtJ1
set_option linter.unusedVariables false
set_option linter.unusedSimpArgs false
namespace Go.Proofs.YtjmahgefijncaaaGreatFmt
open Go Go.RowKit

theorem blank_step {l : List UInt8} {i : Nat} {b : UInt8} (h : l[i]? = some b) : Nm.blank (l.drop i) = ((b == 32 || (9 ≤ b && b ≤ 13)) && Nm.blank (l.drop (i + 1))) := by
  have hi : i < l.length := by
    rcases Nat.lt_or_ge i l.length with h2 | h2
    · exact h2
    · rw [List.getElem?_eq_none h2] at h; cases h
  rw [List.drop_eq_getElem_cons hi]
  rw [List.getElem?_eq_getElem hi] at h
  rw [Option.some.inj h]
  rfl

set_option maxRecDepth 100000 in
set_option maxHeartbeats 4000000 in
theorem blank_any (l : List UInt8) (hl : l.length < 1000000000) (w : World) :
    Calls Tryz.prog 66 #[.string (Nm.bs l)] w fun e w' => e = .returned (.bool (Nm.blank l)) ∧ w = w' := by
  have hsz := bs_size l
  go_enter Tryz.func66, Tryz.ntmps66
  go_wp2_with fail
  go_loopw [3] (fun t3 wr => ∃ i : Nat, t3 = .int .i64 i ∧ i ≤ l.length ∧ Nm.blank l = Nm.blank (l.drop i) ∧ w = wr) (fun t3 _ => l.length - (intOf t3).toNat)
  case atStart => exact ⟨0, rfl, Nat.zero_le _, rfl, rfl⟩
  case round =>
    obtain ⟨i, rfl, hi, hbl, rfl⟩ := hrel
    by_cases hend : i = l.length
    · have t1 : decide ((i : Int) < (l.length : Int)) = false := by simp; omega
      have hr : Nm.blank l = true := by rw [hbl, List.drop_of_length_le (by omega)]; rfl
      have HR := Lib.hid hr
      clear hr hbl
      go_wp2_with fail
      go_ret
      exact ⟨by rw [HR.out]; rfl, rfl⟩
    · have hlt : i < l.length := by omega
      have hlt2 : i < (Nm.bs l).size := by rw [hsz]; exact hlt
      have t1 : decide ((i : Int) < (l.length : Int)) = true := by simp; omega
      obtain ⟨b, hb, hget⟩ : ∃ b : UInt8, l[i]? = some b ∧ ((Nm.bs l)[i]'hlt2).toNat = b.toNat := ⟨_, List.getElem?_eq_getElem hlt, by rw [bs_get]⟩
      rw [blank_step hb] at hbl
      have h32 : b = 32 ↔ b.toNat = 32 := ⟨fun h => by rw [h]; rfl, fun h => UInt8.toNat_inj.1 (by rw [h]; rfl)⟩
      have h9 : (9 ≤ b) ↔ 9 ≤ b.toNat := by rw [UInt8.le_iff_toNat_le]; rfl
      have h13 : (b ≤ 13) ↔ b.toNat ≤ 13 := by rw [UInt8.le_iff_toNat_le]; rfl
      have HBL := Lib.hid hbl
      clear hbl hend hb
      have hcase : b.toNat = 32 ∨ b.toNat < 9 ∨ (9 ≤ b.toNat ∧ b.toNat ≤ 13) ∨ (13 < b.toNat ∧ b.toNat ≠ 32) := by omega
      have hgood : (b.toNat = 32 ∨ 9 ≤ b.toNat ∧ b.toNat ≤ 13) → Nm.blank l = Nm.blank (l.drop (i + 1)) := fun h => by
        rw [HBL.out]
        have : (b == 32 || (decide (9 ≤ b) && decide (b ≤ 13))) = true := by
          rcases h with h | h
          · rw [h32.2 h]; rfl
          · simp [h9, h13, h]
        rw [this, Bool.true_and]
      have hbad : ¬ (b.toNat = 32 ∨ 9 ≤ b.toNat ∧ b.toNat ≤ 13) → Nm.blank l = false := fun h => by
        rw [HBL.out]
        have : (b == 32 || (decide (9 ≤ b) && decide (b ≤ 13))) = false := by
          simp only [Bool.or_eq_false_iff, beq_eq_false_iff_ne, ne_eq, h32, h9, h13, Bool.and_eq_false_iff, decide_eq_false_iff_not]
          omega
        rw [this, Bool.false_and]
      have HG := Lib.hid hgood
      have HB := Lib.hid hbad
      clear hgood hbad h32 h9 h13
      generalize b.toNat = n at *
      rcases hcase with h | h | h | h
      · have q1 : ((n : Int) == 32) = true := by rw [h]; rfl
        have q2 : ((n : Int) != 32) = false := by rw [h]; rfl
        have HN := Lib.hid (HG.out (Or.inl h))
        clear h
        go_wp2_with fail
        exact ⟨⟨i + 1, by go_num, by omega, HN.out, trivial⟩, by simp [intOf]; omega⟩
      · have q2 : ((n : Int) != 32) = true := by rw [bne_iff_ne]; omega
        have q3 : decide ((n : Int) < 9) = true := by simp; omega
        have HN := Lib.hid (HB.out (by omega))
        clear h
        go_wp2_with fail
        go_ret
        exact ⟨by rw [HN.out]; rfl, rfl⟩
      · have q2 : ((n : Int) != 32) = true := by rw [bne_iff_ne]; omega
        have q3 : decide ((n : Int) < 9) = false := by simp; omega
        have q4 : decide ((n : Int) > 13) = false := by simp; omega
        have HN := Lib.hid (HG.out (Or.inr h))
        clear h
        go_wp2_with fail
        exact ⟨⟨i + 1, by go_num, by omega, HN.out, trivial⟩, by simp [intOf]; omega⟩
      · have q2 : ((n : Int) != 32) = true := by rw [bne_iff_ne]; omega
        have q3 : decide ((n : Int) < 9) = false := by simp; omega
        have q4 : decide ((n : Int) > 13) = true := by simp; omega
        have HN := Lib.hid (HB.out (by omega))
        clear h
        go_wp2_with fail
        go_ret
        exact ⟨by rw [HN.out]; rfl, rfl⟩
end Go.Proofs.YtjmahgefijncaaaGreatFmt

