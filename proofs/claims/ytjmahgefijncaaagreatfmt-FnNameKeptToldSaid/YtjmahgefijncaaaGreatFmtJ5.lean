/- NameType: it ends, and what it takes has plain bytes alone. -/
import Derived.Test.YtjmahgefijncaaaGreatFmtJ4
set_option linter.unusedVariables false
set_option linter.unusedSimpArgs false
namespace Go.Proofs.YtjmahgefijncaaaGreatFmt
open Go Go.RowKit

/-- A byte of a type. -/
def tyByte (n : Nat) : Prop := 97 ≤ n ∧ n ≤ 122 ∨ 65 ≤ n ∧ n ≤ 90 ∨ 48 ≤ n ∧ n ≤ 57 ∨ n = 45 ∨ n = 46
def TypeOK (l : List UInt8) : Prop := l ≠ [] ∧ ∀ c ∈ l, tyByte c.toNat

set_option maxRecDepth 100000 in
set_option maxHeartbeats 16000000 in
theorem type_any (l : List UInt8) (hl : l.length < 4000000000) (w : World) :
    Calls Tryz.prog 17 #[.string (Nm.bs l)] w fun e w' => BoolRes (TypeOK l) e ∧ Below w.heap.size w w' := by
  have hsz := bs_size l
  have htl := bs_toList l
  cases hl0 : l with
  | nil =>
    subst hl0
    go_enter Tryz.func17, Tryz.ntmps17
    go_wp2_with fail
    go_ret
    exact ⟨⟨_, rfl, fun h => by simp at h⟩, Below.refl _ _⟩
  | cons b0 l0 =>
    rw [← hl0]
    have hpos : 0 < l.length := by rw [hl0]; simp
    have hne : l ≠ [] := by rw [hl0]; simp
    have h0s : 0 < (Nm.bs l).size := by omega
    have hempty : ((Nm.bs l).toList == ([] : List UInt8)) = false := by rw [htl, beq_eq_false_iff_ne]; exact hne
    have hget0 : ((Nm.bs l)[0]'h0s).toNat = b0.toNat := by
      rw [bs_get]; simp [hl0]
    have HNE := Lib.hid hne
    clear hl0 hne htl
    have hbl := UInt8.toNat_lt b0
    generalize b0.toNat = n0 at *
    by_cases hL : 97 ≤ n0 ∧ n0 ≤ 122 ∨ 65 ≤ n0 ∧ n0 ≤ 90
    · rcases hL with hL | hL
      all_goals
        obtain ⟨hL1, hL2⟩ := hL
        first
          | (have q1 : decide ((97 : Int) ≤ (n0 : Int)) = true := by simp; omega)
          | (have q1 : decide ((97 : Int) ≤ (n0 : Int)) = false := by simp; omega)
        have q2 : decide ((65 : Int) ≤ (n0 : Int)) = true := by simp; omega
        first
          | (have q3 : decide ((n0 : Int) ≤ 90) = true := by simp; omega)
          | (have q3 : decide ((n0 : Int) ≤ 122) = true := by simp; omega)
        go_enter Tryz.func17, Tryz.ntmps17
        go_wp2_with fail
        go_loopw [30] (fun t30 wr => ∃ i : Nat, t30 = .int .i64 i ∧ i ≤ l.length ∧ Hid ((∀ c ∈ l.take i, tyByte c.toNat) ∧ Below w.heap.size w wr)) (fun t30 _ => l.length - (intOf t30).toNat)
        case atStart => exact ⟨0, rfl, Nat.zero_le _, Lib.hid ⟨by simp, Below.refl _ _⟩⟩
        case round =>
          obtain ⟨i, rfl, hi, HI⟩ := hrel
          by_cases hend : i = l.length
          · subst hend
            have t1 : decide ((l.length : Int) < (l.length : Int)) = false := by simp
            go_wp2_with fail
            go_ret
            exact ⟨⟨_, rfl, fun _ => ⟨HNE.out, by have := HI.out.1; rw [List.take_length] at this; exact this⟩⟩, HI.out.2⟩
          · have hlt : i < l.length := by omega
            have hlt2 : i < (Nm.bs l).size := by rw [hsz]; exact hlt
            have t1 : decide ((i : Int) < (l.length : Int)) = true := by simp; omega
            obtain ⟨b, hb, hget⟩ : ∃ b : UInt8, l[i]? = some b ∧ ((Nm.bs l)[i]'hlt2).toNat = b.toNat := ⟨_, List.getElem?_eq_getElem hlt, by rw [bs_get]⟩
            have hnext : tyByte b.toNat → ∀ c ∈ l.take (i + 1), tyByte c.toNat := fun h c hc => by
              rw [take_snoc hb] at hc
              rcases List.mem_append.1 hc with hc | hc
              · exact HI.out.1 c hc
              · simp only [List.mem_singleton] at hc; rw [hc]; exact h
            have HN := Lib.hid hnext
            clear hnext hb hend
            generalize b.toNat = n at *
            go_wp2_with fail
            all_goals first
              | exact ⟨⟨i + 1, by go_num, by omega, Lib.hid ⟨HN.out (by (try (rename_i h; simp at h)); unfold tyByte; omega), HI.out.2⟩⟩, by simp [intOf]; omega⟩
              | (go_ret; exact ⟨⟨_, rfl, fun h => by simp at h⟩, HI.out.2⟩)
    · have hc : n0 < 65 ∨ 90 < n0 ∧ n0 < 97 ∨ 122 < n0 := by omega
      rcases hc with hc | hc | hc
      all_goals
        first
          | (have q1 : decide ((97 : Int) ≤ (n0 : Int)) = true := by simp; omega)
          | (have q1 : decide ((97 : Int) ≤ (n0 : Int)) = false := by simp; omega)
        first
          | (have q2 : decide ((65 : Int) ≤ (n0 : Int)) = true := by simp; omega)
          | (have q2 : decide ((65 : Int) ≤ (n0 : Int)) = false := by simp; omega)
        go_enter Tryz.func17, Tryz.ntmps17
        go_wp2_with fail
        go_loopw [6, 7, 66] (fun t6 t7 t66 wr => ∃ i p d : Nat, t66 = .int .i64 i ∧ t6 = .int .i64 p ∧ t7 = .int .i64 d ∧ p ≤ i ∧ d ≤ i ∧ i ≤ l.length ∧ Hid ((∀ c ∈ l.take i, tyByte c.toNat) ∧ Below w.heap.size w wr)) (fun _ _ t66 _ => l.length - (intOf t66).toNat)
        case atStart => exact ⟨0, 0, 0, rfl, rfl, rfl, Nat.le_refl _, Nat.le_refl _, Nat.zero_le _, Lib.hid ⟨by simp, Below.refl _ _⟩⟩
        case round =>
          obtain ⟨i, p, d, rfl, rfl, rfl, hp, hd, hi, HI⟩ := hrel
          by_cases hend : i = l.length
          · subst hend
            have t1 : decide ((l.length : Int) < (l.length : Int)) = false := by simp
            go_wp2_with fail
            all_goals
              go_ret
              exact ⟨⟨_, rfl, fun _ => ⟨HNE.out, by have := HI.out.1; rw [List.take_length] at this; exact this⟩⟩, HI.out.2⟩
          · have hlt : i < l.length := by omega
            have hlt2 : i < (Nm.bs l).size := by rw [hsz]; exact hlt
            have t1 : decide ((i : Int) < (l.length : Int)) = true := by simp; omega
            obtain ⟨b, hb, hget⟩ : ∃ b : UInt8, l[i]? = some b ∧ ((Nm.bs l)[i]'hlt2).toNat = b.toNat := ⟨_, List.getElem?_eq_getElem hlt, by rw [bs_get]⟩
            have hnext : tyByte b.toNat → ∀ c ∈ l.take (i + 1), tyByte c.toNat := fun h c hc => by
              rw [take_snoc hb] at hc
              rcases List.mem_append.1 hc with hc | hc
              · exact HI.out.1 c hc
              · simp only [List.mem_singleton] at hc; rw [hc]; exact h
            have HN := Lib.hid hnext
            clear hnext hb hend
            generalize b.toNat = n at *
            by_cases hd1 : d = 1
            · subst hd1
              obtain ⟨k, rfl⟩ : ∃ k, i = k + 1 := ⟨i - 1, by omega⟩
              have hk : k < (Nm.bs l).size := by omega
              have hk0 : (0 : Int) ≤ (k : Int) := by omega
              have hk1 : (k : Int) < ((Nm.bs l).size : Int) := by omega
              go_wp2_with fail
              all_goals first
                | exact ⟨⟨k + 1 + 1, p, 2, by go_num, by go_num, by go_num, by omega, by omega, by omega, Lib.hid ⟨HN.out (by (try (rename_i h; simp at h)); unfold tyByte; omega), HI.out.2⟩⟩, by simp [intOf]; omega⟩
                | exact ⟨⟨k + 1 + 1, p + 1, 0, by go_num, by go_num, by go_num, by omega, by omega, by omega, Lib.hid ⟨HN.out (by (try (rename_i h; simp at h)); unfold tyByte; omega), HI.out.2⟩⟩, by simp [intOf]; omega⟩
                | (go_ret; exact ⟨⟨_, rfl, fun h => by simp at h⟩, HI.out.2⟩)
            · have q3 : ((d : Int) == 1) = false := by rw [beq_eq_false_iff_ne]; omega
              go_wp2_with fail
              all_goals first
                | exact ⟨⟨i + 1, p, d + 1, by go_num, by go_num, by go_num, by omega, by omega, by omega, Lib.hid ⟨HN.out (by (try (rename_i h; simp at h)); unfold tyByte; omega), HI.out.2⟩⟩, by simp [intOf]; omega⟩
                | exact ⟨⟨i + 1, p + 1, 0, by go_num, by go_num, by go_num, by omega, by omega, by omega, Lib.hid ⟨HN.out (by (try (rename_i h; simp at h)); unfold tyByte; omega), HI.out.2⟩⟩, by simp [intOf]; omega⟩
                | (go_ret; exact ⟨⟨_, rfl, fun h => by simp at h⟩, HI.out.2⟩)
end Go.Proofs.YtjmahgefijncaaaGreatFmt

