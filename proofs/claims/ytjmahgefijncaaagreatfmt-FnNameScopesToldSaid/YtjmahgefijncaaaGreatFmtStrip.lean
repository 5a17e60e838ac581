/- stripLeadingAndTrailingSpaces. -/
import Derived.Test.YtjmahgefijncaaaGreatFmtTrim
namespace Go.Proofs.YtjmahgefijncaaaGreatFmt
open Go Go.RowKit

theorem trimL_le (l : List UInt8) : (Nm.trimL l).length ≤ l.length := by
  unfold Nm.trimL
  exact (List.dropWhile_sublist _).length_le
theorem trimR_le (l : List UInt8) : (Nm.trimR l).length ≤ l.length := by
  unfold Nm.trimR
  rw [List.length_take]; omega

set_option maxRecDepth 100000 in
set_option maxHeartbeats 4000000 in
theorem trim_sp (l : List UInt8) (hl : l.length < 1000000000) (w : World) :
    Calls Tryz.prog 108 #[.string (Nm.bs l), .string ⟨#[32]⟩] w fun e w' => e = .returned (.string (Nm.bs (Nm.trimR (Nm.trimL l)))) ∧ Below w.heap.size w w' := by
  have h1 := trimL_le l
  go_enter Tryz.func108, Tryz.ntmps108
  go_wp2_with fail
  refine (triml_sp l w).mono ?_
  rintro e w1 ⟨rfl, hb⟩
  have HB := Lib.hid hb
  clear hb
  go_wp2_with fail
  refine (trimr_sp (Nm.trimL l) (by omega) w1).mono ?_
  rintro e w2 ⟨rfl, hb⟩
  have HB2 := Lib.hid (HB.out.trans (hb.mono HB.out.size))
  clear hb
  go_wp2_with fail
  go_ret
  exact ⟨rfl, HB2.out⟩

theorem bs_app (a b : List UInt8) : Nm.bs a ++ Nm.bs b = Nm.bs (a ++ b) := by
  apply ByteArray.ext
  rw [ByteArray.data_append]
  show a.toArray ++ b.toArray = (a ++ b).toArray
  simp

theorem last_of {l : List UInt8} {n : Nat} (h : l.length = n + 1) : l.getLast? = l[n]? := by
  rw [List.getLast?_eq_getElem?, h]; rfl

set_option maxRecDepth 100000 in
set_option maxHeartbeats 8000000 in
theorem strip_any (l : List UInt8) (hl : l.length < 1000000000) (w : World) :
    Calls Tryz.prog 95 #[.string (Nm.bs l)] w fun e w' => e = .returned (.string (Nm.bs (Nm.strip l))) ∧ Below w.heap.size w w' := by
  have h1 := trimL_le l
  have h2 := trimR_le (Nm.trimL l)
  have hC := Lib.hid (trim_sp l hl w)
  have hsl := bs_size l
  obtain ⟨t, ht⟩ : ∃ t, t = Nm.trimR (Nm.trimL l) := ⟨_, rfl⟩
  have hst : Nm.strip l = if t ≠ [] ∧ l.getLast? = some 32 ∧ Nm.slashes t % 2 = 1 then t ++ [32] else t := by rw [ht]; rfl
  rw [← ht] at hC h2
  have hsz := bs_size t
  have HST := Lib.hid hst
  clear hst ht
  by_cases h0 : t.length = 0
  · have e0 : t = [] := List.length_eq_zero_iff.1 h0
    have hr : Nm.strip l = t := by rw [HST.out, if_neg (by rintro ⟨h, _⟩; exact h e0)]
    have t1 : decide ((t.length : Int) > 0) = false := by rw [h0]; rfl
    clear e0
    go_enter Tryz.func95, Tryz.ntmps95
    go_wp2_with fail
    refine hC.out.mono ?_
    rintro e w1 ⟨rfl, hb⟩
    have HB := Lib.hid hb
    clear hb
    go_wp2_with fail
    go_ret
    exact ⟨by rw [hr]; rfl, HB.out⟩
  · have e0 : t ≠ [] := fun h => h0 (by rw [h]; rfl)
    have t1 : decide ((t.length : Int) > 0) = true := by simp; omega
    obtain ⟨n, hn⟩ : ∃ n, l.length = n + 1 := ⟨l.length - 1, by omega⟩
    have hn2 : n < (Nm.bs l).size := by omega
    have hn3 : n < l.length := by omega
    obtain ⟨b, hb, hget⟩ : ∃ b : UInt8, l[n]? = some b ∧ ((Nm.bs l)[n]'hn2).toNat = b.toNat := ⟨_, List.getElem?_eq_getElem hn3, by rw [bs_get]⟩
    have hlast := last_of hn
    rw [hb] at hlast
    have hi : (l.length : Int) - 1 = n := by omega
    by_cases h32 : b = 32
    · have hb32 : ((b.toNat : Int) == 32) = true := by rw [h32]; rfl
      go_enter Tryz.func95, Tryz.ntmps95
      go_wp2_with fail
      refine hC.out.mono ?_
      rintro e w1 ⟨rfl, hb⟩
      have HB := Lib.hid hb
      clear hb
      go_wp2_with fail
      go_loopw [4, 5] (fun t4 t5 wr => ∃ k m : Nat, t4 = .int .i64 k ∧ t5 = .int .i64 ((m : Int) - 1) ∧ k + m = t.length ∧ Nm.slashes t = k + Nm.slashesTo t m ∧ Hid (Below w.heap.size w wr)) (fun _ t5 _ => (intOf t5 + 1).toNat)
      case atStart => exact ⟨0, t.length, rfl, rfl, by omega, by rw [Nat.zero_add]; rfl, HB⟩
      case round =>
        clear HB
        obtain ⟨k, m, rfl, rfl, hkm, hsl2, HB⟩ := hrel
        have hfin : ∀ k : Nat, Nm.slashes t = k → (((k : Int) % 2 == 1) = true → Nm.bs t ++ ⟨#[32]⟩ = Nm.bs (Nm.strip l)) ∧ (((k : Int) % 2 == 1) = false → t = Nm.strip l) := by
          intro k hk
          rw [HST.out, hk]
          refine ⟨fun hq => ?_, fun hq => ?_⟩
          · have hq2 : (k : Int) % 2 = 1 := by simpa using hq
            rw [if_pos ⟨e0, by rw [hlast, h32], by omega⟩, ← bs_app]; rfl
          · rw [beq_eq_false_iff_ne] at hq
            rw [if_neg (by rintro ⟨_, _, h⟩; omega)]
        have HF := Lib.hid hfin
        have HSL := Lib.hid hsl2
        clear hfin hsl2
        cases m with
        | zero =>
          have hsk : Nm.slashes t = k := HSL.out
          have hq : ((k : Int) % 2 == 1) = true ∨ ((k : Int) % 2 == 1) = false := by cases ((k : Int) % 2 == 1) <;> simp
          rcases hq with hq | hq
          · have HR := Lib.hid ((HF.out k hsk).1 hq)
            clear hsk
            go_wp2_with fail
            go_ret
            exact ⟨by rw [← HR.out]; rfl, HB.out⟩
          · have HR := Lib.hid ((HF.out k hsk).2 hq)
            clear hsk
            go_wp2_with fail
            go_ret
            exact ⟨by rw [← HR.out]; rfl, HB.out⟩
        | succ m =>
          have hm2 : m < (Nm.bs t).size := by omega
          have hm3 : m < t.length := by omega
          obtain ⟨c, hc, hgc⟩ : ∃ c : UInt8, t[m]? = some c ∧ ((Nm.bs t)[m]'hm2).toNat = c.toNat := ⟨_, List.getElem?_eq_getElem hm3, by rw [bs_get]⟩
          have him : (((m + 1 : Nat) : Int)) - 1 = m := by omega
          rw [him]
          by_cases h92 : c = 92
          · have hc92 : ((c.toNat : Int) == 92) = true := by rw [h92]; rfl
            have hs2 : Nm.slashes t = (k + 1) + Nm.slashesTo t m := by
              rw [HSL.out]
              show k + (if t[m]? = some 92 then _ else _) = _
              rw [if_pos (by rw [hc, h92])]; omega
            have HS2 := Lib.hid hs2
            clear hs2
            go_wp2_with fail
            exact ⟨⟨k + 1, m, by go_num, rfl, by omega, HS2.out, HB⟩, by simp [intOf]⟩
          · have hc92 : ((c.toNat : Int) == 92) = false := by
              rw [beq_eq_false_iff_ne]
              intro h
              exact h92 (UInt8.toNat_inj.1 (by have : c.toNat = 92 := by omega
                                               rw [this]; rfl))
            have hsk : Nm.slashes t = k := by
              rw [HSL.out]
              show k + (if t[m]? = some 92 then _ else _) = _
              rw [if_neg (by rw [hc]; intro h; exact h92 (Option.some.inj h))]; rfl
            have hq : ((k : Int) % 2 == 1) = true ∨ ((k : Int) % 2 == 1) = false := by cases ((k : Int) % 2 == 1) <;> simp
            rcases hq with hq | hq
            · have HR := Lib.hid ((HF.out k hsk).1 hq)
              clear hsk
              go_wp2_with fail
              go_ret
              exact ⟨by rw [← HR.out]; rfl, HB.out⟩
            · have HR := Lib.hid ((HF.out k hsk).2 hq)
              clear hsk
              go_wp2_with fail
              go_ret
              exact ⟨by rw [← HR.out]; rfl, HB.out⟩
    · have hb32 : ((b.toNat : Int) == 32) = false := by
        rw [beq_eq_false_iff_ne]
        intro h
        exact h32 (UInt8.toNat_inj.1 (by have : b.toNat = 32 := by omega
                                         rw [this]; rfl))
      have hr : Nm.strip l = t := by rw [HST.out, if_neg (by rintro ⟨_, h, _⟩; rw [hlast] at h; exact h32 (Option.some.inj h))]
      have HR := Lib.hid hr
      clear hr
      go_enter Tryz.func95, Tryz.ntmps95
      go_wp2_with fail
      refine hC.out.mono ?_
      rintro e w1 ⟨rfl, hb⟩
      have HB := Lib.hid hb
      clear hb
      go_wp2_with fail
      go_ret
      exact ⟨by rw [HR.out]; rfl, HB.out⟩
end Go.Proofs.YtjmahgefijncaaaGreatFmt
