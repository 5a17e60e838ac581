/- spec.NameType, exactly. -/
import Derived.Test.YtjmahgefijncaaaGreatFmtJ5
set_option linter.unusedVariables false
set_option linter.unusedSimpArgs false
namespace Go.Proofs.YtjmahgefijncaaaGreatFmt
open Go Go.RowKit

def wordB (n : Nat) : Bool := decide (97 ≤ n ∧ n ≤ 122 ∨ 65 ≤ n ∧ n ≤ 90 ∨ 48 ≤ n ∧ n ≤ 57 ∨ n = 45)
/-- Numbers with points between: how many points, how many digits since, the byte ahead. -/
def dots : List UInt8 → Nat → Nat → Nat → Bool
  | [], p, d, _ => decide (0 < p ∧ 0 < d)
  | c :: r, p, d, b => if 48 ≤ c.toNat ∧ c.toNat ≤ 57 then (if d = 1 ∧ b = 48 then false else dots r p (d + 1) c.toNat) else if c.toNat = 46 ∧ 0 < d then dots r (p + 1) 0 c.toNat else false
def typB (l : List UInt8) : Bool :=
  match l with
  | [] => false
  | c :: r => if 97 ≤ c.toNat ∧ c.toNat ≤ 122 ∨ 65 ≤ c.toNat ∧ c.toNat ≤ 90 then (c :: r).all (fun c => wordB c.toNat) else dots (c :: r) 0 0 0
theorem dots_ok : ∀ (l : List UInt8) (p d b : Nat), dots l p d b = true → ∀ c ∈ l, tyByte c.toNat
  | [], _, _, _, _ => by simp
  | c :: r, p, d, b, h => by
    unfold dots at h
    intro x hx
    split at h
    · rename_i hc
      split at h
      · cases h
      · rcases List.mem_cons.1 hx with rfl | hx
        · unfold tyByte; omega
        · exact dots_ok r _ _ _ h x hx
    · split at h
      · rename_i hc
        rcases List.mem_cons.1 hx with rfl | hx
        · unfold tyByte; omega
        · exact dots_ok r _ _ _ h x hx
      · cases h
theorem typB_ok (l : List UInt8) (h : typB l = true) : TypeOK l := by
  cases l with
  | nil => cases h
  | cons c r =>
    refine ⟨by simp, ?_⟩
    unfold typB at h
    simp only [] at h
    split at h
    · intro x hx
      have := List.all_eq_true.1 h x hx
      unfold wordB at this
      rw [decide_eq_true_eq] at this
      unfold tyByte; omega
    · exact dots_ok _ _ _ _ h

set_option maxRecDepth 100000 in
set_option maxHeartbeats 16000000 in
theorem type_exact (l : List UInt8) (hl : l.length < 4000000000) (w : World) :
    Calls Tryz.prog 17 #[.string (Nm.bs l)] w fun e w' => e = .returned (.bool (typB l)) ∧ Below w.heap.size w w' := by
  have hsz := bs_size l
  have htl := bs_toList l
  cases hl0 : l with
  | nil =>
    subst hl0
    go_enter Tryz.func17, Tryz.ntmps17
    go_wp2_with fail
    go_ret
    exact ⟨rfl, Below.refl _ _⟩
  | cons b0 l0 =>
    rw [← hl0]
    have hpos : 0 < l.length := by rw [hl0]; simp
    have hne : l ≠ [] := by rw [hl0]; simp
    have h0s : 0 < (Nm.bs l).size := by omega
    have hempty : ((Nm.bs l).toList == ([] : List UInt8)) = false := by rw [htl, beq_eq_false_iff_ne]; exact hne
    have hget0 : ((Nm.bs l)[0]'h0s).toNat = b0.toNat := by
      rw [bs_get]; simp [hl0]
    have hty : typB l = if 97 ≤ b0.toNat ∧ b0.toNat ≤ 122 ∨ 65 ≤ b0.toNat ∧ b0.toNat ≤ 90 then l.all (fun c => wordB c.toNat) else dots l 0 0 0 := by rw [hl0]; rfl
    have HTY := Lib.hid hty
    clear hl0 hne htl hty
    have hbl := UInt8.toNat_lt b0
    generalize b0.toNat = n0 at *
    by_cases hL : 97 ≤ n0 ∧ n0 ≤ 122 ∨ 65 ≤ n0 ∧ n0 ≤ 90
    · rcases hL with hL | hL
      all_goals
        obtain ⟨hL1, hL2⟩ := hL
        first
          | (have q1 : decide ((97 : Int) ≤ (n0 : Int)) = true := by simp; omega)
          | (have q1 : decide ((97 : Int) ≤ (n0 : Int)) = false := by simp; omega)
        have q2 : decide ((65 : Int) ≤ (n0 : Int)) = true := by simp; omega
        first
          | (have q3 : decide ((n0 : Int) ≤ 90) = true := by simp; omega)
          | (have q3 : decide ((n0 : Int) ≤ 122) = true := by simp; omega)
        go_enter Tryz.func17, Tryz.ntmps17
        go_wp2_with fail
        go_loopw [30] (fun t30 wr => ∃ i : Nat, t30 = .int .i64 i ∧ i ≤ l.length ∧ Hid (typB l = (l.drop i).all (fun c => wordB c.toNat) ∧ Below w.heap.size w wr)) (fun t30 _ => l.length - (intOf t30).toNat)
        case atStart => exact ⟨0, rfl, Nat.zero_le _, Lib.hid ⟨by rw [HTY.out, if_pos (by omega), List.drop_zero], Below.refl _ _⟩⟩
        case round =>
          obtain ⟨i, rfl, hi, HI⟩ := hrel
          by_cases hend : i = l.length
          · subst hend
            have t1 : decide ((l.length : Int) < (l.length : Int)) = false := by simp
            go_wp2_with fail
            go_ret
            exact ⟨by rw [HI.out.1, List.drop_length]; rfl, HI.out.2⟩
          · have hlt : i < l.length := by omega
            have hlt2 : i < (Nm.bs l).size := by rw [hsz]; exact hlt
            have t1 : decide ((i : Int) < (l.length : Int)) = true := by simp; omega
            obtain ⟨b, hb, hget⟩ : ∃ b : UInt8, l[i]? = some b ∧ ((Nm.bs l)[i]'hlt2).toNat = b.toNat := ⟨_, List.getElem?_eq_getElem hlt, by rw [bs_get]⟩
            have hnext : typB l = (wordB b.toNat && (l.drop (i + 1)).all (fun c => wordB c.toNat)) := by
              rw [HI.out.1, List.drop_eq_getElem_cons hlt]
              rw [List.getElem?_eq_getElem hlt] at hb
              rw [Option.some.inj hb]; rfl
            have HN := Lib.hid hnext
            clear hnext hb hend
            generalize b.toNat = n at *
            have h45 : n = 45 ∨ n ≠ 45 := by omega
            rcases h45 with h45 | h45
            all_goals
              first
                | (have q45 : ((n : Int) == 45) = true := by rw [beq_iff_eq]; omega)
                | (have q45 : ((n : Int) == 45) = false := by rw [beq_eq_false_iff_ne]; omega)
              go_wp2_with fail
              all_goals first
                | exact ⟨⟨i + 1, by go_num, by omega, Lib.hid ⟨by rw [HN.out, show wordB n = true from decide_eq_true (by omega)]; rfl, HI.out.2⟩⟩, by simp [intOf]; omega⟩
                | (go_ret; exact ⟨by rw [HN.out, show wordB n = false from decide_eq_false (by omega)]; rfl, HI.out.2⟩)
                | (exfalso; rename_i h; simp at h; omega)
    · have hc : n0 < 65 ∨ 90 < n0 ∧ n0 < 97 ∨ 122 < n0 := by omega
      rcases hc with hc | hc | hc
      all_goals
        first
          | (have q1 : decide ((97 : Int) ≤ (n0 : Int)) = true := by simp; omega)
          | (have q1 : decide ((97 : Int) ≤ (n0 : Int)) = false := by simp; omega)
        first
          | (have q2 : decide ((65 : Int) ≤ (n0 : Int)) = true := by simp; omega)
          | (have q2 : decide ((65 : Int) ≤ (n0 : Int)) = false := by simp; omega)
        go_enter Tryz.func17, Tryz.ntmps17
        go_wp2_with fail
        go_loopw [6, 7, 66] (fun t6 t7 t66 wr => ∃ i p d : Nat, t66 = .int .i64 i ∧ t6 = .int .i64 p ∧ t7 = .int .i64 d ∧ p ≤ i ∧ d ≤ i ∧ i ≤ l.length ∧ Hid (typB l = dots (l.drop i) p d (if h : 0 < i then (l.getD (i - 1) 0).toNat else 0) ∧ Below w.heap.size w wr)) (fun _ _ t66 _ => l.length - (intOf t66).toNat)
        case atStart => exact ⟨0, 0, 0, rfl, rfl, rfl, Nat.le_refl _, Nat.le_refl _, Nat.zero_le _, Lib.hid ⟨by rw [HTY.out, if_neg (by omega), List.drop_zero]; rfl, Below.refl _ _⟩⟩
        case round =>
          obtain ⟨i, p, d, rfl, rfl, rfl, hp, hd, hi, HI⟩ := hrel
          by_cases hend : i = l.length
          · subst hend
            have t1 : decide ((l.length : Int) < (l.length : Int)) = false := by simp
            have hpd : (p = 0 ∧ decide ((p : Int) > 0) = false) ∨ (0 < p ∧ decide ((p : Int) > 0) = true) := by
              rcases Nat.eq_zero_or_pos p with h | h
              · exact Or.inl ⟨h, by simp; omega⟩
              · exact Or.inr ⟨h, by simp; omega⟩
            have hdd : (d = 0 ∧ decide ((d : Int) > 0) = false) ∨ (0 < d ∧ decide ((d : Int) > 0) = true) := by
              rcases Nat.eq_zero_or_pos d with h | h
              · exact Or.inl ⟨h, by simp; omega⟩
              · exact Or.inr ⟨h, by simp; omega⟩
            rcases hpd with ⟨hp1, hp2⟩ | ⟨hp1, hp2⟩
            all_goals
             rcases hdd with ⟨hd1, hd2⟩ | ⟨hd1, hd2⟩
             all_goals
              go_wp2_with fail
              go_ret
              exact ⟨by
                rw [HI.out.1, List.drop_length]
                unfold dots
                first
                  | (rw [decide_eq_true (by omega : 0 < p ∧ 0 < d)]; rfl)
                  | (rw [decide_eq_false (by omega : ¬ (0 < p ∧ 0 < d))]; rfl), HI.out.2⟩
          · have hlt : i < l.length := by omega
            have hlt2 : i < (Nm.bs l).size := by rw [hsz]; exact hlt
            have t1 : decide ((i : Int) < (l.length : Int)) = true := by simp; omega
            obtain ⟨b, hb, hget⟩ : ∃ b : UInt8, l[i]? = some b ∧ ((Nm.bs l)[i]'hlt2).toNat = b.toNat := ⟨_, List.getElem?_eq_getElem hlt, by rw [bs_get]⟩
            have hnext : typB l = (if 48 ≤ b.toNat ∧ b.toNat ≤ 57 then (if d = 1 ∧ (if h : 0 < i then (l.getD (i - 1) 0).toNat else 0) = 48 then false else dots (l.drop (i + 1)) p (d + 1) (if h : 0 < i + 1 then (l.getD (i + 1 - 1) 0).toNat else 0)) else if b.toNat = 46 ∧ 0 < d then dots (l.drop (i + 1)) (p + 1) 0 (if h : 0 < i + 1 then (l.getD (i + 1 - 1) 0).toNat else 0) else false) := by
              have hbb : (if h : 0 < i + 1 then (l.getD (i + 1 - 1) 0).toNat else 0) = b.toNat := by
                rw [dif_pos (by omega), Nat.add_sub_cancel, List.getD_eq_getElem?_getD, hb]; rfl
              rw [hbb, HI.out.1, List.drop_eq_getElem_cons hlt]
              rw [List.getElem?_eq_getElem hlt] at hb
              rw [Option.some.inj hb]; rfl
            have HN := Lib.hid hnext
            clear hnext hb hend
            generalize b.toNat = n at *
            have hdg : (48 ≤ n ∧ n ≤ 57) ∨ (n = 46) ∨ (n < 48 ∧ n ≠ 46) ∨ 57 < n := by omega
            have hd0 : d = 0 ∨ 0 < d := by omega
            by_cases hd1 : d = 1
            · subst hd1
              obtain ⟨k, rfl⟩ : ∃ k, i = k + 1 := ⟨i - 1, by omega⟩
              have hk : k < (Nm.bs l).size := by omega
              have hkl : k < l.length := by omega
              have hk0 : (0 : Int) ≤ (k : Int) := by omega
              have hk1 : (k : Int) < ((Nm.bs l).size : Int) := by omega
              obtain ⟨pb, hpb, hgetk⟩ : ∃ pb : UInt8, l[k]? = some pb ∧ ((Nm.bs l)[k]'hk).toNat = pb.toNat := ⟨_, List.getElem?_eq_getElem hkl, by rw [bs_get]⟩
              have hprev : (if h : 0 < k + 1 then (l.getD (k + 1 - 1) 0).toNat else 0) = pb.toNat := by
                rw [dif_pos (by omega), Nat.add_sub_cancel, List.getD_eq_getElem?_getD, hpb]; rfl
              have hn2 := HN.out
              obtain ⟨pn, hpe⟩ : ∃ pn, pn = pb.toNat := ⟨_, rfl⟩
              rw [hprev, ← hpe] at hn2
              rw [← hpe] at hgetk
              have HN2 := Lib.hid hn2
              clear hn2 hprev hpb HN hpe
              have hpn : (pn = 48 ∧ ((pn : Int) == 48) = true) ∨ (pn ≠ 48 ∧ ((pn : Int) == 48) = false) := by
                by_cases h : pn = 48
                · exact Or.inl ⟨h, by rw [beq_iff_eq]; omega⟩
                · exact Or.inr ⟨h, by rw [beq_eq_false_iff_ne]; omega⟩
              rcases hdg with hdg | hdg | hdg | hdg
              all_goals
                first
                  | (have w1 : decide ((48 : Int) ≤ (n : Int)) = true := by simp; omega)
                  | (have w1 : decide ((48 : Int) ≤ (n : Int)) = false := by simp; omega)
                first
                  | (have w2 : decide ((n : Int) ≤ 57) = true := by simp; omega)
                  | (have w2 : decide ((n : Int) ≤ 57) = false := by simp; omega)
                first
                  | (have w3 : ((n : Int) == 46) = true := by rw [beq_iff_eq]; omega)
                  | (have w3 : ((n : Int) == 46) = false := by rw [beq_eq_false_iff_ne]; omega)
                rcases hpn with ⟨hpn, hpq⟩ | ⟨hpn, hpq⟩
                all_goals
                  go_wp2_with fail
                  all_goals first
                    | exact ⟨⟨k + 1 + 1, p, 2, by go_num, by go_num, by go_num, by omega, by omega, by omega, Lib.hid ⟨(by have e := HN2.out; rw [if_pos (show 48 ≤ n ∧ n ≤ 57 by omega), if_neg (fun h => hpn h.2)] at e; exact e), HI.out.2⟩⟩, by simp [intOf]; omega⟩
                    | exact ⟨⟨k + 1 + 1, p + 1, 0, by go_num, by go_num, by go_num, by omega, by omega, by omega, Lib.hid ⟨(by have e := HN2.out; rw [if_neg (show ¬ (48 ≤ n ∧ n ≤ 57) by omega), if_pos (show n = 46 ∧ 0 < 1 by omega)] at e; exact e), HI.out.2⟩⟩, by simp [intOf]; omega⟩
                    | (go_ret; exact ⟨(by have e := HN2.out; rw [if_neg (show ¬ (48 ≤ n ∧ n ≤ 57) by omega), if_neg (show ¬ (n = 46 ∧ 0 < 1) by omega)] at e; rw [e]; rfl), HI.out.2⟩)
                    | (go_ret; exact ⟨(by have e := HN2.out; rw [if_pos (show 48 ≤ n ∧ n ≤ 57 by omega)] at e; (first | (rw [if_pos (show True ∧ pn = 48 from ⟨trivial, hpn⟩)] at e) | (rw [if_pos (show 1 = 1 ∧ pn = 48 from ⟨rfl, hpn⟩)] at e)); rw [e]; rfl), HI.out.2⟩)
            · have q3 : ((d : Int) == 1) = false := by rw [beq_eq_false_iff_ne]; omega
              rcases hdg with hdg | hdg | hdg | hdg
              all_goals
                first
                  | (have w1 : decide ((48 : Int) ≤ (n : Int)) = true := by simp; omega)
                  | (have w1 : decide ((48 : Int) ≤ (n : Int)) = false := by simp; omega)
                first
                  | (have w2 : decide ((n : Int) ≤ 57) = true := by simp; omega)
                  | (have w2 : decide ((n : Int) ≤ 57) = false := by simp; omega)
                first
                  | (have w3 : ((n : Int) == 46) = true := by rw [beq_iff_eq]; omega)
                  | (have w3 : ((n : Int) == 46) = false := by rw [beq_eq_false_iff_ne]; omega)
                rcases hd0 with hd0 | hd0
                all_goals
                  first
                    | (have w4 : decide ((d : Int) > 0) = true := by simp; omega)
                    | (have w4 : decide ((d : Int) > 0) = false := by simp; omega)
                  go_wp2_with fail
                  all_goals first
                    | exact ⟨⟨i + 1, p, d + 1, by go_num, by go_num, by go_num, by omega, by omega, by omega, Lib.hid ⟨(by have e := HN.out; rw [if_pos (show 48 ≤ n ∧ n ≤ 57 by omega), if_neg (fun h => hd1 h.1)] at e; exact e), HI.out.2⟩⟩, by simp [intOf]; omega⟩
                    | exact ⟨⟨i + 1, p + 1, 0, by go_num, by go_num, by go_num, by omega, by omega, by omega, Lib.hid ⟨(by have e := HN.out; rw [if_neg (show ¬ (48 ≤ n ∧ n ≤ 57) by omega), if_pos (show n = 46 ∧ 0 < d by omega)] at e; exact e), HI.out.2⟩⟩, by simp [intOf]; omega⟩
                    | (go_ret; exact ⟨(by have e := HN.out; rw [if_neg (show ¬ (48 ≤ n ∧ n ≤ 57) by omega), if_neg (show ¬ (n = 46 ∧ 0 < d) by omega)] at e; rw [e]; rfl), HI.out.2⟩)
end Go.Proofs.YtjmahgefijncaaaGreatFmt

