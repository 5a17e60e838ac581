/- NameSmall. -/
import Derived.Test.YtjmahgefijncaaaGreatFmtPos0
import Derived.Test.YtjmahgefijncaaaGreatFmtBRow
import Derived.Test.YtjmahgefijncaaaGreatFmtParse
import Derived.Test.YtjmahgefijncaaaGreatFmtBackDN
namespace Go.Proofs.YtjmahgefijncaaaGreatFmt
open Go Go.RowKit

theorem small_len : ∀ (l : List UInt8) (p q : UInt8), (Pos.small p q l).length = l.length
  | [], _, _ => rfl
  | c :: r, p, q => by rw [Pos.small, List.length_cons, List.length_cons, small_len r]
theorem small_get : ∀ (l : List UInt8) (p q : UInt8) (j : Nat) (c : UInt8), l[j]? = some c → (Pos.small p q l)[j]? = some (if c = 67 ∧ (q :: l)[j]? = some 53 ∧ (p :: q :: l)[j]? = some 92 then 99 else c)
  | [], _, _, j, c, h => by simp at h
  | x :: r, p, q, 0, c, h => by
    simp only [List.getElem?_cons_zero, Option.some.injEq] at h
    subst h
    rw [Pos.small]
    simp
  | x :: r, p, q, j + 1, c, h => by
    have h2 : r[j]? = some c := by simpa using h
    rw [Pos.small, List.getElem?_cons_succ, small_get r q x j c h2]
    rfl
def smallL (l : List UInt8) : List UInt8 := Pos.small 0 0 l
theorem smallL_len (l : List UInt8) : (smallL l).length = l.length := small_len l 0 0
theorem smallL_low {l : List UInt8} {j : Nat} {c : UInt8} (h : l[j]? = some c) (hj : j < 2) : (smallL l)[j]? = some c := by
  unfold smallL
  rw [small_get l 0 0 j c h, if_neg]
  match j, hj with
  | 0, _ => simp
  | 1, _ => simp
theorem smallL_get {l : List UInt8} {j : Nat} {c a b : UInt8} (h : l[j + 2]? = some c) (ha : l[j + 1]? = some a) (hb : l[j]? = some b) : (smallL l)[j + 2]? = some (if c = 67 ∧ a = 53 ∧ b = 92 then 99 else c) := by
  unfold smallL
  rw [small_get l 0 0 (j + 2) c h]
  simp only [List.getElem?_cons_succ, ha, hb, Option.some.injEq]
/-- What stood there before decides. -/
theorem smallL_is {l : List UInt8} {j : Nat} {c x d : UInt8} (h : l[j]? = some c) (hs : (smallL l)[j]? = some d) (hx : x ≠ 67) (hx2 : x ≠ 99) : d = x ↔ c = x := by
  have : d = c ∨ (c = 67 ∧ d = 99) := by
    unfold smallL at hs
    rw [small_get l 0 0 j c h] at hs
    have := Option.some.inj hs
    split at this
    · rename_i h1; exact Or.inr ⟨h1.1, this.symm⟩
    · exact Or.inl this.symm
  rcases this with rfl | ⟨rfl, rfl⟩
  · exact Iff.rfl
  · exact ⟨fun e => absurd e.symm hx2, fun e => absurd e.symm hx⟩

set_option maxRecDepth 100000 in
set_option maxHeartbeats 8000000 in
theorem small_any (l : List UInt8) (hl : l.length < 4000000000) (w : World) :
    Calls Tryz.prog 25 #[.string (Nm.bs l)] w fun e w' => e = .returned (.string (Nm.bs (smallL l))) ∧ Below w.heap.size w w' := by
  have hsz := bs_size l
  have hcv := conv_bytes' w (Nm.bs l)
  rw [hsz] at hcv
  have hmade := BRow.made w l
  have hbw := Lib.bytesWorld_below w 5 (Nm.bs l)
  generalize grownCap w l.length 0 5 = cap at hcv
  generalize Lib.bytesWorld w 5 (Nm.bs l) = BW at *
  have hSl := smallL_len l
  have hstart : l = (smallL l).take 2 ++ l.drop 2 := by
    apply List.ext_getElem?
    intro j
    rcases Nat.lt_or_ge j 2 with hj | hj
    · rcases Nat.lt_or_ge j l.length with h | h
      · have h1 : l[j]? = some l[j] := List.getElem?_eq_getElem h
        rw [List.getElem?_append_left (by rw [List.length_take]; omega), List.getElem?_take_of_lt hj, smallL_low h1 hj, h1]
      · rw [List.getElem?_eq_none h, List.getElem?_eq_none (by simp; omega)]
    · rcases Nat.lt_or_ge j l.length with h | h
      · rw [List.getElem?_append_right (by rw [List.length_take]; omega), List.length_take, hSl, List.getElem?_drop]
        congr 1; omega
      · rw [List.getElem?_eq_none h, List.getElem?_eq_none (by simp; omega)]
  have HM : Hid (BRow BW w.heap.size ((smallL l).take 2 ++ l.drop 2)) := Lib.hid (hstart ▸ hmade)
  have HB := Lib.hid hbw
  clear hmade hbw hstart
  go_enter Tryz.func25, Tryz.ntmps25
  go_wp2_with fail
  go_loopw [4] (fun t4 wr => ∃ i : Nat, t4 = .int .i64 i ∧ 2 ≤ i ∧ Hid ((i ≤ l.length ∨ i = 2) ∧ BRow wr w.heap.size ((smallL l).take i ++ l.drop i) ∧ Below w.heap.size w wr)) (fun t4 _ => l.length - (intOf t4).toNat)
  case atStart => exact ⟨2, rfl, Nat.le_refl _, Lib.hid ⟨Or.inr rfl, HM.out, HB.out⟩⟩
  case round =>
    clear hcv HM
    obtain ⟨i, rfl, hi2, HI⟩ := hrel
    have hil := HI.out.1
    by_cases hend : i < l.length
    · have t1 : decide ((i : Int) < (l.length : Int)) = true := by simp; omega
      obtain ⟨j, rfl⟩ : ∃ j, i = j + 2 := ⟨i - 2, by omega⟩
      obtain ⟨c, hc⟩ : ∃ c, l[j + 2]? = some c := ⟨_, List.getElem?_eq_getElem hend⟩
      obtain ⟨a, ha⟩ : ∃ a, l[j + 1]? = some a := ⟨_, List.getElem?_eq_getElem (by omega)⟩
      obtain ⟨b, hb⟩ : ∃ b, l[j]? = some b := ⟨_, List.getElem?_eq_getElem (by omega)⟩
      obtain ⟨a', ha'⟩ : ∃ a', (smallL l)[j + 1]? = some a' := ⟨_, List.getElem?_eq_getElem (by omega)⟩
      obtain ⟨b', hb'⟩ : ∃ b', (smallL l)[j]? = some b' := ⟨_, List.getElem?_eq_getElem (by omega)⟩
      have e3 : ((smallL l).take (j + 2)).length = j + 2 := by rw [List.length_take]; omega
      have hrc : ((smallL l).take (j + 2) ++ l.drop (j + 2))[j + 2]? = some c := by
        rw [List.getElem?_append_right (by omega), e3, Nat.sub_self, List.getElem?_drop, Nat.add_zero]; exact hc
      have hra : ((smallL l).take (j + 2) ++ l.drop (j + 2))[j + 1]? = some a' := by
        rw [List.getElem?_append_left (by omega), List.getElem?_take_of_lt (by omega)]; exact ha'
      have hrb : ((smallL l).take (j + 2) ++ l.drop (j + 2))[j]? = some b' := by
        rw [List.getElem?_append_left (by omega), List.getElem?_take_of_lt (by omega)]; exact hb'
      have c0 := HI.out.2.1.cell hrc
      have c1 := HI.out.2.1.cell hra
      have c2 := HI.out.2.1.cell hrb
      have f0 := HI.out.2.1.frozen (j := j + 2) (by rw [List.length_append, e3]; simp; omega)
      have ia := smallL_is ha ha' (x := 53) (by decide) (by decide)
      have ib := smallL_is hb hb' (x := 92) (by decide) (by decide)
      have hS := smallL_get hc ha hb
      have k1 : ((j : Int) + 2 - 1).toNat = j + 1 := by omega
      have k2 : ((j : Int) + 2 - 2).toNat = j := by omega
      have k3 : (0 : Int) ≤ (j : Int) + 2 - 1 := by omega
      have k4 : (j : Int) + 2 - 1 < (l.length : Int) := by omega
      have k5 : (0 : Int) ≤ (j : Int) + 2 - 2 := by omega
      have k6 : (j : Int) + 2 - 2 < (l.length : Int) := by omega
      have hkeep : (c = 67 ∧ a = 53 ∧ b = 92 → False) → (smallL l).take (j + 2) ++ l.drop (j + 2) = (smallL l).take (j + 3) ++ l.drop (j + 3) := by
        intro hno
        rw [if_neg hno] at hS
        rw [take_snoc hS, List.drop_eq_getElem_cons hend, Option.some.inj ((List.getElem?_eq_getElem hend).symm.trans hc)]
        simp
      have HK : Hid ((c = 67 ∧ a = 53 ∧ b = 92 → False) → BRow wr w.heap.size ((smallL l).take (j + 3) ++ l.drop (j + 3)) ∧ Below w.heap.size w wr) := Lib.hid (fun h => ⟨hkeep h ▸ HI.out.2.1, HI.out.2.2⟩)
      by_cases h67 : c = 67
      · have q1 : ((c.toNat : Int) == 67) = true := by rw [h67]; rfl
        by_cases h53 : a = 53
        · have q2 : ((a'.toNat : Int) == 53) = true := by rw [ia.2 h53]; rfl
          by_cases h92 : b = 92
          · have q3 : ((b'.toNat : Int) == 92) = true := by rw [ib.2 h92]; rfl
            have hset := HI.out.2.1.set (j + 2) 99
            have hsl : ((smallL l).take (j + 2) ++ l.drop (j + 2)).set (j + 2) 99 = (smallL l).take (j + 3) ++ l.drop (j + 3) := by
              rw [if_pos ⟨h67, h53, h92⟩] at hS
              rw [take_snoc hS, List.set_append_right _ _ (by omega), e3, Nat.sub_self, List.drop_eq_getElem_cons hend, List.set_cons_zero]
              simp
            rw [hsl] at hset
            have hbel := HI.out.2.2.setCell (p := ⟨w.heap.size, j + 2, none⟩) (Nat.le_refl _) (.int .u8 ((99 : UInt8).toNat : Int))
            have HE := Lib.hid (And.intro hset hbel)
            clear hset hbel hsl hkeep hrc hra hrb hc ha hb ha' hb' ia ib hS HK h67 h53 h92
            go_wp2_with fail
            exact ⟨⟨j + 3, by go_num, by omega, Lib.hid ⟨by omega, HE.out⟩⟩, by simp [intOf]; omega⟩
          · have q3 : ((b'.toNat : Int) == 92) = false := u8_ne (c := 92) (fun e => h92 (ib.1 e))
            have HE := Lib.hid (HK.out (fun h => h92 h.2.2))
            clear hkeep hrc hra hrb hc ha hb ha' hb' ia ib hS HK h67 h53 h92
            go_wp2_with fail
            exact ⟨⟨j + 3, by go_num, by omega, Lib.hid ⟨by omega, HE.out⟩⟩, by simp [intOf]; omega⟩
        · have q2 : ((a'.toNat : Int) == 53) = false := u8_ne (c := 53) (fun e => h53 (ia.1 e))
          have HE := Lib.hid (HK.out (fun h => h53 h.2.1))
          clear hkeep hrc hra hrb hc ha hb ha' hb' ia ib hS HK h67 h53
          go_wp2_with fail
          exact ⟨⟨j + 3, by go_num, by omega, Lib.hid ⟨by omega, HE.out⟩⟩, by simp [intOf]; omega⟩
      · have q1 : ((c.toNat : Int) == 67) = false := u8_ne (c := 67) h67
        have HE := Lib.hid (HK.out (fun h => h67 h.1))
        clear hkeep hrc hra hrb hc ha hb ha' hb' ia ib hS HK h67
        go_wp2_with fail
        exact ⟨⟨j + 3, by go_num, by omega, Lib.hid ⟨by omega, HE.out⟩⟩, by simp [intOf]; omega⟩
    · have t1 : decide ((i : Int) < (l.length : Int)) = false := by simp; omega
      have hrow := HI.out.2.1
      have hfin : (smallL l).take i ++ l.drop i = smallL l := by
        rw [List.drop_of_length_le (by omega), List.append_nil, List.take_of_length_le (by omega)]
      rw [hfin] at hrow
      have hcv := fun c => hrow.text c
      rw [hSl] at hcv
      clear hrow hfin
      go_wp2_with fail
      go_ret
      exact ⟨rfl, HI.out.2.2⟩
end Go.Proofs.YtjmahgefijncaaaGreatFmt
