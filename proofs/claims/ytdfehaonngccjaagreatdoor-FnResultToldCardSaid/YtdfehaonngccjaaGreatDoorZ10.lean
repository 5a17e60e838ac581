/- The reference's tags and lengths as plain functions; the forms of packets. -/
import Derived.Test.YtdfehaonngccjaaGreatDoorZ9
import Derived.Test.YtdfehaonngccjaaGreatDoorPFnResultToldx3
import Derived.Test.YtdfehaonngccjaaGreatDoorPFnResultToldx1
import Derived.Deep.LoopGhost
import Derived.Test.YtdfehaonngccjaaGreatDoorWRepsOne
import Derived.BigRegion
import Derived.IntWalk
set_option linter.unusedVariables false
set_option linter.unusedSimpArgs false
namespace Go.Proofs.YtdfehaonngccjaaGreatDoor
open Go Go.RowKit Go.Proofs.YtdfehaonngccjaaGreatDoorW.PrintWords Go.Proofs.YtdfehaonngccjaaGreatDoorW.PrintLast Go.Proofs.YtdfehaonngccjaaGreatDoorW.PrintMore

/-- A text of bytes. -/
def bs (l : List UInt8) : ByteArray := ⟨l.toArray⟩
theorem bs_append (a b : List UInt8) : bs a ++ bs b = bs (a ++ b) := by
  apply ByteArray.ext
  simp [bs, ByteArray.data_append]
theorem bs_size (l : List UInt8) : (bs l).size = l.length := by simp [bs, ByteArray.size]
theorem bs_list (l : List UInt8) : (bs l).data.toList = l := rfl
theorem bs_of (s : ByteArray) : s = bs s.data.toList := rfl
theorem strOfNums_bs (xs : List Int) : strOfNums xs = bs (xs.map fun n => UInt8.ofNat n.toNat) := rfl

theorem or128_8 {x : Nat} (h : x < 128) : bits .or .u8 (x : Int) 128 = ((x + 128 : Nat) : Int) := by
  have e := or_u8 (x := x) (y := 128) (by omega) (by omega)
  have k : ∀ y, y < 128 → y ||| 128 = y + 128 := by decide +kernel
  rw [← k x h]; exact e

theorem tag_l0 (f : Nat) : ∀ (m k : Nat) (x3 : Int) (rest : List UInt8), m < 128 ^ f → m < 2 ^ 64 → f < k → rest.length + f < 1000000000 →
    PFnResultTold.spec_BerTag.l0 k x3 (bs rest) (m : Int) = some (bs (UInt8.ofNat (bits .or .u8 x3 31).toNat :: (Ber.tagMore f m ++ rest))) := by
  have base : ∀ (k : Nat) (x3 : Int) (rest : List UInt8), 0 < k → rest.length < 1000000000 → PFnResultTold.spec_BerTag.l0 k x3 (bs rest) ((0 : Nat) : Int) = some (bs (UInt8.ofNat (bits .or .u8 x3 31).toNat :: rest)) := by
    intro k x3 rest hk hr
    obtain ⟨k, rfl⟩ : ∃ k', k = k' + 1 := ⟨k - 1, by omega⟩
    simp only [PFnResultTold.spec_BerTag.l0]
    rw [if_neg (by simp)]
    simp only [Option.bind_some]
    rw [if_pos (by rw [strOfNums_size, bs_size]; simp; omega), strOfNums_bs, bs_append]
    simp
  induction f with
  | zero =>
    intro m k x3 rest hm _ hk hr
    obtain rfl : m = 0 := by simpa using hm
    simpa [Ber.tagMore] using base k x3 rest (by omega) (by omega)
  | succ f ih =>
    intro m k x3 rest hm hm2 hk hr
    by_cases h0 : m = 0
    · subst h0
      simpa [Ber.tagMore] using base k x3 rest (by omega) (by omega)
    · obtain ⟨k, rfl⟩ : ∃ k', k = k' + 1 := ⟨k - 1, by omega⟩
      simp only [PFnResultTold.spec_BerTag.l0]
      rw [if_pos (by omega)]
      simp only [Option.bind_some]
      rw [if_pos (by rw [strOfNums_size, bs_size]; simp; omega), strOfNums_bs, bs_append]
      have e1 : bits .or .u8 (bits .and .u64 (m : Int) 127 % 256) 128 = ((m % 128 + 128 : Nat) : Int) := by
        rw [and127u hm2, show (((m % 128 : Nat) : Int) % 256) = ((m % 128 : Nat) : Int) by omega]
        exact or128_8 (by omega)
      have e2 : ((m : Int) / 128) = ((m / 128 : Nat) : Int) := by omega
      simp only [List.map_cons, List.map_nil, e1, e2, Int.toNat_natCast]
      rw [ih (m / 128) k x3 _ (by rw [Nat.pow_succ] at hm; omega) (by omega) (by omega) (by simp; omega)]
      simp only [Ber.tagMore, if_neg h0, List.append_assoc, List.cons_append, List.nil_append]

theorem cls_wrap {c : Nat} (hc : c < 4) : ((c : Int) * 64) % 256 = ((c * 64 : Nat) : Int) := by omega

theorem berTag_f (c : Nat) (hc : c < 4) (b : Bool) (t : Nat) (ht : t < 2 ^ 64) (d : ByteArray) (l : List PFnResultTold.S35) :
    PFnResultTold.spec_BerTag.f 20 (c : Int) b (t : Int) d l = some (bs (Ber.identBytes c b t)) := by
  have hx : ∀ x3 : Nat, x3 = c * 64 + (if b then 32 else 0) → PFnResultTold.spec_BerTag.j0 20 (x3 : Int) (c : Int) b (t : Int) d l = some (bs (Ber.identBytes c b t)) := by
    intro x3 hx3
    have hx4 : x3 < 256 := by rw [hx3]; split <;> omega
    simp only [PFnResultTold.spec_BerTag.j0]
    unfold Ber.identBytes
    by_cases h31 : t < 31
    · rw [if_pos (by omega), if_pos h31, strOfNums_bs]
      have e0 : ((t : Int) % 256) = (t : Int) := by omega
      simp only [List.map_cons, List.map_nil, e0]
      rw [or_u8 hx4 (by omega), hx3, or_tag c hc b t (by omega), Int.toNat_natCast]
    · rw [if_neg (by omega), if_neg h31]
      have e1 : (bits .and .u64 (t : Int) 127) % 256 = ((t % 128 : Nat) : Int) := by rw [and127u ht]; omega
      have e2 : ((t : Int) / 128) = ((t / 128 : Nat) : Int) := by omega
      rw [strOfNums_bs]
      have e3 : bits .or .u8 (x3 : Int) 31 = ((c * 64 + (if b then 32 else 0) + 31 : Nat) : Int) := by
        rw [show (31 : Int) = ((31 : Nat) : Int) from rfl, or_u8 hx4 (by omega), hx3, or_tag c hc b 31 (by omega)]
      simp only [List.map_cons, List.map_nil, e1, e2, Int.toNat_natCast]
      rw [tag_l0 10 (t / 128) 19 _ _ (by have : t / 128 < 2 ^ 64 := by omega
                                         exact Nat.lt_of_lt_of_le this (by decide)) (by omega) (by omega) (by simp)]
      rw [e3, Int.toNat_natCast]
      unfold Ber.tagBytes
      rw [if_neg (show ¬ t = 0 by omega)]
  unfold PFnResultTold.spec_BerTag.f
  rw [cls_wrap hc]
  cases b with
  | true =>
    rw [if_pos rfl]
    have : bits .or .u8 ((c * 64 : Nat) : Int) 32 = ((c * 64 + 32 : Nat) : Int) := by
      rw [show (32 : Int) = ((32 : Nat) : Int) from rfl, or_u8 (by omega) (by omega)]
      have := or_cls c hc true
      simp at this
      rw [this]
    rw [this]
    exact hx _ (by simp)
  | false =>
    rw [if_neg (by simp)]
    exact hx _ (by simp)
end Go.Proofs.YtdfehaonngccjaaGreatDoor

/- What is asked of results, and the contents of integers: the reference's functions end, and what they say. -/
namespace Go.Proofs.YtdfehaonngccjaaGreatDoor
open Go Go.RowKit Go.Proofs.YtdfehaonngccjaaGreatDoorW.PrintWords Go.Proofs.YtdfehaonngccjaaGreatDoorW.PrintLast Go.Proofs.YtdfehaonngccjaaGreatDoorW.PrintMore

theorem w_up (i : Nat) (h : i < 9223372036854775807) : wrap64 ((i : Int) + 1) = ((i + 1 : Nat) : Int) := by unfold wrap64; omega

theorem msgText_ev (s : ByteArray) : ∀ d i : Nat, i + d = 61 → ∃ r : Bool, Ev (fun k => PFnResultTold.spec_msgText.l0 k s 60 (i : Int)) r ∧ (r = true → s.size ≤ 60) := by
  have stop : ∀ i : Nat, Ev (fun k => PFnResultTold.spec_msgText.j1 k s 60 (i : Int) false) (decide ((s.size : Int) ≤ 60)) := fun i => Ev.done fun k => by
    simp only [PFnResultTold.spec_msgText.j1]; rw [if_neg (by simp)]
  intro d
  induction d with
  | zero =>
    intro i hi
    obtain rfl : i = 61 := by omega
    refine ⟨_, (stop 61).succ fun k => ?_, fun h => by have := of_decide_eq_true h; omega⟩
    simp only [PFnResultTold.spec_msgText.l0]
    split
    · rfl
    · rfl
  | succ d ih =>
    intro i hi
    by_cases hlt : (i : Int) < (s.size : Int)
    · have hj : decide ((i : Int) ≤ 60) = true := decide_eq_true (by omega)
      by_cases h1 : bt s (i : Int) < 32
      · refine ⟨false, Ev.succ (g := fun k => PFnResultTold.spec_msgText.j1 k s 60 (i : Int) true) (Ev.done fun k => ?_) fun k => ?_, fun h => by cases h⟩
        · simp only [PFnResultTold.spec_msgText.j1]; rw [if_pos trivial, if_pos (by omega), if_pos hlt, if_pos h1]
        · simp only [PFnResultTold.spec_msgText.l0]; rw [if_pos hlt, hj]
      · by_cases h2 : bt s (i : Int) > 126
        · refine ⟨false, Ev.succ (g := fun k => PFnResultTold.spec_msgText.j1 k s 60 (i : Int) true) (Ev.done fun k => ?_) fun k => ?_, fun h => by cases h⟩
          · simp only [PFnResultTold.spec_msgText.j1]; rw [if_pos trivial, if_pos (by omega), if_pos hlt, if_neg h1, if_pos h2]
          · simp only [PFnResultTold.spec_msgText.l0]; rw [if_pos hlt, hj]
        · obtain ⟨r, hr, hs⟩ := ih (i + 1) (by omega)
          refine ⟨r, Ev.succ (g := fun k => PFnResultTold.spec_msgText.j1 k s 60 (i : Int) true) (hr.succ fun k => ?_) fun k => ?_, hs⟩
          · simp only [PFnResultTold.spec_msgText.j1]; rw [if_pos trivial, if_pos (by omega), if_pos hlt, if_neg h1, if_neg h2, w_up i (by omega)]
          · simp only [PFnResultTold.spec_msgText.l0]; rw [if_pos hlt, hj]
    · refine ⟨_, (stop i).succ fun k => ?_, fun h => by have := of_decide_eq_true h; omega⟩
      simp only [PFnResultTold.spec_msgText.l0]
      rw [if_neg hlt]
theorem msgText_f (s : ByteArray) : ∃ r : Bool, Ev (fun k => PFnResultTold.spec_msgText.f k s 60) r ∧ (r = true → s.size ≤ 60) := by
  obtain ⟨r, h1, h2⟩ := msgText_ev s 61 0 rfl
  exact ⟨r, h1, h2⟩

theorem rd_refs (refs : List ByteArray) (j : Nat) (hj : j < refs.length) : rdOf ByteArray.empty refs (j : Int) = refs[j] := by
  unfold rdOf
  rw [List.getD_eq_getElem?_getD, Int.toNat_natCast, List.getElem?_eq_getElem hj]; rfl

/-- What LdapResultIs says of a result. -/
structure ResOK (code : Int) (matched text : ByteArray) (refs : List ByteArray) : Prop where
  lo : 0 ≤ code
  hi : code ≤ 127
  m : matched.size ≤ 60
  t : text.size ≤ 60
  few : refs.length ≤ 4
  r : ∀ j (hj : j < refs.length), refs[j].size ≤ 60

theorem resultIs_ev (code : Int) (matched text : ByteArray) (refs : List ByteArray) : ∀ d i : Nat, i + d = 5 → (∀ j (hj : j < refs.length), j < i → refs[j].size ≤ 60) →
    ∃ r : Bool, Ev (fun k => PFnResultTold.spec_LdapResultIs.l0 k (i : Int) code matched text refs) r ∧ (r = true → ResOK code matched text refs) := by
  have stop : ∀ i : Nat, (5 ≤ i ∨ refs.length ≤ i) → (∀ j (hj : j < refs.length), j < i → refs[j].size ≤ 60) → ∃ r : Bool, Ev (fun k => PFnResultTold.spec_LdapResultIs.j1 k (i : Int) false code matched text refs) r ∧ (r = true → ResOK code matched text refs) := by
    intro i hi hall
    by_cases h0 : code ≥ 0
    · by_cases h1 : code ≤ 127
      · obtain ⟨rm, hm, sm⟩ := msgText_f matched
        cases rm with
        | false => exact ⟨false, hm.two (h := fun _ => some false) ⟨0, fun _ _ => rfl⟩ fun k hk => by
            simp only [PFnResultTold.spec_LdapResultIs.j1]; rw [if_neg (by simp), if_pos h0, if_pos h1, hk, Option.bind_some, if_neg (by simp)], fun h => by cases h⟩
        | true =>
          obtain ⟨rt, ht, st⟩ := msgText_f text
          cases rt with
          | false => exact ⟨false, hm.two (h := fun k => (PFnResultTold.spec_msgText.f k text 60).bind fun t108 => if t108 = true then some (decide ((refs.length : Int) ≤ 4)) else some false) (by
              obtain ⟨K, hK⟩ := ht
              exact ⟨K, fun k hk => by have := hK k hk; simp only [] at this ⊢; rw [this, Option.bind_some, if_neg (by simp)]⟩) fun k hk => by
              simp only [PFnResultTold.spec_LdapResultIs.j1]; rw [if_neg (by simp), if_pos h0, if_pos h1, hk, Option.bind_some, if_pos rfl], fun h => by cases h⟩
          | true => exact ⟨decide ((refs.length : Int) ≤ 4), hm.two (h := fun k => (PFnResultTold.spec_msgText.f k text 60).bind fun t108 => if t108 = true then some (decide ((refs.length : Int) ≤ 4)) else some false) (by
              obtain ⟨K, hK⟩ := ht
              exact ⟨K, fun k hk => by have := hK k hk; simp only [] at this ⊢; rw [this, Option.bind_some, if_pos rfl]⟩) fun k hk => by
              simp only [PFnResultTold.spec_LdapResultIs.j1]; rw [if_neg (by simp), if_pos h0, if_pos h1, hk, Option.bind_some, if_pos rfl], fun h => by
                have h4 := of_decide_eq_true h
                exact ⟨h0, h1, sm rfl, st rfl, by omega, fun j hj => hall j hj (by omega)⟩⟩
      · exact ⟨false, Ev.done fun k => by simp only [PFnResultTold.spec_LdapResultIs.j1]; rw [if_neg (by simp), if_pos h0, if_neg h1], fun h => by cases h⟩
    · exact ⟨false, Ev.done fun k => by simp only [PFnResultTold.spec_LdapResultIs.j1]; rw [if_neg (by simp), if_neg h0], fun h => by cases h⟩
  intro d
  induction d with
  | zero =>
    intro i hi hall
    obtain rfl : i = 5 := by omega
    obtain ⟨r, h1, h2⟩ := stop 5 (Or.inl (by omega)) hall
    refine ⟨r, h1.succ fun k => ?_, h2⟩
    simp only [PFnResultTold.spec_LdapResultIs.l0]
    split
    · rfl
    · rfl
  | succ d ih =>
    intro i hi hall
    by_cases hlt : (i : Int) < (refs.length : Int)
    · have hl : i < refs.length := by omega
      have hj : decide ((i : Int) < 5) = true := decide_eq_true (by omega)
      obtain ⟨rm, hm, sm⟩ := msgText_f refs[i]
      cases rm with
      | false =>
        refine ⟨false, Ev.succ (g := fun k => PFnResultTold.spec_LdapResultIs.j1 k (i : Int) true code matched text refs) (hm.two (h := fun _ => some false) ⟨0, fun _ _ => rfl⟩ fun k hk => ?_) fun k => ?_, fun h => by cases h⟩
        · simp only [PFnResultTold.spec_LdapResultIs.j1]; rw [if_pos trivial, if_pos (by omega), if_pos hlt, rd_refs refs i hl, hk, Option.bind_some, if_neg (by simp)]
        · simp only [PFnResultTold.spec_LdapResultIs.l0]; rw [if_pos hlt, hj]
      | true =>
        obtain ⟨r, hr, hs⟩ := ih (i + 1) (by omega) (fun j hj h => by
          by_cases e : j = i
          · subst e; exact sm rfl
          · exact hall j hj (by omega))
        refine ⟨r, Ev.succ (g := fun k => PFnResultTold.spec_LdapResultIs.j1 k (i : Int) true code matched text refs) (hm.two hr fun k hk => ?_) fun k => ?_, hs⟩
        · simp only [PFnResultTold.spec_LdapResultIs.j1]; rw [if_pos trivial, if_pos (by omega), if_pos hlt, rd_refs refs i hl, hk, Option.bind_some, if_pos rfl, w_up i (by omega)]
        · simp only [PFnResultTold.spec_LdapResultIs.l0]; rw [if_pos hlt, hj]
    · obtain ⟨r, h1, h2⟩ := stop i (Or.inr (by omega)) hall
      refine ⟨r, h1.succ fun k => ?_, h2⟩
      simp only [PFnResultTold.spec_LdapResultIs.l0]
      rw [if_neg hlt]
theorem resultIs_f (code : Int) (matched text : ByteArray) (refs : List ByteArray) : ∃ (r : Bool) (k : Nat), PFnResultTold.spec_LdapResultIs.f k code matched text refs = some r ∧ (r = true → ResOK code matched text refs) := by
  obtain ⟨r, h1, h2⟩ := resultIs_ev code matched text refs 5 0 rfl (fun _ _ h => absurd h (Nat.not_lt_zero _))
  obtain ⟨k, hk⟩ := h1.at_
  exact ⟨r, k, hk, h2⟩

theorem fits2_ev (refs : List ByteArray) (hl : refs.length ≤ 9223372036854775807) : ∀ d i : Nat, i + d = refs.length → ∃ r : Bool, Ev (fun k => PFnResultTold.laws_zzFits2.l0 k refs (refs.length : Int) (i : Int)) r := by
  intro d
  induction d with
  | zero =>
    intro i hi
    exact ⟨true, Ev.done fun k => by simp only [PFnResultTold.laws_zzFits2.l0]; rw [if_neg (by omega)]⟩
  | succ d ih =>
    intro i hi
    by_cases hb : ((rdOf ByteArray.empty refs (i : Int)).size : Int) > 2147483647
    · exact ⟨false, Ev.done fun k => by simp only [PFnResultTold.laws_zzFits2.l0]; rw [if_pos (by omega), if_pos (by omega), if_pos (by omega), if_pos hb]⟩
    · obtain ⟨r, hr⟩ := ih (i + 1) (by omega)
      exact ⟨r, hr.succ fun k => by simp only [PFnResultTold.laws_zzFits2.l0]; rw [if_pos (by omega), if_pos (by omega), if_pos (by omega), if_neg hb, w_up i (by omega)]⟩
theorem fits6_f (code : Int) (matched text : ByteArray) (refs : List ByteArray) (hl : refs.length ≤ 9223372036854775807) : ∃ (r : Bool) (k : Nat), PFnResultTold.laws_zzFits6.f k code matched text refs = some r := by
  obtain ⟨r, K, hK⟩ := fits2_ev refs hl refs.length 0 (by omega)
  by_cases h1 : (matched.size : Int) > 2147483647
  · exact ⟨false, 0, by unfold PFnResultTold.laws_zzFits6.f; rw [if_pos h1]⟩
  · by_cases h2 : (text.size : Int) > 2147483647
    · exact ⟨false, 0, by unfold PFnResultTold.laws_zzFits6.f; rw [if_neg h1, if_pos h2]⟩
    · by_cases h3 : (refs.length : Int) > 2147483647
      · exact ⟨false, 0, by unfold PFnResultTold.laws_zzFits6.f PFnResultTold.laws_zzFits2.f; rw [if_neg h1, if_neg h2, if_pos h3, Option.bind_some, if_neg (by simp)]⟩
      · have hf : PFnResultTold.laws_zzFits2.f K refs = some r := by unfold PFnResultTold.laws_zzFits2.f; rw [if_neg h3]; exact hK K (Nat.le_refl _)
        cases r with
        | true => exact ⟨true, K, by unfold PFnResultTold.laws_zzFits6.f; rw [if_neg h1, if_neg h2, hf, Option.bind_some, if_pos rfl]⟩
        | false => exact ⟨false, K, by unfold PFnResultTold.laws_zzFits6.f; rw [if_neg h1, if_neg h2, hf, Option.bind_some, if_neg (by simp)]⟩

theorem fine_f (id : Int) (l : List Int) : ∃ r : Bool, PFnResultTold.laws_ldapFine.f id l = some r ∧ (r = true → 0 ≤ id ∧ id < 2147483648 ∧ l.length ≤ 40) := by
  unfold PFnResultTold.laws_ldapFine.f
  by_cases h1 : id ≥ 0
  · by_cases h2 : id < 2147483648
    · exact ⟨_, by rw [if_pos h1, if_pos h2], fun h => ⟨h1, h2, by have := of_decide_eq_true h; omega⟩⟩
    · exact ⟨_, by rw [if_pos h1, if_neg h2], fun h => by cases h⟩
  · exact ⟨_, by rw [if_neg h1], fun h => by cases h⟩

/-- The contents of an integer that is not below 0. -/
theorem berInt_l0 : ∀ (n k : Nat) (x : Int) (l : List UInt8), 0 ≤ x → x < 128 * 256 ^ n → n < k → l.length + n ≤ 100 → ∃ l', PFnResultTold.spec_BerInt.l0 k x (bs l) = some (bs l') ∧ l'.length ≤ l.length + n ∧ l.length ≤ l'.length
  | 0, k, x, l, h0, h1, hk, hl => by
    obtain ⟨k, rfl⟩ : ∃ k', k = k' + 1 := ⟨k - 1, by omega⟩
    refine ⟨l, ?_, by omega, Nat.le_refl _⟩
    simp only [PFnResultTold.spec_BerInt.l0]
    rw [if_neg (by omega), if_neg (by omega)]
  | n + 1, k, x, l, h0, h1, hk, hl => by
    obtain ⟨k, rfl⟩ : ∃ k', k = k' + 1 := ⟨k - 1, by omega⟩
    simp only [PFnResultTold.spec_BerInt.l0]
    rw [if_neg (by omega)]
    by_cases h2 : x > 127
    · rw [if_pos h2]
      have e1 : (x / 256) % 256 = (((x / 256) % 256).toNat : Int) := by omega
      obtain ⟨m, hm⟩ : ∃ m : Nat, (x / 256) % 256 = (m : Int) := ⟨_, e1⟩
      simp only [Option.bind_some]
      rw [hm, if_pos (by rw [strOfNums_size, bs_size]; simp; omega), strOfNums_bs, bs_append]
      obtain ⟨l', h3, h4, h5⟩ := berInt_l0 n k (x / 256) (([(m : Int)].map fun n => UInt8.ofNat n.toNat) ++ l) (by omega) (by rw [Int.pow_succ] at h1; omega) (by omega) (by simp; omega)
      exact ⟨l', h3, by simp at h4; omega, by simp at h5; omega⟩
    · rw [if_neg h2]
      exact ⟨l, rfl, by omega, Nat.le_refl _⟩
theorem berInt_id (id : Int) (h0 : 0 ≤ id) (h1 : id < 2147483648) : ∃ l, PFnResultTold.spec_BerInt.f 9 id = some (bs l) ∧ l.length ≤ 5 := by
  unfold PFnResultTold.spec_BerInt.f
  rw [strOfNums_bs]
  obtain ⟨l', h3, h4, -⟩ := berInt_l0 4 9 id ([id % 256].map fun n => UInt8.ofNat n.toNat) h0 (by omega) (by omega) (by simp)
  exact ⟨l', h3, by simp at h4; omega⟩
theorem berInt_code (c : Nat) (h : c ≤ 127) : PFnResultTold.spec_BerInt.f 9 (c : Int) = some (bs [UInt8.ofNat c]) := by
  unfold PFnResultTold.spec_BerInt.f
  rw [strOfNums_bs]
  simp only [PFnResultTold.spec_BerInt.l0]
  rw [if_neg (by omega), if_neg (by omega)]
  have e : ((c : Int) % 256).toNat = c := by omega
  simp only [List.map_cons, List.map_nil, e]
theorem parse_code (c : Nat) (h : c ≤ 127) : parseOf [UInt8.ofNat c] = (c : Int) := by
  have k : ∀ c : Nat, c < 128 → parseOf [UInt8.ofNat c] = (c : Int) := by decide +kernel
  exact k c (by omega)

namespace Ber
theorem refPks_ok : ∀ (refs : List (List UInt8)) (dd : Nat), 1 ≤ dd → (∀ s ∈ refs, s.length ≤ 60) → IsOKs dd (refPks refs) ∧ Knowns (refPks refs) ∧ counts (refPks refs) = refs.length
  | [], dd, _, _ => ⟨trivial, trivial, rfl⟩
  | s :: r, dd, hd, h => by
    obtain ⟨h1, h2, h3⟩ := refPks_ok r dd hd (fun x hx => h x (List.mem_cons_of_mem _ hx))
    have hs := h s (List.mem_cons_self ..)
    refine ⟨⟨⟨by omega, by omega, by omega, hd, by omega, (fun h => by cases h), fun _ => rfl, trivial⟩, h1⟩, ⟨⟨fun _ => rfl, trivial⟩, h2⟩, ?_⟩
    unfold refPks at h3 ⊢
    simp only [List.map_cons, counts, count, h3, List.length_cons]
    omega
theorem res_ok (idb : List UInt8) (kind : Nat) (cb matched text : List UInt8) (refs : List (List UInt8)) (hi : idb.length ≤ 5) (hk : kind < 30) (hc : cb.length ≤ 5) (hm : matched.length ≤ 60) (ht : text.length ≤ 60) (hr : refs.length ≤ 4) (hs : ∀ s ∈ refs, s.length ≤ 60) :
    IsOK 7 (resPk idb kind cb matched text refs) ∧ Known (resPk idb kind cb matched text refs) ∧ count (resPk idb kind cb matched text refs) ≤ 40 := by
  obtain ⟨h1, h2, h3⟩ := refPks_ok refs 4 (by omega) hs
  have parts : IsOKs 5 (partPks cb matched text refs) ∧ Knowns (partPks cb matched text refs) ∧ counts (partPks cb matched text refs) ≤ 10 := by
    unfold partPks
    by_cases h0 : refs = []
    · rw [if_pos h0]
      refine ⟨⟨⟨by omega, by omega, by omega, by omega, by omega, (fun h => by cases h), fun _ => rfl, trivial⟩, ⟨by omega, by omega, by omega, by omega, by omega, (fun h => by cases h), fun _ => rfl, trivial⟩, ⟨by omega, by omega, by omega, by omega, by omega, (fun h => by cases h), fun _ => rfl, trivial⟩, trivial⟩, ⟨⟨fun _ => rfl, trivial⟩, ⟨fun _ => rfl, trivial⟩, ⟨fun _ => rfl, trivial⟩, trivial⟩, ?_⟩
      simp [counts, count]
    · rw [if_neg h0]
      refine ⟨⟨⟨by omega, by omega, by omega, by omega, by omega, (fun h => by cases h), fun _ => rfl, trivial⟩, ⟨by omega, by omega, by omega, by omega, by omega, (fun h => by cases h), fun _ => rfl, trivial⟩, ⟨by omega, by omega, by omega, by omega, by omega, (fun h => by cases h), fun _ => rfl, trivial⟩, ⟨by omega, by omega, by omega, by omega, by simp, fun _ => rfl, (fun h => by cases h), h1⟩, trivial⟩, ⟨⟨fun _ => rfl, trivial⟩, ⟨fun _ => rfl, trivial⟩, ⟨fun _ => rfl, trivial⟩, ⟨(fun h => by cases h), h2⟩, trivial⟩, ?_⟩
      simp only [counts, count, h3]
      omega
  obtain ⟨p1, p2, p3⟩ := parts
  unfold resPk
  refine ⟨⟨by omega, by omega, by omega, by omega, by simp, fun _ => rfl, (fun h => by cases h), ⟨by omega, by omega, by omega, by omega, by omega, (fun h => by cases h), fun _ => rfl, trivial⟩, ⟨by omega, by omega, by omega, by omega, by simp, fun _ => rfl, (fun h => by cases h), p1⟩, trivial⟩, ⟨(fun h => by cases h), ⟨fun _ => rfl, trivial⟩, ⟨(fun h => by cases h), p2⟩, trivial⟩, ?_⟩
  simp only [counts, count]
  omega
end Ber
end Go.Proofs.YtdfehaonngccjaaGreatDoor

/- The reference's lengths, and the forms of packets. -/
namespace Go.Proofs.YtdfehaonngccjaaGreatDoor
open Go Go.RowKit Go.Proofs.YtdfehaonngccjaaGreatDoorW.PrintWords Go.Proofs.YtdfehaonngccjaaGreatDoorW.PrintLast Go.Proofs.YtdfehaonngccjaaGreatDoorW.PrintMore

namespace Ber
/-- A length with more bytes than it needs (0: in the short form, if it is below 128). -/
def lenForm (n more : Nat) : List UInt8 :=
  if n < 128 ∧ more = 0 then [UInt8.ofNat n] else UInt8.ofNat (128 + (List.replicate (more - 1) (0 : UInt8) ++ digits 8 n).length) :: (List.replicate (more - 1) 0 ++ digits 8 n)

/-- The bytes of a number, none of 0. -/
def dg : Nat → Nat → List UInt8
  | 0, _ => []
  | f + 1, n => if n = 0 then [] else dg f (n / 256) ++ [UInt8.ofNat (n % 256)]
theorem digits_dg : ∀ (f n : Nat), 0 < n → n < 256 ^ f → digits f n = dg f n
  | 0, n, h0, h => by simp at h; omega
  | f + 1, n, h0, h => by
    simp only [digits, dg]
    rw [if_neg (show ¬ n = 0 by omega)]
    by_cases h2 : n < 256
    · rw [if_pos h2, show n / 256 = 0 by omega, show n % 256 = n by omega]
      cases f <;> simp [dg]
    · rw [if_neg h2, digits_dg f (n / 256) (by omega) (by rw [Nat.pow_succ] at h; omega)]
theorem digits_split (f n : Nat) (h : n < 256 ^ (f + 1)) : digits (f + 1) n = dg f (n / 256) ++ [UInt8.ofNat (n % 256)] := by
  simp only [digits]
  by_cases h2 : n < 256
  · rw [if_pos h2, show n / 256 = 0 by omega, show n % 256 = n by omega]
    cases f <;> simp [dg]
  · rw [if_neg h2, digits_dg f (n / 256) (by omega) (by rw [Nat.pow_succ] at h; omega)]
theorem dg_length : ∀ (f n : Nat), (dg f n).length ≤ f
  | 0, _ => by simp [dg]
  | f + 1, n => by
    simp only [dg]
    split
    · simp
    · have := dg_length f (n / 256); simp; omega
theorem digits_length (n : Nat) (h : n < 256 ^ 8) : (digits 8 n).length ≤ 8 := by
  rw [digits_split 7 n h]
  have := dg_length 7 (n / 256)
  simp; omega
end Ber

theorem or128_l {x : Nat} (h : x < 128) : bits .or .u8 128 (x : Int) = ((128 + x : Nat) : Int) := by
  have e := or_u8 (x := 128) (y := x) (by omega) (by omega)
  have k : ∀ y, y < 128 → 128 ||| y = 128 + y := by decide +kernel
  rw [← k x h]; exact e

theorem len_l1 (z : Nat) : ∀ (k i : Nat) (s : List UInt8), i ≤ z → z - i < k → z < 1000 → s.length + (z - i) < 128 →
    PFnResultTold.spec_BerLength.l1 k (bs s) (z : Int) (i : Int) = some (bs (UInt8.ofNat (128 + (z - i + s.length)) :: (List.replicate (z - i) 0 ++ s))) := by
  intro k
  induction k with
  | zero => intro i s _ h; omega
  | succ k ih =>
    intro i s hi hk hz hs
    simp only [PFnResultTold.spec_BerLength.l1]
    by_cases hiz : i < z
    · rw [if_pos (by omega), if_pos (by rw [bs_size]; omega)]
      have e1 : wrap64 ((i : Int) + 1) = ((i + 1 : Nat) : Int) := by unfold wrap64; omega
      have e2 : ((⟨#[0]⟩ : ByteArray) ++ bs s) = bs (0 :: s) := bs_append [0] s
      rw [e1, e2, ih (i + 1) (0 :: s) (by omega) (by omega) hz (by simp; omega)]
      congr 2
      obtain ⟨j, hj⟩ : ∃ j, z - i = j + 1 := ⟨z - i - 1, by omega⟩
      rw [show z - (i + 1) = j by omega, hj, List.replicate_succ', List.length_cons]
      simp only [List.append_assoc, List.cons_append, List.nil_append]
      rw [show j + (s.length + 1) = j + 1 + s.length by omega]
    · rw [if_neg (by omega)]
      simp only [Option.bind_some]
      have h0 : z - i = 0 := by omega
      rw [if_pos (by rw [strOfNums_size, bs_size]; simp; omega), strOfNums_bs, bs_append, h0]
      have e1 : (((bs s).size : Int) % 256) = ((s.length : Nat) : Int) := by rw [bs_size]; omega
      simp only [List.map_cons, List.map_nil, e1]
      rw [or128_l (by omega), Int.toNat_natCast]
      simp

theorem mx_more (more : Nat) (h : more < 1000) : mx (wrap64 ((more : Int) - 1)) 0 = ((more - 1 : Nat) : Int) := by
  unfold mx wrap64
  split <;> omega

theorem len_l0 (f : Nat) : ∀ (m k : Nat) (s : List UInt8) (more : Nat), 0 < s.length → m < 256 ^ f → s.length + f < 50 → more < 20 → f + more + 5 < k →
    PFnResultTold.spec_BerLength.l0 k (more : Int) (bs s) (m : Int) = some (bs (UInt8.ofNat (128 + (more - 1 + (Ber.dg f m ++ s).length)) :: (List.replicate (more - 1) 0 ++ (Ber.dg f m ++ s)))) := by
  have base : ∀ (k : Nat) (s : List UInt8) (more : Nat), 0 < s.length → s.length < 50 → more < 20 → more + 5 < k →
      PFnResultTold.spec_BerLength.l0 k (more : Int) (bs s) ((0 : Nat) : Int) = some (bs (UInt8.ofNat (128 + (more - 1 + s.length)) :: (List.replicate (more - 1) 0 ++ s))) := by
    intro k s more hs hs2 hm hk
    obtain ⟨k, rfl⟩ : ∃ k', k = k' + 1 := ⟨k - 1, by omega⟩
    simp only [PFnResultTold.spec_BerLength.l0]
    rw [if_neg (by simp), if_neg (by rw [Lib.toList_data, bs_list]; intro h; simp [h] at hs), mx_more more (by omega)]
    have := len_l1 (more - 1) k 0 s (by omega) (by omega) (by omega) (by omega)
    rw [Nat.sub_zero] at this
    exact this
  induction f with
  | zero =>
    intro m k s more hs hm h1 h2 h3
    obtain rfl : m = 0 := by simpa using hm
    simpa [Ber.dg] using base k s more hs (by omega) h2 (by omega)
  | succ f ih =>
    intro m k s more hs hm h1 h2 h3
    by_cases h0 : m = 0
    · subst h0
      simpa [Ber.dg] using base k s more hs (by omega) h2 (by omega)
    · obtain ⟨k, rfl⟩ : ∃ k', k = k' + 1 := ⟨k - 1, by omega⟩
      simp only [PFnResultTold.spec_BerLength.l0]
      rw [if_pos (by omega)]
      simp only [Option.bind_some]
      rw [if_pos (by rw [strOfNums_size, bs_size]; simp; omega), strOfNums_bs, bs_append]
      have e1 : ((m : Int) % 256) = ((m % 256 : Nat) : Int) := by omega
      have e2 : ((m : Int) / 256) = ((m / 256 : Nat) : Int) := by omega
      simp only [List.map_cons, List.map_nil, e1, e2, Int.toNat_natCast]
      rw [ih (m / 256) k _ more (by simp) (by rw [Nat.pow_succ] at hm; omega) (by simp; omega) h2 (by omega)]
      simp only [Ber.dg, if_neg h0, List.append_assoc, List.cons_append, List.nil_append]

theorem berLength_f (n more : Nat) (hn : n < 256 ^ 8) (hm : more < 20) : PFnResultTold.spec_BerLength.f 40 (n : Int) (more : Int) = some (bs (Ber.lenForm n more)) := by
  have long : ∀ x12 : Bool, x12 = false → PFnResultTold.spec_BerLength.j0 40 (n : Int) (more : Int) x12 = some (bs (UInt8.ofNat (128 + (List.replicate (more - 1) (0 : UInt8) ++ Ber.digits 8 n).length) :: (List.replicate (more - 1) 0 ++ Ber.digits 8 n))) := by
    rintro x12 rfl
    simp only [PFnResultTold.spec_BerLength.j0]
    rw [if_neg (by simp)]
    have hd := Ber.digits_split 7 n hn
    have e1 : ((n : Int) % 256) = ((n % 256 : Nat) : Int) := by omega
    have e2 : ((n : Int) / 256) = ((n / 256 : Nat) : Int) := by omega
    have step : PFnResultTold.spec_BerLength.l0 39 (more : Int) (⟨#[]⟩ : ByteArray) (n : Int) = PFnResultTold.spec_BerLength.l0 38 (more : Int) (bs [UInt8.ofNat (n % 256)]) ((n / 256 : Nat) : Int) := by
      have hsz : (strOfNums [((n % 256 : Nat) : Int)]).size + (⟨#[]⟩ : ByteArray).size ≤ 9223372036854775807 := by rw [strOfNums_size, show (⟨#[]⟩ : ByteArray).size = 0 from rfl]; simp
      have hap : strOfNums [((n % 256 : Nat) : Int)] ++ (⟨#[]⟩ : ByteArray) = bs [UInt8.ofNat (n % 256)] := by
        have := bs_append [UInt8.ofNat (n % 256)] []
        rw [strOfNums_bs]
        simp only [List.map_cons, List.map_nil, Int.toNat_natCast]
        exact this
      rw [PFnResultTold.spec_BerLength.l0]
      by_cases h0 : (n : Int) > 0
      · rw [if_pos h0]
        simp only [Option.bind_some, e1, e2]
        rw [if_pos hsz, hap]
      · rw [if_neg h0, if_pos (by rw [Lib.toList_data])]
        simp only [Option.bind_some, e1, e2]
        rw [if_pos hsz, hap]
    rw [step, len_l0 7 (n / 256) 38 _ more (by simp) (by omega) (by simp) hm (by omega), hd]
    simp only [List.length_append, List.length_replicate]
  unfold PFnResultTold.spec_BerLength.f Ber.lenForm
  by_cases h1 : n < 128
  · rw [if_pos (by omega)]
    by_cases h2 : more = 0
    · subst h2
      rw [if_pos ⟨h1, rfl⟩]
      have e0 : ((n : Int) % 256) = (n : Int) := by omega
      simp only [PFnResultTold.spec_BerLength.j0]
      rw [if_pos (by simp), strOfNums_bs]
      simp only [List.map_cons, List.map_nil, e0, Int.toNat_natCast]
    · rw [if_neg (by omega)]
      exact long _ (by rw [beq_eq_false_iff_ne]; omega)
  · rw [if_neg (by omega), if_neg (by omega)]
    exact long _ rfl

mutual
/-- A packet as a value of the reference. -/
def spS : Ber.Pk → PFnResultTold.S35
  | .mk c b t data items => ⟨(c : Int), b, (t : Int), bs data, spSs items⟩
def spSs : List Ber.Pk → List PFnResultTold.S35
  | [] => []
  | x :: r => spS x :: spSs r
end
theorem spSs_length : ∀ (l : List Ber.Pk), (spSs l).length = l.length
  | [] => rfl
  | x :: l => by simp [spSs, spSs_length l]
theorem spSs_get : ∀ (l : List Ber.Pk) (j : Nat) (hj : j < l.length), (spSs l)[j]? = some (spS l[j])
  | [], j, hj => absurd hj (Nat.not_lt_zero _)
  | x :: l, 0, hj => by simp [spSs]
  | x :: l, j + 1, hj => by simpa [spSs] using spSs_get l j (by simpa using hj)

namespace Ber
/-- The way that is chosen. -/
def way (ch : List UInt8) (at_ : Nat) : Nat := if ch = [] then 0 else (ch.getD (at_ % ch.length) 0).toNat % 5
def next (ch : List UInt8) (at_ : Nat) : Nat := if ch = [] then at_ else at_ + 1
/-- The bytes of a form. -/
def formText (c : Nat) (b : Bool) (t : Nat) (w : Nat) (body : List UInt8) : List UInt8 :=
  if w = 4 ∧ b = true then identBytes c b t ++ [128] ++ body ++ [0, 0] else identBytes c b t ++ lenForm body.length (w % 4) ++ body
mutual
def forms (ch : List UInt8) : Pk → Nat → List UInt8 × Nat
  | .mk c b t data items, a => (formText c b t (way ch a) (formsL ch items data (next ch a)).1, (formsL ch items data (next ch a)).2)
def formsL (ch : List UInt8) : List Pk → List UInt8 → Nat → List UInt8 × Nat
  | [], acc, a => (acc, a)
  | x :: r, acc, a => formsL ch r (acc ++ (forms ch x a).1) (forms ch x a).2
end
end Ber
end Go.Proofs.YtdfehaonngccjaaGreatDoor

/- The reference's builders of values: octets, integers, sequences, texts. -/
namespace Go.Proofs.YtdfehaonngccjaaGreatDoor
open Go Go.RowKit Go.Proofs.YtdfehaonngccjaaGreatDoorW.PrintWords Go.Proofs.YtdfehaonngccjaaGreatDoorW.PrintLast Go.Proofs.YtdfehaonngccjaaGreatDoorW.PrintMore

def emptyS : ByteArray := ⟨#[]⟩
set_option maxRecDepth 100000 in
theorem octets_call (w : World) (s : ByteArray) :
    Calls Tryz.prog 30 #[.string s] w fun e w' => e = .returned (.agg #[.int .u8 0, .bool false, .int .u64 4, .string s, .slice none 0 0]) ∧ Below w.heap.size w w' := by
  go_enter Tryz.func30, Tryz.ntmps30
  go_wp2
  refine bodyPost_ret (results_cell_row rfl _ _ w.heap.size 35 _ (0, 0) _ rfl (heap_alloc_new w _) Tryz.underlying35 rfl (by kernel_rfl)) rfl ?_
  exact ⟨rfl, (Below.refl _ w).alloc (Nat.le_refl _) _⟩

set_option maxRecDepth 100000 in
theorem seq_call (w : World) (A : Option Addr) (n cp : Nat) :
    Calls Tryz.prog 28 #[.slice A n cp] w fun e w' => e = .returned (.agg #[.int .u8 0, .bool true, .int .u64 16, .string ⟨#[]⟩, .slice A n cp]) ∧ Below w.heap.size w w' := by
  go_enter Tryz.func28, Tryz.ntmps28
  go_wp2
  refine bodyPost_ret (results_cell_row rfl _ _ w.heap.size 35 _ (0, 0) _ rfl (heap_alloc_new w _) Tryz.underlying35 rfl (by kernel_rfl)) rfl ?_
  exact ⟨rfl, (Below.refl _ w).alloc (Nat.le_refl _) _⟩

set_option maxRecDepth 100000 in
theorem app_call (w : World) (t : Int) (A : Option Addr) (n cp : Nat) :
    Calls Tryz.prog 17 #[.int .u64 t, .slice A n cp] w fun e w' => e = .returned (.agg #[.int .u8 1, .bool true, .int .u64 t, .string ⟨#[]⟩, .slice A n cp]) ∧ Below w.heap.size w w' := by
  go_enter Tryz.func17, Tryz.ntmps17
  go_wp2
  refine bodyPost_ret (results_cell_row rfl _ _ w.heap.size 35 _ (0, 0) _ rfl (heap_alloc_new w _) Tryz.underlying35 rfl (by kernel_rfl)) rfl ?_
  exact ⟨rfl, (Below.refl _ w).alloc (Nat.le_refl _) _⟩

theorem z5 {w : World} {g : Nat} {x0 x1 x2 x3 x4 : Value} {t : TypeId} {fr : Nat × Nat} (h : w.heap[g]? = some (.cells #[x0, x1, x2, x3, x4] t fr)) (a b c d e : Value) :
    (((((w.setCell ⟨g, 0, none⟩ a).setCell ⟨g, 1, none⟩ b).setCell ⟨g, 2, none⟩ c).setCell ⟨g, 3, none⟩ d).setCell ⟨g, 4, none⟩ e).heap[g]? = some (.cells #[a, b, c, d, e] t fr) := by
  have e := blockSet (blockSet (blockSet (blockSet (blockSet h 0 a) 1 b) 2 c) 3 d) 4 e
  simpa using e

set_option maxRecDepth 100000 in
set_option maxHeartbeats 4000000 in
theorem integer_call (w : World) (id : Int) (l : List UInt8) (h : PFnResultTold.spec_BerInt.f 9 id = some (bs l)) :
    Calls Tryz.prog 27 #[.int .i64 id] w fun e w' => e = .returned (.agg #[.int .u8 0, .bool false, .int .u64 2, .string (bs l), .slice none 0 0]) ∧ Below w.heap.size w w' := by
  obtain ⟨W0, hW0⟩ : ∃ W0, W0 = w.alloc (.cells #[.int .u8 0, .bool false, .int .u64 0, .string ⟨#[]⟩, .slice none 0 0] 35) := ⟨_, rfl⟩
  have hB0 : Below w.heap.size w W0 := by rw [hW0]; exact (Below.refl _ w).alloc (Nat.le_refl _) _
  have hn : W0.heap[w.heap.size]? = some (.cells #[.int .u8 0, .bool false, .int .u64 0, .string ⟨#[]⟩, .slice none 0 0] 35 (0, 0)) := by rw [hW0]; exact heap_alloc_new w _
  have hc := PFnResultTold.spec_BerInt.calls 9 id (bs l) W0 h
  have HC := Lib.hid hc
  have HW0 := Lib.hid hW0
  have HB0 := Lib.hid hB0
  have HN := Lib.hid hn
  clear hB0 hn hW0 hc h
  go_enter Tryz.func27, Tryz.ntmps27
  go_wp2_with fail
  rw [← HW0.out]
  refine HC.out.mono ?_
  rintro e w2 ⟨rfl, hb⟩
  have hn2 := (hb.block _ (blockLt HN.out)).trans HN.out
  have HN2 := Lib.hid hn2
  have HB2 := Lib.hid (HB0.out.trans (hb.mono HB0.out.size))
  have f0 := blockFrozen hn2 0
  have f1 := blockFrozen hn2 1
  have f2 := blockFrozen hn2 2
  have f3 := blockFrozen hn2 3
  have f4 := blockFrozen hn2 4
  have k0 := blockCell hn2 0
  have k1 := blockCell hn2 1
  have k2 := blockCell hn2 2
  have k3 := blockCell hn2 3
  have k4 := blockCell hn2 4
  simp only [List.getElem?_toArray, List.getElem?_cons_zero, List.getElem?_cons_succ] at k0 k1 k2 k3 k4
  clear hn2 hb
  go_wp2
  refine bodyPost_ret (results_cell_row rfl _ _ w.heap.size 35 _ (0, 0) _ rfl (z5 HN2.out _ _ _ _ _) Tryz.underlying35 rfl (by kernel_rfl)) rfl ?_
  exact ⟨rfl, ((((HB2.out.setCell (Nat.le_refl _) _).setCell (Nat.le_refl _) _).setCell (Nat.le_refl _) _).setCell (Nat.le_refl _) _).setCell (Nat.le_refl _) _⟩

set_option maxRecDepth 100000 in
set_option maxHeartbeats 4000000 in
theorem enum_call (w : World) (id : Int) (l : List UInt8) (h : PFnResultTold.spec_BerInt.f 9 id = some (bs l)) :
    Calls Tryz.prog 29 #[.int .i64 id] w fun e w' => e = .returned (.agg #[.int .u8 0, .bool false, .int .u64 10, .string (bs l), .slice none 0 0]) ∧ Below w.heap.size w w' := by
  obtain ⟨W0, hW0⟩ : ∃ W0, W0 = w.alloc (.cells #[.int .u8 0, .bool false, .int .u64 0, .string ⟨#[]⟩, .slice none 0 0] 35) := ⟨_, rfl⟩
  have hB0 : Below w.heap.size w W0 := by rw [hW0]; exact (Below.refl _ w).alloc (Nat.le_refl _) _
  have hn : W0.heap[w.heap.size]? = some (.cells #[.int .u8 0, .bool false, .int .u64 0, .string ⟨#[]⟩, .slice none 0 0] 35 (0, 0)) := by rw [hW0]; exact heap_alloc_new w _
  have hc := PFnResultTold.spec_BerInt.calls 9 id (bs l) W0 h
  have HC := Lib.hid hc
  have HW0 := Lib.hid hW0
  have HB0 := Lib.hid hB0
  have HN := Lib.hid hn
  clear hB0 hn hW0 hc h
  go_enter Tryz.func29, Tryz.ntmps29
  go_wp2_with fail
  rw [← HW0.out]
  refine HC.out.mono ?_
  rintro e w2 ⟨rfl, hb⟩
  have hn2 := (hb.block _ (blockLt HN.out)).trans HN.out
  have HN2 := Lib.hid hn2
  have HB2 := Lib.hid (HB0.out.trans (hb.mono HB0.out.size))
  have f0 := blockFrozen hn2 0
  have f1 := blockFrozen hn2 1
  have f2 := blockFrozen hn2 2
  have f3 := blockFrozen hn2 3
  have f4 := blockFrozen hn2 4
  have k0 := blockCell hn2 0
  have k1 := blockCell hn2 1
  have k2 := blockCell hn2 2
  have k3 := blockCell hn2 3
  have k4 := blockCell hn2 4
  simp only [List.getElem?_toArray, List.getElem?_cons_zero, List.getElem?_cons_succ] at k0 k1 k2 k3 k4
  clear hn2 hb
  go_wp2
  refine bodyPost_ret (results_cell_row rfl _ _ w.heap.size 35 _ (0, 0) _ rfl (z5 HN2.out _ _ _ _ _) Tryz.underlying35 rfl (by kernel_rfl)) rfl ?_
  exact ⟨rfl, ((((HB2.out.setCell (Nat.le_refl _) _).setCell (Nat.le_refl _) _).setCell (Nat.le_refl _) _).setCell (Nat.le_refl _) _).setCell (Nat.le_refl _) _⟩

theorem spSs_snoc (l : List Ber.Pk) (x : Ber.Pk) : spSs (l ++ [x]) = spSs l ++ [spS x] := by
  induction l with
  | nil => simp [spSs]
  | cons y r ih => simp [spSs, ih]

set_option maxRecDepth 100000 in
set_option maxHeartbeats 8000000 in
theorem texts_call (w : World) (refs : List (List UInt8)) (A : Option Addr) (cp : Nat) (hC : Kd.C Kd.string w A refs.length (refs.map bs)) (hcp : refs.length ≤ cp) (hl : refs.length ≤ 1000000) :
    Calls Tryz.prog 31 #[.slice A refs.length cp] w fun e w' => ∃ v, e = .returned v ∧ Kd.R PFnResultTold.k35 35 w' w.heap.size (fun _ => True) v (spSs (Ber.refPks refs)) ∧ Below w.heap.size w w' := by
  have HC := Lib.hid hC
  have HL := Lib.hid hl
  clear hC hl
  go_enter Tryz.func31, Tryz.ntmps31
  go_wp2_with fail
  go_loopg [3, 8] refs.length (fun kq v3 v8 wr => ∃ (j : Nat), v8 = .int .i64 j ∧ Hid (j + kq = refs.length) ∧ Hid (Kd.R PFnResultTold.k35 35 wr w.heap.size (fun _ => True) v3 (spSs (Ber.refPks (refs.take j)))) ∧ Hid (Below w.heap.size w wr))
  case atStart => exact ⟨0, by go_num, Lib.hid (by simp), Lib.hid (by simp only [List.take_zero, Ber.refPks, List.map_nil, spSs]; exact Kd.R_nil _ _ _ _ _), Lib.hid (Below.refl _ _)⟩
  case round =>
  obtain ⟨j, rfl, HJ, HR, HB⟩ := hrel
  by_cases hj : j < refs.length
  · obtain ⟨ad, e4, hx⟩ := Kd.at_string HC.out (j : Int) (by omega) (by omega)
    subst e4
    have hrd : rdOf ByteArray.empty (refs.map bs) (j : Int) = bs refs[j] := by
      rw [rd_refs _ j (by simpa using hj)]; simp
    rw [hrd] at hx
    replace hx := (HB.out.cell (World.block_lt_of_cell? w _ hx)).trans hx
    simp only [Int.toNat_natCast] at hx
    have hp1 : ((j : Int) < (refs.length : Int)) = True := eq_true (by omega)
    have hp0 : (0 ≤ (j : Int)) = True := eq_true (by omega)
    have hjd : decide ((j : Int) < (refs.length : Int)) = true := by simp; omega
    go_wp2_with fail
    refine (octets_call wr _).mono ?_
    rintro e w2 ⟨rfl, hb2⟩
    have HR2 := Lib.hid (Kd.R_below HR.out hb2)
    have HB2 := Lib.hid (HB.out.trans (hb2.mono HB.out.size))
    clear hb2 hx
    have hpk : (PFnResultTold.k35).M w2 w.heap.size (fun _ => False) (spS (.mk 0 false 4 refs[j] [])) [.int .u8 0, .bool false, .int .u64 4, .string (bs refs[j]), .slice none 0 0] := by
      have := PFnResultTold.k35_mkM w2 w.heap.size (fun _ => False) (spS (.mk 0 false 4 refs[j] [])) (v4 := .slice none 0 0) (by simp only [spS, spSs]; exact Kd.R_nil _ _ _ _ _)
      exact this
    have HPK := Lib.hid hpk
    have hll : (spSs (Ber.refPks (refs.take j))).length = j := by rw [spSs_length]; simp [Ber.refPks]; omega
    have HLL := Lib.hid hll
    have hjs : j < 1000000 := by have := HL.out; omega
    clear hpk hll
    go_wp2_with ((with_reducible refine gate_builtin (b := .append) (xs := #[.tmp 12, .tmp 15]) rfl ?_); at_builtin; refine Kd.R_append PFnResultTold.k35 (w0 := w) w.heap.size rfl (.tmp 12) (.tmp 15) 33 35 (.agg #[(.int .u8 0), (.bool false), (.int .u64 0), (.string ⟨#[]⟩), (.slice none 0 0)]) 56 rfl Tryz.underlying33 PFnResultTold.info35 rfl (by decide) (by decide) u3 (spSs (Ber.refPks (refs.take j))) (spS (.mk 0 false 4 refs[j] [])) [.int .u8 0, .bool false, .int .u64 4, .string (bs refs[j]), .slice none 0 0] (fun _ => True) (fun _ => False) rfl rfl HPK.out (fun _ h => h.elim) (fun _ _ => trivial) HR2.out HB2.out HB2.out.size (by rw [HLL.out]; have := HL.out; omega) ?_; intro v271 w8 ho hb hg hat; have HO := Lib.hid ho; have HB8 := Lib.hid hb; clear ho hb hg hat)
    have hgk : ∃ q, gk = q + 1 := ⟨gk - 1, by have := HJ.out; omega⟩
    obtain ⟨q, rfl⟩ := hgk
    go_roundg q
    case measure => exact Nat.lt_succ_self _
    case rel => exact ⟨j + 1, by go_num, Lib.hid (by have := HJ.out; omega), Lib.hid (by
      have e : Ber.refPks (refs.take (j + 1)) = Ber.refPks (refs.take j) ++ [.mk 0 false 4 refs[j] []] := by
        unfold Ber.refPks
        rw [List.take_succ_eq_append_getElem hj, List.map_append]; rfl
      rw [e, spSs_snoc]; exact HO.out), HB8⟩
  · have hje : j = refs.length := by have := HJ.out; omega
    have hjd : decide ((j : Int) < (refs.length : Int)) = false := by simp; omega
    have hr := HR.out
    rw [hje, List.take_length] at hr
    have HR2 := Lib.hid hr
    clear hr
    go_wp2
    go_ret
    exact ⟨_, rfl, HR2.out, HB.out⟩
end Go.Proofs.YtdfehaonngccjaaGreatDoor

/- The reference's parts of a result, answers and messages. -/
namespace Go.Proofs.YtdfehaonngccjaaGreatDoor
open Go Go.RowKit Go.Proofs.YtdfehaonngccjaaGreatDoorW.PrintWords Go.Proofs.YtdfehaonngccjaaGreatDoorW.PrintLast Go.Proofs.YtdfehaonngccjaaGreatDoorW.PrintMore

theorem prim_M (w : World) (B : Nat) (t : Nat) (s : List UInt8) : (PFnResultTold.k35).M w B (fun _ => False) (spS (.mk 0 false t s [])) [.int .u8 0, .bool false, .int .u64 (t : Int), .string (bs s), .slice none 0 0] :=
  PFnResultTold.k35_mkM w B (fun _ => False) (spS (.mk 0 false t s [])) (v4 := .slice none 0 0) (by simp only [spS, spSs]; exact Kd.R_nil _ _ _ _ _)

def partsT : Bool × List (List Nat × List Nat) := (true,
  [([], []), ([0], [0]), ([1], [1]), ([], []), ([3], [3]), ([4, 2], [4]), ([], []), ([6], [6]), ([7, 5], [7]),
    ([2, 5, 8], [2, 5, 8]), ([9, 8, 0, 1, 2, 3, 4, 5, 6, 7, 8, 9], [9])])
def partsB : List Nat := [0, 1, 3, 0, 8, 31, 0, 64, 255, 511, 1023]
theorem parts_tab : rtab .any (opsOf Tryz.f18 1) = partsT := by kernel_rfl
theorem parts_bits : waitsOk partsT.2 partsB = true := by kernel_rfl

set_option maxRecDepth 100000 in
set_option maxHeartbeats 16000000 in
theorem parts_call (w : World) (code : Int) (cb matched text : List UInt8) (refs : List (List UInt8)) (A : Option Addr) (cp : Nat) (hcb : PFnResultTold.spec_BerInt.f 9 code = some (bs cb)) (hC : Kd.C Kd.string w A refs.length (refs.map bs)) (hcp : refs.length ≤ cp) (hl : refs.length ≤ 4) :
    Calls Tryz.prog 18 #[.agg #[.int .i64 code, .string (bs matched), .string (bs text), .slice A refs.length cp]] w fun e w' => ∃ v, e = .returned v ∧ Kd.R PFnResultTold.k35 35 w' w.heap.size (fun _ => True) v (spSs (Ber.partPks cb matched text refs)) ∧ Below w.heap.size w w' := by
  obtain ⟨w1, hw1⟩ : ∃ w1, w1 = w.alloc (.cells #[.int .i64 code, .string (bs matched), .string (bs text), .slice A refs.length cp] 24) := ⟨_, rfl⟩
  have hb1 : Below w.heap.size w w1 := by rw [hw1]; exact (Below.refl _ w).alloc (Nat.le_refl _) _
  have hblk : w1.heap[w.heap.size]? = some (.cells #[.int .i64 code, .string (bs matched), .string (bs text), .slice A refs.length cp] 24 (0, 0)) := by rw [hw1]; exact heap_alloc_new w _
  have HCB := Lib.hid hcb
  have HC := Lib.hid hC
  have HL := Lib.hid hl
  have HW1 := Lib.hid hw1
  have HBw1 := Lib.hid hb1
  have HBLK1 := Lib.hid hblk
  clear hcb hC hl hw1 hb1 hblk
  go_enter Tryz.func18, Tryz.ntmps18
  go_wp2_with fail
  rw [← HW1.out]
  have hlw1 : w.heap.size < w1.heap.size := blockLt HBLK1.out
  refine start_ (n := 11) (S := fun w' => w'.cell? ⟨w.heap.size, 0, none⟩ = some (.int .i64 code) ∧ w'.cell? ⟨w.heap.size, 1, none⟩ = some (.string (bs matched)) ∧ w'.cell? ⟨w.heap.size, 2, none⟩ = some (.string (bs text))) (ds := []) #[false, false, false, false, false, false, false, false, false, false, false] (by kernel_rfl) rfl rfl ⟨blockCell (w := w1.drew) HBLK1.out 0, blockCell (w := w1.drew) HBLK1.out 1, blockCell (w := w1.drew) HBLK1.out 2⟩ (fun hHeld => ?_)
  refine with_tabW parts_tab parts_bits (fun HT_ HW_ => ?_)
  refine pure_ (i := 0) (N := some 4) (v := ?_) (a' := ?_) #[true, false, false, false, false, false, false, false, false, false, false] rfl rfl (any_of HT_.out (by kernel_rfl)) (fun _ _ _ h => h) (Or.inl ⟨by rfl, ?_⟩) ?_ ?_
  rotate_left
  · intro w'
    go_simp
    with_reducible rfl
  rotate_left
  · simp only [Act.put, List.setIfInBounds_toArray, List.set_cons_zero, List.set_cons_succ]
    rfl
  refine take_ (i := 1) (N := some 5) (v := ?_) (a' := ?_) #[true, true, false, false, false, false, false, false, false, false, false] rfl rfl (take_ofW HT_.out HW_.out (by kernel_rfl)) (fun _ _ _ h => h) (Or.inl ⟨by rfl, ?_⟩) hHeld ?_ ?_
  rotate_left
  · rintro w' ⟨s0, -, -⟩
    go_simp
    with_reducible rfl
  rotate_left
  · simp only [Act.put, List.setIfInBounds_toArray, List.set_cons_zero, List.set_cons_succ]
    rfl
  refine pure_ (i := 3) (N := some 7) (v := ?_) (a' := ?_) #[true, true, false, true, false, false, false, false, false, false, false] rfl rfl (any_of HT_.out (by kernel_rfl)) (fun _ _ _ h => h) (Or.inl ⟨by rfl, ?_⟩) ?_ ?_
  rotate_left
  · intro w'
    go_simp
    with_reducible rfl
  rotate_left
  · simp only [Act.put, List.setIfInBounds_toArray, List.set_cons_zero, List.set_cons_succ]
    rfl
  refine take_ (i := 4) (N := some 8) (v := ?_) (a' := ?_) #[true, true, false, true, true, false, false, false, false, false, false] rfl rfl (take_ofW HT_.out HW_.out (by kernel_rfl)) (fun _ _ _ h => h) (Or.inl ⟨by rfl, ?_⟩) hHeld ?_ ?_
  rotate_left
  · rintro w' ⟨-, s0, -⟩
    go_simp
    with_reducible rfl
  rotate_left
  · simp only [Act.put, List.setIfInBounds_toArray, List.set_cons_zero, List.set_cons_succ]
    rfl
  refine pure_ (i := 6) (N := some 10) (v := ?_) (a' := ?_) #[true, true, false, true, true, false, true, false, false, false, false] rfl rfl (any_of HT_.out (by kernel_rfl)) (fun _ _ _ h => h) (Or.inl ⟨by rfl, ?_⟩) ?_ ?_
  rotate_left
  · intro w'
    go_simp
    with_reducible rfl
  rotate_left
  · simp only [Act.put, List.setIfInBounds_toArray, List.set_cons_zero, List.set_cons_succ]
    rfl
  refine take_ (i := 7) (N := some 11) (v := ?_) (a' := ?_) #[true, true, false, true, true, false, true, true, false, false, false] rfl rfl (take_ofW HT_.out HW_.out (by kernel_rfl)) (fun _ _ _ h => h) (Or.inl ⟨by rfl, ?_⟩) hHeld ?_ ?_
  rotate_left
  · rintro w' ⟨-, -, s0⟩
    go_simp
    with_reducible rfl
  rotate_left
  · simp only [Act.put, List.setIfInBounds_toArray, List.set_cons_zero, List.set_cons_succ]
    rfl
  refine one_ (i := 2) (N := some 6) #[true, true, true, true, true, false, true, true, false, false, false] rfl rfl (one_of HT_.out (by kernel_rfl)) (by decide) (fun K hK => ?_)
  refine goes_ Tryz.func29 (by kernel_rfl) rfl #[.int .i64 code] (by rfl) rfl rfl (by (try simp only [List.map_toArray, List.map_cons, List.map_nil]); first | done | rfl) ?_
  refine (enum_call w1.drew code cb HCB.out).mono ?_
  rintro e w2 ⟨rfl, hb⟩
  have hlw2 : w.heap.size < w2.heap.size := Nat.lt_of_lt_of_le hlw1 hb.size
  have HBLK2 := Lib.hid ((hb.block _ hlw1).trans HBLK1.out)
  have HBw2 := Lib.hid (HBw1.out.drew.trans (hb.mono HBw1.out.size))
  refine ⟨_, rfl, ?_⟩
  refine hK.out _ _ ⟨(hb.cell hlw1).trans hHeld.1, (hb.cell hlw1).trans hHeld.2.1, (hb.cell hlw1).trans hHeld.2.2⟩ (fun hHeld => ?_)
  clear hb
  clear hK K
  refine norm_ (a' := ?_) ?_ ?_
  rotate_left
  · show Act.put _ (some 6) _ = _
    simp only [Act.put, List.setIfInBounds_toArray, List.set_cons_zero, List.set_cons_succ]
    rfl
  refine one_ (i := 5) (N := some 9) #[true, true, true, true, true, true, true, true, false, false, false] rfl rfl (one_of HT_.out (by kernel_rfl)) (by decide) (fun K hK => ?_)
  refine goes_ Tryz.func30 (by kernel_rfl) rfl #[.string (bs matched)] (by rfl) rfl rfl (by (try simp only [List.map_toArray, List.map_cons, List.map_nil]); first | done | rfl) ?_
  refine (octets_call w2 (bs matched)).mono ?_
  rintro e w3 ⟨rfl, hb⟩
  have hlw3 : w.heap.size < w3.heap.size := Nat.lt_of_lt_of_le hlw2 hb.size
  have HBLK3 := Lib.hid ((hb.block _ hlw2).trans HBLK2.out)
  have HBw3 := Lib.hid (HBw2.out.trans (hb.mono HBw2.out.size))
  refine ⟨_, rfl, ?_⟩
  refine hK.out _ _ ⟨(hb.cell hlw2).trans hHeld.1, (hb.cell hlw2).trans hHeld.2.1, (hb.cell hlw2).trans hHeld.2.2⟩ (fun hHeld => ?_)
  clear hb
  clear hK K
  refine norm_ (a' := ?_) ?_ ?_
  rotate_left
  · show Act.put _ (some 9) _ = _
    simp only [Act.put, List.setIfInBounds_toArray, List.set_cons_zero, List.set_cons_succ]
    rfl
  refine one_ (i := 8) (N := some 12) #[true, true, true, true, true, true, true, true, true, false, false] rfl rfl (one_of HT_.out (by kernel_rfl)) (by decide) (fun K hK => ?_)
  refine goes_ Tryz.func30 (by kernel_rfl) rfl #[.string (bs text)] (by rfl) rfl rfl (by (try simp only [List.map_toArray, List.map_cons, List.map_nil]); first | done | rfl) ?_
  refine (octets_call w3 (bs text)).mono ?_
  rintro e w4 ⟨rfl, hb⟩
  have hlw4 : w.heap.size < w4.heap.size := Nat.lt_of_lt_of_le hlw3 hb.size
  have HBLK4 := Lib.hid ((hb.block _ hlw3).trans HBLK3.out)
  have HBw4 := Lib.hid (HBw3.out.trans (hb.mono HBw3.out.size))
  refine ⟨_, rfl, ?_⟩
  refine hK.out _ _ ⟨(hb.cell hlw3).trans hHeld.1, (hb.cell hlw3).trans hHeld.2.1, (hb.cell hlw3).trans hHeld.2.2⟩ (fun hHeld => ?_)
  clear hb
  clear hK K
  refine norm_ (a' := ?_) ?_ ?_
  rotate_left
  · show Act.put _ (some 12) _ = _
    simp only [Act.put, List.setIfInBounds_toArray, List.set_cons_zero, List.set_cons_succ]
    rfl
  refine one_ (i := 9) (N := some 13) #[true, true, true, true, true, true, true, true, true, true, false] rfl rfl (one_of HT_.out (by kernel_rfl)) (by decide) (fun K hK => ?_)
  refine Kd.R_lit_step PFnResultTold.k35 (w0 := w) w.heap.size 35 ?hg (N := 13) ?hd (xs := spSs [.mk 0 false 10 cb [], .mk 0 false 4 matched [], .mk 0 false 4 text []]) (inner := [.int .u8 0, .bool false, .int .u64 10, .string (bs cb), .slice none 0 0, .int .u8 0, .bool false, .int .u64 4, .string (bs matched), .slice none 0 0, .int .u8 0, .bool false, .int .u64 4, .string (bs text), .slice none 0 0]) (ok := fun _ => True) (okp := fun _ => False) ?hr ?hp (fun _ h => h.elim) trivial HBw4.out HBw4.out.size (by simp [spSs]) ?_
  (case hg => rfl)
  (case hd => rfl)
  (case hr => first | (go_simp; done) | (go_simp; rfl))
  (case hp =>
    simp only [spSs]
    exact Reps.c5 (prim_M w4 w.heap.size 10 cb) (Reps.c5 (prim_M w4 w.heap.size 4 matched) (Reps.c5 (prim_M w4 w.heap.size 4 text) (Reps.none _ _))))
  intro v13 w5 ho hb hg _
  have HO5 := Lib.hid ho
  have HBw5 := Lib.hid hb
  have hblk5 : w5.heap[w.heap.size]? = some (.cells #[.int .i64 code, .string (bs matched), .string (bs text), .slice A refs.length cp] 24 (0, 0)) := (hg.block _ hlw4 (by simp)).trans HBLK4.out
  have HBLK5 := Lib.hid hblk5
  clear ho hb hg hblk5
  refine hK.out _ _ ⟨blockCell HBLK5.out 0, blockCell HBLK5.out 1, blockCell HBLK5.out 2⟩ (fun hHeld => ?_)
  clear hK K
  refine norm_ (a' := ?_) ?_ ?_
  rotate_left
  · show Act.put _ (some 13) _ = _
    simp only [Act.put, List.setIfInBounds_toArray, List.set_cons_zero, List.set_cons_succ]
    rfl
  refine pure_ (i := 10) (N := some 3) (v := ?_) (a' := ?_) #[true, true, true, true, true, true, true, true, true, true, true] rfl rfl (any_of HT_.out (by kernel_rfl)) (fun _ _ _ h => h) (Or.inl ⟨by rfl, ?_⟩) ?_ ?_
  rotate_left
  · intro w'
    go_simp
    with_reducible rfl
  rotate_left
  · simp only [Act.put, List.setIfInBounds_toArray, List.set_cons_zero, List.set_cons_succ]
    rfl
  refine done_ (done_of HT_.out (by kernel_rfl)) ?_
  clear HT_ HW_ hHeld
  have c3 := blockCell HBLK5.out 3
  simp only [List.getElem?_toArray, List.getElem?_cons_zero, List.getElem?_cons_succ] at c3
  by_cases h0 : refs = []
  · have hn0 : refs.length = 0 := by rw [h0]; rfl
    have HR5 : Hid (Kd.R PFnResultTold.k35 35 w5 w.heap.size (fun _ => True) v13 (spSs (Ber.partPks cb matched text refs))) := Lib.hid (by unfold Ber.partPks; rw [if_pos h0]; exact HO5.out)
    have hd : decide (0 < (refs.length : Int)) = false := by simp [hn0]
    have hd2 : decide (0 < refs.length) = false := by simp [hn0]
    have hd3 : (0 < refs.length) = False := eq_false (by omega)
    clear h0
    go_wp2
    go_ret
    exact ⟨_, rfl, HR5.out, HBw5.out⟩
  · have hnp : 0 < refs.length := List.length_pos_iff.2 h0
    have hd : decide (0 < (refs.length : Int)) = true := by simp; omega
    have hd2 : decide (0 < refs.length) = true := decide_eq_true hnp
    have hd3 : (0 < refs.length) = True := eq_true hnp
    have HPP : Hid (spSs (Ber.partPks cb matched text refs) = spSs [.mk 0 false 10 cb [], .mk 0 false 4 matched [], .mk 0 false 4 text []] ++ [spS (.mk 2 true 3 [] (Ber.refPks refs))]) := Lib.hid (by unfold Ber.partPks; rw [if_neg h0]; simp [spSs])
    have htx := texts_call w5 refs A cp (Kd.C_below HC.out HBw5.out) hcp (by have := HL.out; omega)
    have HTX := Lib.hid htx
    clear htx h0 hnp
    go_wp2_with fail
    refine HTX.out.mono ?_
    rintro e w6 ⟨v21, rfl, hR, hb⟩
    have hR21 := Kd.R_lower (Kd.R_new' hR (Kd.R_lt HO5.out)) HBw5.out.size
    have hR13 := Kd.R_elder' HO5.out (Kd.R_base hR) hb
    obtain ⟨A7, c7, rfl⟩ := Kd.R_slice hR
    have HR21 := Lib.hid hR21
    have HR13 := Lib.hid hR13
    have HBw6 := Lib.hid (HBw5.out.trans (hb.mono HBw5.out.size))
    have hpm := PFnResultTold.k35_mkM w6 w.heap.size (fun k => True ∧ some k ≠ v13.ownBlock) (spS (.mk 2 true 3 [] (Ber.refPks refs))) (v4 := .slice A7 (spSs (Ber.refPks refs)).length c7) (by simp only [spS]; exact HR21.out)
    have HPM : Hid ((PFnResultTold.k35).M w6 w.heap.size (fun k => True ∧ some k ≠ v13.ownBlock) (spS (.mk 2 true 3 [] (Ber.refPks refs))) [.int .u8 2, .bool true, .int .u64 3, .string ⟨#[]⟩, .slice A7 (spSs (Ber.refPks refs)).length c7]) := Lib.hid hpm
    clear hR hb hR21 hR13 hpm
    go_wp2_with ((with_reducible refine gate_builtin (b := .append) (xs := #[.tmp 18, .tmp 23]) rfl ?_); at_builtin; refine Kd.R_append PFnResultTold.k35 (w0 := w) w.heap.size rfl (.tmp 18) (.tmp 23) 33 35 (.agg #[(.int .u8 0), (.bool false), (.int .u64 0), (.string ⟨#[]⟩), (.slice none 0 0)]) 56 rfl Tryz.underlying33 PFnResultTold.info35 rfl (by decide) (by decide) v13 (spSs [.mk 0 false 10 cb [], .mk 0 false 4 matched [], .mk 0 false 4 text []]) (spS (.mk 2 true 3 [] (Ber.refPks refs))) [.int .u8 2, .bool true, .int .u64 3, .string ⟨#[]⟩, .slice A7 (spSs (Ber.refPks refs)).length c7] (fun _ => True) (fun k => True ∧ some k ≠ v13.ownBlock) rfl rfl HPM.out (fun _ hk => hk) (fun _ _ => trivial) (Kd.R_mono HR13.out (fun _ _ => trivial)) HBw6.out HBw6.out.size (by simp [spSs]) ?_; intro v271 w8 ho hb hg hat; have HO := Lib.hid ho; have HB8 := Lib.hid hb; clear ho hb hg hat)
    go_ret
    exact ⟨_, rfl, by rw [HPP.out]; exact HO.out, HB8.out⟩
end Go.Proofs.YtdfehaonngccjaaGreatDoor

/- The reference's berForms: the walk. -/
namespace Go.Proofs.YtdfehaonngccjaaGreatDoor
open Go Go.RowKit Go.Proofs.YtdfehaonngccjaaGreatDoorW.PrintWords Go.Proofs.YtdfehaonngccjaaGreatDoorW.PrintLast Go.Proofs.YtdfehaonngccjaaGreatDoorW.PrintMore

namespace Ber
mutual
/-- Its classes and tags are right. -/
def OK : Pk → Prop
  | .mk c _ t _ items => c < 4 ∧ t < 2 ^ 63 ∧ OKs items
def OKs : List Pk → Prop
  | [] => True
  | x :: r => OK x ∧ OKs r
end
theorem OKs.get : ∀ {l : List Pk}, OKs l → ∀ j (hj : j < l.length), OK l[j]
  | [], _, j, hj => absurd hj (Nat.not_lt_zero _)
  | x :: r, h, 0, hj => h.1
  | x :: r, h, j + 1, hj => by simpa using OKs.get h.2 j (by simpa using hj)

mutual
theorem forms_at (ch : List UInt8) : ∀ (p : Pk) (a : Nat), a ≤ (forms ch p a).2
  | .mk c b t data items, a => by
    simp only [forms]
    have h1 := formsL_at ch items data (next ch a)
    have h2 : a ≤ next ch a := by unfold next; split <;> omega
    omega
theorem formsL_at (ch : List UInt8) : ∀ (l : List Pk) (acc : List UInt8) (a : Nat), a ≤ (formsL ch l acc a).2
  | [], acc, a => by simp [formsL]
  | x :: r, acc, a => by
    simp only [formsL]
    have h1 := forms_at ch x a
    have h2 := formsL_at ch r (acc ++ (forms ch x a).1) (forms ch x a).2
    omega
end
theorem formsL_len (ch : List UInt8) : ∀ (l : List Pk) (acc : List UInt8) (a : Nat), acc.length ≤ (formsL ch l acc a).1.length
  | [], acc, a => by simp [formsL]
  | x :: r, acc, a => by
    simp only [formsL]
    have h2 := formsL_len ch r (acc ++ (forms ch x a).1) (forms ch x a).2
    simp at h2
    omega
theorem formText_len (c : Nat) (b : Bool) (t w : Nat) (body : List UInt8) : body.length ≤ (formText c b t w body).length := by
  unfold formText
  split <;> simp <;> omega
theorem forms_drop (ch : List UInt8) (items : List Pk) (j : Nat) (hj : j < items.length) (acc : List UInt8) (a : Nat) :
    formsL ch (items.drop j) acc a = formsL ch (items.drop (j + 1)) (acc ++ (forms ch items[j] a).1) (forms ch items[j] a).2 := by
  rw [List.drop_eq_getElem_cons hj]
  simp only [formsL]
end Ber

/-- berForms of packets of less than a size. -/
def FormsHolds (w0 : World) (ch : List UInt8) (Ac : Option Addr) (cc : Nat) (n : Nat) : Prop :=
    ∀ (c : Nat) (b : Bool) (t : Nat) (data : List UInt8) (items : List Ber.Pk), SizeOf.sizeOf (Ber.Pk.mk c b t data items) < n → Ber.OK (.mk c b t data items) → ∀ (w : World) (g a : Nat) (A : Option Addr) (cp : Nat) (T : List UInt8) (a2 : Nat),
      Ber.forms ch (.mk c b t data items) a = (T, a2) → Below w0.heap.size w0 w → w0.heap.size ≤ g → w.heap[g]? = some (.cells #[.int .i64 a] 3 (0, 0)) → a2 ≤ 1000000000 → T.length ≤ 1000000000 →
      Kd.C PFnResultTold.k35 w0 A items.length (spSs items) → items.length ≤ cp →
      Calls Tryz.prog 26 #[.agg #[.int .u8 (c : Int), .bool b, .int .u64 (t : Int), .string (bs data), .slice A items.length cp], .slice Ac ch.length cc, .pointer (some ⟨g, 0, none⟩)] w fun e w' =>
        e = .returned (.string (bs T)) ∧ w'.heap[g]? = some (.cells #[.int .i64 a2] 3 (0, 0)) ∧ Keep w.heap.size g w w'

set_option maxRecDepth 100000 in
set_option maxHeartbeats 8000000 in
theorem forms_none (w0 : World) (ch : List UInt8) (hce : ch = []) (Ac : Option Addr) (cc : Nat) (hch : Kd.C (Kd.int .u8) w0 Ac ch.length (ch.map fun x => (x.toNat : Int))) (hcl : ch.length ≤ 1000000) (n : Nat) (ih : FormsHolds w0 ch Ac cc n) : FormsHolds w0 ch Ac cc (n + 1) := by
  intro c b t data items hsz hok w g a A cp T a2 hT hB hg hcell ha2 hTl hC hcp
  have hglt := blockLt hcell
  have hgne : g ≠ w.heap.size := by omega
  simp only [Ber.forms, Prod.mk.injEq] at hT
  obtain ⟨body, hbody⟩ : ∃ body, body = (Ber.formsL ch items data (Ber.next ch a)).1 := ⟨_, rfl⟩
  obtain ⟨hT1, hT2⟩ := hT
  have hL : Ber.formsL ch items data (Ber.next ch a) = (body, a2) := by rw [hbody, ← hT2]
  rw [← hbody] at hT1
  have hnx : Ber.next ch a ≤ 1000000000 := by have := Ber.formsL_at ch items data (Ber.next ch a); omega
  have hcls := hok.1
  have htag := hok.2.1
  have htag2 : t < 2 ^ 64 := by omega
  have hbl : body.length ≤ 1000000000 := by have := Ber.formText_len c b t (Ber.way ch a) body; rw [hT1] at this; omega
  obtain ⟨cA, hcA, hAlen⟩ : ∃ W1, W1 = w.alloc (.cells #[.int .u8 (c : Int), .bool b, .int .u64 (t : Int), .string (bs data), .slice A items.length cp] 35) ∧ W1.heap.size = w.heap.size + 1 := ⟨_, rfl, by simp⟩
  have hst : cA.heap[w.heap.size]? = some (.cells #[.int .u8 (c : Int), .bool b, .int .u64 (t : Int), .string (bs data), .slice A items.length cp] 35 (0, 0)) := by rw [hcA]; exact heap_alloc_new w _
  have hg1 : cA.heap[g]? = some (.cells #[.int .i64 a] 3 (0, 0)) := by rw [hcA]; exact (Below.heap_alloc w _ g hglt).trans hcell
  have hK1 : Keep w.heap.size g w cA := by rw [hcA]; exact (Keep.refl _ _ _).alloc (Nat.le_refl _) _
  have HT := Lib.hid hT1
  have HL := Lib.hid hL
  have HB := Lib.hid hB
  have HC := Lib.hid hC
  have HOK := Lib.hid hok.2.2
  have HCH := Lib.hid hch
  have HIH := Lib.hid ih
  have HNX := Lib.hid hnx
  have HBL := Lib.hid hbl
  have HTL := Lib.hid hTl
  have HTAG := Lib.hid htag2
  clear hT1 hT2 hL hB hC hch ih hok hbody hnx hcell hbl hTl htag htag2
  go_enter Tryz.func26, Tryz.ntmps26
  have hcd : ch.length < 1 := by rw [hce]; simp
  have hnx0 : Ber.next ch a = a := by unfold Ber.next; rw [if_pos hce]
  have hway : Ber.way ch a = 0 := by unfold Ber.way; rw [if_pos hce]
  have HCE := Lib.hid hce
  have HWAY := Lib.hid hway
  clear hce hway
  go_wp2_with fail
  have HST : Hid (_ = _) := Lib.hid hst
  have HG : Hid (cA.heap[g]? = some (.cells #[.int .i64 (Ber.next ch a : Nat)] 3 (0, 0))) := Lib.hid (by rw [hnx0]; exact hg1)
  have HK := Lib.hid hK1
  rw [← hcA]
  clear hst hg1 hK1 hcA
  generalize decide (0 < ch.length) = bv9
  go_loopg [8, 35] items.length (fun kq v8 v35 wr => ∃ (j a' : Nat) (acc : List UInt8), v8 = .string (bs acc) ∧ v35 = .int .i64 j ∧ Hid (j + kq = items.length) ∧ Hid (Ber.formsL ch (items.drop j) acc a' = (body, a2)) ∧
      Hid (wr.heap[w.heap.size]? = some (.cells #[.int .u8 (c : Int), .bool b, .int .u64 (t : Int), .string (bs data), .slice A items.length cp] 35 (0, 0))) ∧ Hid (wr.heap[g]? = some (.cells #[.int .i64 a'] 3 (0, 0))) ∧ Hid (Keep w.heap.size g w wr))
  case atStart => exact ⟨0, Ber.next ch a, data, rfl, by go_num, Lib.hid (by simp), Lib.hid (by rw [List.drop_zero]; exact HL.out), HST, HG, HK⟩
  case round =>
  obtain ⟨j, a', acc, rfl, rfl, HJ, HF, HST1, HG1, HK1⟩ := hrel
  have hslt : w.heap.size < wr.heap.size := blockLt HST1.out
  by_cases hj : j < items.length
  · have hacc : acc.length ≤ 1000000000 := by have := Ber.formsL_len ch (items.drop j) acc a'; rw [HF.out] at this; have := HBL.out; simp at *; omega
    have hF := HF.out
    rw [Ber.forms_drop ch items j hj] at hF
    obtain ⟨T1, a3, hf1⟩ : ∃ T1 a3, Ber.forms ch items[j] a' = (T1, a3) := ⟨_, _, rfl⟩
    rw [hf1] at hF
    simp only [] at hF
    have ha3 : a3 ≤ 1000000000 := by have := Ber.formsL_at ch (items.drop (j + 1)) (acc ++ T1) a3; rw [hF] at this; simp at this; omega
    have hT1 : acc.length + T1.length ≤ 1000000000 := by have := Ber.formsL_len ch (items.drop (j + 1)) (acc ++ T1) a3; rw [hF] at this; have := HBL.out; simp at *; omega
    have hokj := Ber.OKs.get HOK.out j hj
    have hszj : SizeOf.sizeOf items[j] < n := by
      have h1 := List.sizeOf_lt_of_mem (List.getElem_mem hj)
      have h2 : SizeOf.sizeOf (Ber.Pk.mk c b t data items) = _ := Ber.Pk.mk.sizeOf_spec c b t data items
      omega
    obtain ⟨ad, A4, c4, e4, hx0, hx1, hx2, hx3, hx4, hl4, hi4⟩ := PFnResultTold.at_T35 HC.out (j : Int) (by omega) (by omega)
    have hrd : PFnResultTold.rd_T35 (spSs items) (j : Int) = spS items[j] := by
      unfold PFnResultTold.rd_T35
      rw [List.getD_eq_getElem?_getD, Int.toNat_natCast, spSs_get items j hj]; rfl
    rw [hrd] at hx0 hx1 hx2 hx3 hx4 hl4 hi4
    obtain ⟨x, hx⟩ : ∃ x, x = items[j] := ⟨_, rfl⟩
    rw [← hx] at hx0 hx1 hx2 hx3 hx4 hl4 hi4 hszj hokj hf1
    cases x with
    | mk c1 b1 t1 d1 i1 =>
    simp only [spS, spSs_length, Int.toNat_natCast] at hx0 hx1 hx2 hx3 hx4 hl4 hi4
    subst e4
    have hBw : Below w0.heap.size w0 wr := HB.out.trans ((HK1.out.mono (by have := HB.out.size; omega)).toBelow hg)
    replace hx0 := (hBw.cell (World.block_lt_of_cell? w0 _ hx0)).trans hx0
    replace hx1 := (hBw.cell (World.block_lt_of_cell? w0 _ hx1)).trans hx1
    replace hx2 := (hBw.cell (World.block_lt_of_cell? w0 _ hx2)).trans hx2
    replace hx3 := (hBw.cell (World.block_lt_of_cell? w0 _ hx3)).trans hx3
    replace hx4 := (hBw.cell (World.block_lt_of_cell? w0 _ hx4)).trans hx4
    obtain ⟨W1, hW1⟩ : ∃ W1, W1 = wr.alloc (.cells #[.int .u8 (c1 : Int), .bool b1, .int .u64 (t1 : Int), .string (bs d1), .slice A4 i1.length c4] 35) := ⟨_, rfl⟩
    have hW1s : wr.heap.size ≤ W1.heap.size := by rw [hW1]; simp
    have hW1b : ∀ k, k < wr.heap.size → W1.heap[k]? = wr.heap[k]? := fun k hk => by rw [hW1]; exact Below.heap_alloc wr _ k hk
    have hgw : g < wr.heap.size := blockLt HG1.out
    have hcall := HIH.out c1 b1 t1 d1 i1 hszj hokj W1 g a' A4 c4 T1 a3 hf1 (by rw [hW1]; exact hBw.alloc hBw.size _) hg ((hW1b g hgw).trans HG1.out) ha3 (by omega) hi4 hl4
    have HCALL := Lib.hid hcall
    have HW1 := Lib.hid hW1
    have HW1B := Lib.hid hW1b
    have HF2 := Lib.hid hF
    have hp1 : ((j : Int) < (items.length : Int)) = True := eq_true (by omega)
    have hp0 : (0 ≤ (j : Int)) = True := eq_true (by omega)
    have hjd : decide ((j : Int) < (items.length : Int)) = true := by simp; omega
    have hadd : (bs acc).size + (bs T1).size ≤ 9223372036854775807 := by rw [bs_size, bs_size]; omega
    have HW1S := Lib.hid hW1s
    clear hcall hW1b hF hBw hf1 hi4 hrd hx hokj hszj hcls hW1s
    clear hW1
    go_wp2_with fail
    rw [← HW1.out]
    refine HCALL.out.mono ?_
    rintro e w2 ⟨rfl, hg2, hk2⟩
    have HG2 := Lib.hid hg2
    have HK2 := Lib.hid hk2
    have HJJ := Lib.hid hj
    have hjs : j < 9223372036854775807 := by have := Kd.C_max HC.out; omega
    clear hg2 hk2
    go_wp2
    have hgk : ∃ q, gk = q + 1 := ⟨gk - 1, by have := HJ.out; have := HJJ.out; omega⟩
    obtain ⟨q, rfl⟩ := hgk
    go_roundg q
    case measure => exact Nat.lt_succ_self _
    case rel => exact ⟨j + 1, a3, acc ++ T1, by rw [← bs_append], by go_num, Lib.hid (by have := HJ.out; omega), HF2, Lib.hid ((HK2.out.block w.heap.size (by have := HW1S.out; omega) (by omega)).trans ((HW1B.out _ hslt).trans HST1.out)), HG2,
      Lib.hid (HK1.out.trans ((show Keep w.heap.size g wr W1 by rw [HW1.out]; exact (Keep.refl _ _ _).alloc (by omega) _).trans (HK2.out.mono (by have := HW1S.out; omega))))⟩
  · have hje : j = items.length := by have := HJ.out; omega
    have hjd : decide ((j : Int) < (items.length : Int)) = false := by simp; omega
    have hF := HF.out
    rw [hje, List.drop_length] at hF
    simp only [Ber.formsL, Prod.mk.injEq] at hF
    obtain ⟨rfl, rfl⟩ := hF
    have e0 := blockCell HST1.out 0
    have e1 := blockCell HST1.out 1
    have e2 := blockCell HST1.out 2
    have e3 := blockCell HST1.out 3
    have e4 := blockCell HST1.out 4
    simp only [List.getElem?_toArray, List.getElem?_cons_zero, List.getElem?_cons_succ] at e0 e1 e2 e3 e4
    have hBw : Below w0.heap.size w0 wr := HB.out.trans ((HK1.out.mono (by have := HB.out.size; omega)).toBelow hg)
    have htagc := PFnResultTold.spec_BerTag.calls 20 (c : Int) b (t : Int) (bs data) A cp (spSs items) _ wr (by rw [spSs_length]; exact Kd.C_below HC.out hBw) (by rw [spSs_length]; exact hcp) (berTag_f c hcls b t HTAG.out (bs data) (spSs items))
    rw [spSs_length] at htagc
    have HTC := Lib.hid htagc
    have HBW := Lib.hid hBw
    clear htagc hBw
    have hTT := HT.out
    unfold Ber.formText at hTT
    rw [HWAY.out, if_neg (by omega)] at hTT
    have hlenc := fun W => PFnResultTold.spec_BerLength.calls 40 (acc.length : Int) 0 _ W (berLength_f acc.length 0 (by have := HBL.out; omega) (by omega))
    have hbsz := bs_size acc
    have had1 : (bs (Ber.identBytes c b t)).size + (bs (Ber.lenForm acc.length 0)).size ≤ 9223372036854775807 := by
      have := HTL.out; rw [← hTT] at this; simp only [List.length_append] at this; rw [bs_size, bs_size]; simp at this; omega
    have had2 : (bs (Ber.identBytes c b t) ++ bs (Ber.lenForm acc.length 0)).size + (bs acc).size ≤ 9223372036854775807 := by
      have := HTL.out; rw [← hTT] at this; simp only [List.length_append] at this; rw [bs_append, bs_size, bs_size]; simp at this ⊢; omega
    have HTT := Lib.hid hTT
    have HLC := Lib.hid hlenc
    clear hTT hlenc hnx0
    go_wp2_with fail
    refine HTC.out.mono ?_
    rintro e w2 ⟨rfl, hb2⟩
    have HB2 := Lib.hid hb2
    clear hb2 e0 e1 e2 e3 e4
    go_wp2_with fail
    refine (HLC.out _).mono ?_
    rintro e w3 ⟨rfl, hb3⟩
    have HB3 := Lib.hid hb3
    clear hb3
    go_wp2
    go_ret
    have hg2lt : g < wr.heap.size := blockLt HG1.out
    refine ⟨?_, (HB3.out.block g (by have := HB2.out.size; omega)).trans ((HB2.out.block g hg2lt).trans HG1.out), HK1.out.trans (Keep.ofBelow ((HB2.out.mono (by omega)).trans (HB3.out.mono (by have := HB2.out.size; omega))))⟩
    rw [← HTT.out, ← bs_append, ← bs_append]
    rfl
set_option maxRecDepth 100000 in
set_option maxHeartbeats 8000000 in
theorem forms_some (w0 : World) (ch : List UInt8) (hce : ch ≠ []) (Ac : Option Addr) (cc : Nat) (hch : Kd.C (Kd.int .u8) w0 Ac ch.length (ch.map fun x => (x.toNat : Int))) (hcl : ch.length ≤ 1000000) (n : Nat) (ih : FormsHolds w0 ch Ac cc n) : FormsHolds w0 ch Ac cc (n + 1) := by
  intro c b t data items hsz hok w g a A cp T a2 hT hB hg hcell ha2 hTl hC hcp
  have hglt := blockLt hcell
  have hgne : g ≠ w.heap.size := by omega
  simp only [Ber.forms, Prod.mk.injEq] at hT
  obtain ⟨body, hbody⟩ : ∃ body, body = (Ber.formsL ch items data (Ber.next ch a)).1 := ⟨_, rfl⟩
  obtain ⟨hT1, hT2⟩ := hT
  have hL : Ber.formsL ch items data (Ber.next ch a) = (body, a2) := by rw [hbody, ← hT2]
  rw [← hbody] at hT1
  have hnx : Ber.next ch a ≤ 1000000000 := by have := Ber.formsL_at ch items data (Ber.next ch a); omega
  have hcls := hok.1
  have htag := hok.2.1
  have htag2 : t < 2 ^ 64 := by omega
  have hbl : body.length ≤ 1000000000 := by have := Ber.formText_len c b t (Ber.way ch a) body; rw [hT1] at this; omega
  obtain ⟨cA, hcA, hAlen⟩ : ∃ W1, W1 = w.alloc (.cells #[.int .u8 (c : Int), .bool b, .int .u64 (t : Int), .string (bs data), .slice A items.length cp] 35) ∧ W1.heap.size = w.heap.size + 1 := ⟨_, rfl, by simp⟩
  have hst : cA.heap[w.heap.size]? = some (.cells #[.int .u8 (c : Int), .bool b, .int .u64 (t : Int), .string (bs data), .slice A items.length cp] 35 (0, 0)) := by rw [hcA]; exact heap_alloc_new w _
  have hg1 : cA.heap[g]? = some (.cells #[.int .i64 a] 3 (0, 0)) := by rw [hcA]; exact (Below.heap_alloc w _ g hglt).trans hcell
  have hK1 : Keep w.heap.size g w cA := by rw [hcA]; exact (Keep.refl _ _ _).alloc (Nat.le_refl _) _
  have HT := Lib.hid hT1
  have HL := Lib.hid hL
  have HB := Lib.hid hB
  have HC := Lib.hid hC
  have HOK := Lib.hid hok.2.2
  have HCH := Lib.hid hch
  have HIH := Lib.hid ih
  have HNX := Lib.hid hnx
  have HBL := Lib.hid hbl
  have HTL := Lib.hid hTl
  have HTAG := Lib.hid htag2
  clear hT1 hT2 hL hB hC hch ih hok hbody hnx hcell hbl hTl htag htag2
  go_enter Tryz.func26, Tryz.ntmps26
  have hlp : 0 < ch.length := List.length_pos_iff.2 hce
  obtain ⟨ix, hix⟩ : ∃ ix, ix = a % ch.length := ⟨_, rfl⟩
  have hixl : ix < ch.length := by rw [hix]; exact Nat.mod_lt _ hlp
  have hrem : (a : Int) % (ch.length : Int) = (ix : Int) := by rw [hix]; exact (Int.natCast_emod a ch.length).symm
  obtain ⟨ac, hAc, hxc⟩ := Kd.at_int HCH.out (ix : Int) (by omega) (by omega)
  subst hAc
  obtain ⟨xb, hxb⟩ : ∃ xb : UInt8, xb = ch.getD ix 0 := ⟨_, rfl⟩
  have hrd : rd (ch.map fun x => (x.toNat : Int)) (ix : Int) = (xb.toNat : Int) := by
    unfold rd
    rw [hxb, List.getD_eq_getElem?_getD, List.getD_eq_getElem?_getD, Int.toNat_natCast, List.getElem?_map, List.getElem?_eq_getElem hixl]
    rfl
  rw [hrd, Int.toNat_natCast] at hxc
  have hxc2 : cA.cell? (ac.add ix) = some (.int .u8 (xb.toNat : Int)) := by
    have hBA : Below w0.heap.size w0 cA := HB.out.trans ((hK1.mono (by have := HB.out.size; omega)).toBelow hg)
    exact (hBA.cell (World.block_lt_of_cell? w0 _ hxc)).trans hxc
  have hwy : Ber.way ch a = xb.toNat % 5 := by unfold Ber.way; rw [if_neg hce, ← hix, ← hxb]
  have hnx0 : Ber.next ch a = a + 1 := by unfold Ber.next; rw [if_neg hce]
  have hxl := xb.toNat_lt
  obtain ⟨wy, hwy2⟩ : ∃ wy, wy = xb.toNat % 5 := ⟨_, rfl⟩
  have hwyi : (xb.toNat : Int) % 5 = (wy : Int) := by rw [hwy2]; omega
  have hwyl : wy < 5 := by omega
  have hway : Ber.way ch a = wy := by rw [hwy, hwy2]
  have g0 := blockCell hg1 0
  have gf := blockFrozen hg1 0
  simp only [List.getElem?_toArray, List.getElem?_cons_zero] at g0
  have hcell0 : w.heap[g]? = some (.cells #[.int .i64 (a : Int)] 3 (0, 0)) := by rw [← hg1, hcA]; exact (Below.heap_alloc w _ g hglt).symm
  have hg2 := blockSet hcell0 0 (.int .i64 ((a : Int) + 1))
  simp only [List.setIfInBounds_toArray, List.set_cons_zero] at hg2
  obtain ⟨cB, hcB⟩ : ∃ cB, cB = (w.setCell ⟨g, 0, none⟩ (.int .i64 ((a : Int) + 1))).alloc (.cells #[.int .u8 (c : Int), .bool b, .int .u64 (t : Int), .string (bs data), .slice A items.length cp] 35) := ⟨_, rfl⟩
  have hsz : (w.setCell ⟨g, 0, none⟩ (.int .i64 ((a : Int) + 1))).heap.size = w.heap.size := by simp [World.setCell]
  have hst2 : cB.heap[w.heap.size]? = some (.cells #[.int .u8 (c : Int), .bool b, .int .u64 (t : Int), .string (bs data), .slice A items.length cp] 35 (0, 0)) := by
    rw [hcB]
    have := heap_alloc_new (w.setCell ⟨g, 0, none⟩ (.int .i64 ((a : Int) + 1))) (.cells #[.int .u8 (c : Int), .bool b, .int .u64 (t : Int), .string (bs data), .slice A items.length cp] 35)
    rw [hsz] at this
    exact this
  have hgB : cB.heap[g]? = some (.cells #[.int .i64 ((Ber.next ch a : Nat) : Int)] 3 (0, 0)) := by
    rw [hcB, hnx0]
    have e : (((a + 1 : Nat) : Int)) = (a : Int) + 1 := by omega
    rw [e]
    exact (Below.heap_alloc _ _ g (by rw [hsz]; exact hglt)).trans hg2
  have hKB : Keep w.heap.size g w cB := by rw [hcB]; exact ((Keep.refl _ _ _).setCell (Or.inr rfl) _).alloc (by rw [hsz]; exact Nat.le_refl _) _
  have ha1 : a < 1000000000 := by have := HNX.out; omega
  have HST : Hid (_ = _) := Lib.hid hst2
  have HG := Lib.hid hgB
  have HK := Lib.hid hKB
  have HWAY := Lib.hid hway
  have HCB := Lib.hid hcB
  have hgne2 : w.heap.size ≠ g := by omega
  rw [hcA] at g0 gf hxc2
  have hixn : ix < 1000000 := by omega
  have hwy4 : (wy : Int) < 5 := by omega
  clear hst2 hgB hKB hway hcB hg2 hnx0 hwy hwy2 hxb hrd hxc hix hst hg1 hK1 hcA hsz hcell0
  go_wp2_with fail
  rw [← HCB.out, hwyi, hrem]
  clear hwyi hrem g0 gf hxc2 HCB hAlen
  go_loopg [8, 35] items.length (fun kq v8 v35 wr => ∃ (j a' : Nat) (acc : List UInt8), v8 = .string (bs acc) ∧ v35 = .int .i64 j ∧ Hid (j + kq = items.length) ∧ Hid (Ber.formsL ch (items.drop j) acc a' = (body, a2)) ∧
      Hid (wr.heap[w.heap.size]? = some (.cells #[.int .u8 (c : Int), .bool b, .int .u64 (t : Int), .string (bs data), .slice A items.length cp] 35 (0, 0))) ∧ Hid (wr.heap[g]? = some (.cells #[.int .i64 a'] 3 (0, 0))) ∧ Hid (Keep w.heap.size g w wr))
  case atStart => exact ⟨0, Ber.next ch a, data, rfl, by go_num, Lib.hid (by simp), Lib.hid (by rw [List.drop_zero]; exact HL.out), HST, HG, HK⟩
  case round =>
  obtain ⟨j, a', acc, rfl, rfl, HJ, HF, HST1, HG1, HK1⟩ := hrel
  have hslt : w.heap.size < wr.heap.size := blockLt HST1.out
  by_cases hj : j < items.length
  · have hacc : acc.length ≤ 1000000000 := by have := Ber.formsL_len ch (items.drop j) acc a'; rw [HF.out] at this; have := HBL.out; simp at *; omega
    have hF := HF.out
    rw [Ber.forms_drop ch items j hj] at hF
    obtain ⟨T1, a3, hf1⟩ : ∃ T1 a3, Ber.forms ch items[j] a' = (T1, a3) := ⟨_, _, rfl⟩
    rw [hf1] at hF
    simp only [] at hF
    have ha3 : a3 ≤ 1000000000 := by have := Ber.formsL_at ch (items.drop (j + 1)) (acc ++ T1) a3; rw [hF] at this; simp at this; omega
    have hT1 : acc.length + T1.length ≤ 1000000000 := by have := Ber.formsL_len ch (items.drop (j + 1)) (acc ++ T1) a3; rw [hF] at this; have := HBL.out; simp at *; omega
    have hokj := Ber.OKs.get HOK.out j hj
    have hszj : SizeOf.sizeOf items[j] < n := by
      have h1 := List.sizeOf_lt_of_mem (List.getElem_mem hj)
      have h2 : SizeOf.sizeOf (Ber.Pk.mk c b t data items) = _ := Ber.Pk.mk.sizeOf_spec c b t data items
      omega
    obtain ⟨ad, A4, c4, e4, hx0, hx1, hx2, hx3, hx4, hl4, hi4⟩ := PFnResultTold.at_T35 HC.out (j : Int) (by omega) (by omega)
    have hrd : PFnResultTold.rd_T35 (spSs items) (j : Int) = spS items[j] := by
      unfold PFnResultTold.rd_T35
      rw [List.getD_eq_getElem?_getD, Int.toNat_natCast, spSs_get items j hj]; rfl
    rw [hrd] at hx0 hx1 hx2 hx3 hx4 hl4 hi4
    obtain ⟨x, hx⟩ : ∃ x, x = items[j] := ⟨_, rfl⟩
    rw [← hx] at hx0 hx1 hx2 hx3 hx4 hl4 hi4 hszj hokj hf1
    cases x with
    | mk c1 b1 t1 d1 i1 =>
    simp only [spS, spSs_length, Int.toNat_natCast] at hx0 hx1 hx2 hx3 hx4 hl4 hi4
    subst e4
    have hBw : Below w0.heap.size w0 wr := HB.out.trans ((HK1.out.mono (by have := HB.out.size; omega)).toBelow hg)
    replace hx0 := (hBw.cell (World.block_lt_of_cell? w0 _ hx0)).trans hx0
    replace hx1 := (hBw.cell (World.block_lt_of_cell? w0 _ hx1)).trans hx1
    replace hx2 := (hBw.cell (World.block_lt_of_cell? w0 _ hx2)).trans hx2
    replace hx3 := (hBw.cell (World.block_lt_of_cell? w0 _ hx3)).trans hx3
    replace hx4 := (hBw.cell (World.block_lt_of_cell? w0 _ hx4)).trans hx4
    obtain ⟨W1, hW1⟩ : ∃ W1, W1 = wr.alloc (.cells #[.int .u8 (c1 : Int), .bool b1, .int .u64 (t1 : Int), .string (bs d1), .slice A4 i1.length c4] 35) := ⟨_, rfl⟩
    have hW1s : wr.heap.size ≤ W1.heap.size := by rw [hW1]; simp
    have hW1b : ∀ k, k < wr.heap.size → W1.heap[k]? = wr.heap[k]? := fun k hk => by rw [hW1]; exact Below.heap_alloc wr _ k hk
    have hgw : g < wr.heap.size := blockLt HG1.out
    have hcall := HIH.out c1 b1 t1 d1 i1 hszj hokj W1 g a' A4 c4 T1 a3 hf1 (by rw [hW1]; exact hBw.alloc hBw.size _) hg ((hW1b g hgw).trans HG1.out) ha3 (by omega) hi4 hl4
    have HCALL := Lib.hid hcall
    have HW1 := Lib.hid hW1
    have HW1B := Lib.hid hW1b
    have HF2 := Lib.hid hF
    have hp1 : ((j : Int) < (items.length : Int)) = True := eq_true (by omega)
    have hp0 : (0 ≤ (j : Int)) = True := eq_true (by omega)
    have hjd : decide ((j : Int) < (items.length : Int)) = true := by simp; omega
    have hadd : (bs acc).size + (bs T1).size ≤ 9223372036854775807 := by rw [bs_size, bs_size]; omega
    have HW1S := Lib.hid hW1s
    clear hcall hW1b hF hBw hf1 hi4 hrd hx hokj hszj hcls hW1s
    clear hW1
    go_wp2_with fail
    rw [← HW1.out]
    refine HCALL.out.mono ?_
    rintro e w2 ⟨rfl, hg2, hk2⟩
    have HG2 := Lib.hid hg2
    have HK2 := Lib.hid hk2
    have HJJ := Lib.hid hj
    have hjs : j < 9223372036854775807 := by have := Kd.C_max HC.out; omega
    clear hg2 hk2
    go_wp2
    have hgk : ∃ q, gk = q + 1 := ⟨gk - 1, by have := HJ.out; have := HJJ.out; omega⟩
    obtain ⟨q, rfl⟩ := hgk
    go_roundg q
    case measure => exact Nat.lt_succ_self _
    case rel => exact ⟨j + 1, a3, acc ++ T1, by rw [← bs_append], by go_num, Lib.hid (by have := HJ.out; omega), HF2, Lib.hid ((HK2.out.block w.heap.size (by have := HW1S.out; omega) (by omega)).trans ((HW1B.out _ hslt).trans HST1.out)), HG2,
      Lib.hid (HK1.out.trans ((show Keep w.heap.size g wr W1 by rw [HW1.out]; exact (Keep.refl _ _ _).alloc (by omega) _).trans (HK2.out.mono (by have := HW1S.out; omega))))⟩
  · have hje : j = items.length := by have := HJ.out; omega
    have hjd : decide ((j : Int) < (items.length : Int)) = false := by simp; omega
    have hF := HF.out
    rw [hje, List.drop_length] at hF
    simp only [Ber.formsL, Prod.mk.injEq] at hF
    obtain ⟨rfl, rfl⟩ := hF
    have e0 := blockCell HST1.out 0
    have e1 := blockCell HST1.out 1
    have e2 := blockCell HST1.out 2
    have e3 := blockCell HST1.out 3
    have e4 := blockCell HST1.out 4
    simp only [List.getElem?_toArray, List.getElem?_cons_zero, List.getElem?_cons_succ] at e0 e1 e2 e3 e4
    have hBw : Below w0.heap.size w0 wr := HB.out.trans ((HK1.out.mono (by have := HB.out.size; omega)).toBelow hg)
    have htagc := PFnResultTold.spec_BerTag.calls 20 (c : Int) b (t : Int) (bs data) A cp (spSs items) _ wr (by rw [spSs_length]; exact Kd.C_below HC.out hBw) (by rw [spSs_length]; exact hcp) (berTag_f c hcls b t HTAG.out (bs data) (spSs items))
    rw [spSs_length] at htagc
    have HTC := Lib.hid htagc
    have HBW := Lib.hid hBw
    clear htagc hBw
    have hTT := HT.out
    unfold Ber.formText at hTT
    rw [HWAY.out] at hTT
    by_cases hw4 : wy = 4 ∧ b = true
    · obtain ⟨rfl, rfl⟩ := hw4
      rw [if_pos ⟨rfl, rfl⟩] at hTT
      have hTl := HTL.out
      rw [← hTT] at hTl
      simp only [List.length_append, List.length_cons, List.length_nil] at hTl
      have had0 : (bs (Ber.identBytes c true t)).size + (⟨#[128]⟩ : ByteArray).size ≤ 9223372036854775807 := by
        rw [bs_size, show (⟨#[128]⟩ : ByteArray).size = 1 from rfl]; omega
      have had1 : (bs (Ber.identBytes c true t) ++ (⟨#[128]⟩ : ByteArray)).size + (bs acc).size ≤ 9223372036854775807 := by
        rw [show (⟨#[128]⟩ : ByteArray) = bs [128] from rfl, bs_append, bs_size, bs_size]; simp; omega
      have had2 : ((bs (Ber.identBytes c true t) ++ (⟨#[128]⟩ : ByteArray)) ++ bs acc).size + (⟨#[0, 0]⟩ : ByteArray).size ≤ 9223372036854775807 := by
        rw [show (⟨#[128]⟩ : ByteArray) = bs [128] from rfl, bs_append, bs_append, bs_size, show (⟨#[0, 0]⟩ : ByteArray).size = 2 from rfl]; simp; omega
      have HTT := Lib.hid hTT
      clear hTT hTl
      go_wp2_with fail
      refine HTC.out.mono ?_
      rintro e w2 ⟨rfl, hb2⟩
      have HB2 := Lib.hid hb2
      clear hb2 e0 e1 e2 e3 e4
      go_wp2
      go_ret
      have hg2lt : g < wr.heap.size := blockLt HG1.out
      refine ⟨?_, (HB2.out.block g hg2lt).trans HG1.out, HK1.out.trans (Keep.ofBelow (HB2.out.mono (by omega)))⟩
      rw [← HTT.out, ← bs_append, ← bs_append, ← bs_append]
      rfl
    · rw [if_neg hw4] at hTT
      obtain ⟨m4, hm4⟩ : ∃ m4, m4 = wy % 4 := ⟨_, rfl⟩
      have hm4i : (wy : Int) % 4 = (m4 : Int) := by omega
      rw [← hm4] at hTT
      have hbsz := bs_size acc
      have had1 : (bs (Ber.identBytes c b t)).size + (bs (Ber.lenForm acc.length m4)).size ≤ 9223372036854775807 := by
        have := HTL.out; rw [← hTT] at this; simp only [List.length_append] at this; rw [bs_size, bs_size]; omega
      have had2 : (bs (Ber.identBytes c b t) ++ bs (Ber.lenForm acc.length m4)).size + (bs acc).size ≤ 9223372036854775807 := by
        have := HTL.out; rw [← hTT] at this; simp only [List.length_append] at this; rw [bs_append, bs_size, bs_size]; simp; omega
      have HTT := Lib.hid hTT
      have hm4l : m4 < 4 := by omega
      clear hTT
      by_cases hw : wy = 4
      · have hbf : b = false := by cases b with | false => rfl | true => exact absurd ⟨hw, rfl⟩ hw4
        subst hbf
        subst hw
        obtain rfl : m4 = 0 := by omega
        have HLC := Lib.hid (fun W => PFnResultTold.spec_BerLength.calls 40 (acc.length : Int) 0 _ W (berLength_f acc.length 0 (by have := HBL.out; omega) (by omega)))
        clear hm4 hm4i
        go_wp2_with fail
        refine HTC.out.mono ?_
        rintro e w2 ⟨rfl, hb2⟩
        have HB2 := Lib.hid hb2
        clear hb2 e0 e1 e2 e3 e4
        go_wp2_with fail
        refine (HLC.out _).mono ?_
        rintro e w3 ⟨rfl, hb3⟩
        have HB3 := Lib.hid hb3
        clear hb3
        go_wp2
        go_ret
        have hg2lt : g < wr.heap.size := blockLt HG1.out
        refine ⟨?_, (HB3.out.block g (by have := HB2.out.size; omega)).trans ((HB2.out.block g hg2lt).trans HG1.out), HK1.out.trans (Keep.ofBelow ((HB2.out.mono (by omega)).trans (HB3.out.mono (by have := HB2.out.size; omega))))⟩
        rw [← HTT.out, ← bs_append, ← bs_append]
        rfl
      · have hwi : ((wy : Int) == 4) = false := by rw [beq_eq_false_iff_ne]; omega
        have HLC := Lib.hid (fun W => PFnResultTold.spec_BerLength.calls 40 (acc.length : Int) (m4 : Int) _ W (berLength_f acc.length m4 (by have := HBL.out; omega) (by omega)))
        clear hm4
        go_wp2_with fail
        refine HTC.out.mono ?_
        rintro e w2 ⟨rfl, hb2⟩
        have HB2 := Lib.hid hb2
        clear hb2 e0 e1 e2 e3 e4
        go_wp2_with fail
        refine (HLC.out _).mono ?_
        rintro e w3 ⟨rfl, hb3⟩
        have HB3 := Lib.hid hb3
        clear hb3
        go_wp2
        go_ret
        have hg2lt : g < wr.heap.size := blockLt HG1.out
        refine ⟨?_, (HB3.out.block g (by have := HB2.out.size; omega)).trans ((HB2.out.block g hg2lt).trans HG1.out), HK1.out.trans (Keep.ofBelow ((HB2.out.mono (by omega)).trans (HB3.out.mono (by have := HB2.out.size; omega))))⟩
        rw [← HTT.out, ← bs_append, ← bs_append]
        rfl
end Go.Proofs.YtdfehaonngccjaaGreatDoor

/- BerForms. -/
namespace Go.Proofs.YtdfehaonngccjaaGreatDoor
open Go Go.RowKit Go.Proofs.YtdfehaonngccjaaGreatDoorW.PrintWords Go.Proofs.YtdfehaonngccjaaGreatDoorW.PrintLast Go.Proofs.YtdfehaonngccjaaGreatDoorW.PrintMore

theorem forms_nil (w0 : World) (Ac : Option Addr) (cc : Nat) (hch : Kd.C (Kd.int .u8) w0 Ac ([] : List UInt8).length (([] : List UInt8).map fun x => (x.toNat : Int))) : ∀ n, FormsHolds w0 [] Ac cc n
  | 0 => fun c b t data items h => absurd h (Nat.not_lt_zero _)
  | n + 1 => forms_none w0 [] rfl Ac cc hch (by simp) n (forms_nil w0 Ac cc hch n)

set_option maxRecDepth 100000 in
set_option maxHeartbeats 4000000 in
theorem berForms_call (w : World) (ch : List UInt8) (Ac : Option Addr) (cc : Nat) (hf : ∀ n, FormsHolds w ch Ac cc n) (c : Nat) (b : Bool) (t : Nat) (data : List UInt8) (items : List Ber.Pk) (hok : Ber.OK (.mk c b t data items)) (A : Option Addr) (cp : Nat) (T : List UInt8) (a2 : Nat)
    (hT : Ber.forms ch (.mk c b t data items) 0 = (T, a2)) (ha2 : a2 ≤ 1000000000) (hTl : T.length ≤ 1000000000) (hC : Kd.C PFnResultTold.k35 w A items.length (spSs items)) (hcp : items.length ≤ cp) :
    Calls Tryz.prog 15 #[.agg #[.int .u8 (c : Int), .bool b, .int .u64 (t : Int), .string (bs data), .slice A items.length cp], .slice Ac ch.length cc] w fun e w' => e = .returned (.string (bs T)) ∧ Below w.heap.size w w' := by
  obtain ⟨W2, hW2⟩ : ∃ W2, W2 = (w.alloc (.cells #[.int .u8 (c : Int), .bool b, .int .u64 (t : Int), .string (bs data), .slice A items.length cp] 35)).alloc (.cells #[.int .i64 0] 3) := ⟨_, rfl⟩
  have hB : Below w.heap.size w W2 := by rw [hW2]; exact ((Below.refl _ w).alloc (Nat.le_refl _) _).alloc (by simp) _
  have hs : W2.heap.size = w.heap.size + 2 := by rw [hW2]; simp
  have hg : W2.heap[w.heap.size + 1]? = some (.cells #[.int .i64 ((0 : Nat) : Int)] 3 (0, 0)) := by
    rw [hW2]
    exact alloc2_new w _ _
  have hcall := hf _ c b t data items (Nat.lt_succ_self _) hok W2 (w.heap.size + 1) 0 A cp T a2 hT hB (by omega) hg ha2 hTl hC hcp
  have HCALL := Lib.hid hcall
  have HW2 := Lib.hid hW2
  have HS := Lib.hid hs
  have HB := Lib.hid hB
  clear hcall hs hg hB hT hC hf hW2
  go_enter Tryz.func15, Tryz.ntmps15
  go_wp2_with fail
  rw [← HW2.out]
  refine HCALL.out.mono ?_
  rintro e w2 ⟨rfl, -, hk⟩
  have HK := Lib.hid hk
  clear hk
  go_wp2
  go_ret
  exact ⟨rfl, HB.out.trans ((HK.out.mono (by have := HS.out; omega)).toBelow (by omega))⟩

end Go.Proofs.YtdfehaonngccjaaGreatDoor

/- What is written in some form is read. -/
namespace Go.Proofs.YtdfehaonngccjaaGreatDoor.Ber

theorem high_more : ∀ (g f m : Nat) (s : List UInt8), 0 < m → m < 128 ^ g → g ≤ f → g ≤ 8 → ∃ j, 1 ≤ j ∧ j ≤ g ∧ high (tagMore f m ++ s) 0 0 = high s m j := by
  intro g
  induction g with
  | zero => intro f m s h0 h1; simp at h1; omega
  | succ g ih =>
    intro f m s h0 h1 h2 h3
    obtain ⟨f, rfl⟩ : ∃ f', f = f' + 1 := ⟨f - 1, by omega⟩
    simp only [tagMore]
    rw [if_neg (show ¬ m = 0 by omega), List.append_assoc]
    have hb : (UInt8.ofNat (m % 128 + 128)).toNat = m % 128 + 128 := by simp; omega
    by_cases h4 : m < 128
    · have e0 : tagMore f (m / 128) = [] := by
        rw [show m / 128 = 0 by omega]
        cases f <;> simp [tagMore]
      rw [e0]
      refine ⟨1, by omega, by omega, ?_⟩
      simp only [List.nil_append, List.cons_append, high]
      rw [hb, if_neg (by omega), if_neg (by omega), if_neg (by omega)]
      congr 1
      omega
    · obtain ⟨j, h5, h6, h7⟩ := ih f (m / 128) ([UInt8.ofNat (m % 128 + 128)] ++ s) (by omega) (by rw [Nat.pow_succ] at h1; omega) (by omega) (by omega)
      refine ⟨j + 1, by omega, by omega, ?_⟩
      rw [h7]
      simp only [List.nil_append, List.cons_append, high]
      rw [hb, if_neg (by omega), if_neg (by omega), if_neg (by omega)]
      congr 1
      omega

theorem high_tag (t : Nat) (h0 : 0 < t) (ht : t < 2 ^ 31) (s : List UInt8) : high (tagBytes t ++ s) 0 0 = some (t, s) := by
  have hb : (UInt8.ofNat (t % 128)).toNat = t % 128 := by simp; omega
  unfold tagBytes
  rw [if_neg (by omega), List.append_assoc]
  by_cases h1 : t < 128
  · have e0 : tagMore 10 (t / 128) = [] := by rw [show t / 128 = 0 by omega]; simp [tagMore]
    rw [e0]
    simp only [List.nil_append, List.cons_append, high]
    rw [hb, if_neg (by omega), if_neg (by omega), if_pos (by omega)]
    congr 2
    omega
  · obtain ⟨j, h5, h6, h7⟩ := high_more 5 10 (t / 128) ([UInt8.ofNat (t % 128)] ++ s) (by omega) (by omega) (by omega) (by omega)
    rw [h7]
    simp only [List.nil_append, List.cons_append, high]
    rw [hb, if_neg (by omega), if_neg (by omega), if_pos (by omega)]
    congr 2
    omega

theorem ident_text (c : Nat) (hc : c < 4) (b : Bool) (t : Nat) (ht : t < 2 ^ 31) (s : List UInt8) : ident (identBytes c b t ++ s) = some (c, b, t, s) := by
  have key : ∀ v : Nat, v < 32 → ∀ x : Nat, x = c * 64 + (if b then 32 else 0) + v → (UInt8.ofNat x).toNat = x ∧ x % 32 = v ∧ x / 64 = c ∧ decide (x / 32 % 2 = 1) = b := by
    intro v hv x hx
    have hxl : x < 256 := by rw [hx]; split <;> omega
    refine ⟨by simp; omega, ?_, ?_, ?_⟩
    · rw [hx]; split <;> omega
    · rw [hx]; split <;> omega
    · rw [hx]
      cases b
      · simp; omega
      · simp; omega
  unfold identBytes
  by_cases h : t < 31
  · rw [if_pos h]
    obtain ⟨k1, k2, k3, k4⟩ := key t (by omega) _ rfl
    simp only [List.cons_append, List.nil_append, ident]
    rw [k1, k2, if_neg (by omega), k3, k4]
  · rw [if_neg h]
    obtain ⟨k1, k2, k3, k4⟩ := key 31 (by omega) _ rfl
    simp only [List.cons_append, ident]
    rw [k1, k2, if_pos rfl, high_tag t (by omega) ht, k3, k4]
    rfl

theorem be_append_zero (k : Nat) (l : List UInt8) : be (List.replicate k 0 ++ l) = be l := by
  induction k with
  | zero => rfl
  | succ k ih =>
    rw [List.replicate_succ, List.cons_append]
    unfold be at ih ⊢
    simpa using ih
theorem be_digits : ∀ (f n : Nat), n < 256 ^ f → be (digits f n) = n
  | 0, n, h => by simp at h; subst h; rfl
  | f + 1, n, h => by
    simp only [digits]
    by_cases h1 : n < 256
    · rw [if_pos h1]
      unfold be
      simp
      omega
    · rw [if_neg h1]
      have := be_digits f (n / 256) (by rw [Nat.pow_succ] at h; omega)
      unfold be at this ⊢
      rw [List.foldl_append, this]
      simp
      omega
theorem digits_le4 : ∀ (g f n : Nat), n < 256 ^ g → 1 ≤ g → g ≤ f → 1 ≤ (digits f n).length ∧ (digits f n).length ≤ g
  | 0, _, _, _, h, _ => by omega
  | g + 1, 0, _, _, _, h => by omega
  | g + 1, f + 1, n, h, _, hf => by
    simp only [digits]
    by_cases h1 : n < 256
    · rw [if_pos h1]; simp
    · rw [if_neg h1]
      cases g with
      | zero => simp at h; omega
      | succ g =>
        have := digits_le4 (g + 1) f (n / 256) (by rw [Nat.pow_succ] at h; omega) (by omega) (by omega)
        simp; omega

theorem lenOf_form (n more : Nat) (hn : n < 2 ^ 31) (hm : more ≤ 3) (s : List UInt8) : lenOf (lenForm n more ++ s) = some (some n, s) := by
  unfold lenForm
  by_cases h : n < 128 ∧ more = 0
  · rw [if_pos h]
    have hb : (UInt8.ofNat n).toNat = n := by simp; omega
    simp only [List.cons_append, List.nil_append, lenOf]
    rw [hb, if_neg (by omega), if_neg (by omega), if_pos (by omega)]
  · rw [if_neg h]
    obtain ⟨h1, h2⟩ := digits_le4 4 8 n (by omega) (by omega) (by omega)
    obtain ⟨zs, hzs⟩ : ∃ zs, zs = List.replicate (more - 1) (0 : UInt8) ++ digits 8 n := ⟨_, rfl⟩
    have hbe : be zs = n := by rw [hzs, be_append_zero, be_digits 8 n (by omega)]
    have hl : zs.length = more - 1 + (digits 8 n).length := by rw [hzs]; simp
    rw [← hzs]
    have hb : (UInt8.ofNat (128 + zs.length)).toNat = 128 + zs.length := by simp; omega
    simp only [List.cons_append, lenOf]
    rw [hb, if_neg (by omega), if_neg (by omega), if_neg (by omega), if_neg (by omega), if_neg (by simp)]
    rw [show 128 + zs.length - 128 = zs.length by omega, List.take_left, List.drop_left, hbe, if_neg (by omega)]

theorem header_text (c : Nat) (hc : c < 4) (b : Bool) (t : Nat) (ht : t < 2 ^ 31) (n more : Nat) (hn : n < 2 ^ 31) (hm : more ≤ 3) (s : List UInt8) :
    header (identBytes c b t ++ (lenForm n more ++ s)) = some (c, b, t, some n, s) := by
  simp only [header, ident_text c hc b t ht, lenOf_form n more hn hm]
  rw [if_neg (by simp)]
theorem header_open (c : Nat) (hc : c < 4) (t : Nat) (ht : t < 2 ^ 31) (s : List UInt8) :
    header (identBytes c true t ++ (128 :: s)) = some (c, true, t, none, s) := by
  have : lenOf (128 :: s) = some (none, s) := by
    simp only [lenOf]
    rw [if_neg (by decide), if_pos (by decide)]
  simp only [header, ident_text c hc true t ht, this]
  rw [if_neg (by simp)]

mutual
/-- What can be written in a form and read. -/
def Fine : Pk → Prop
  | .mk c b t data items => c < 4 ∧ t < 2 ^ 31 ∧ ¬ (c = 0 ∧ t = 0) ∧ (b = false → items = [] ∧ known c t = true ∧ data.length ≤ 480) ∧ (b = true → data = []) ∧ Fines items
def Fines : List Pk → Prop
  | [] => True
  | x :: r => Fine x ∧ Fines r
end
mutual
def depth : Pk → Nat
  | .mk _ _ _ _ items => depths items + 1
def depths : List Pk → Nat
  | [] => 0
  | x :: r => max (depth x) (depths r)
end
mutual
def need : Pk → Nat
  | .mk _ _ _ _ items => needs items + 2
def needs : List Pk → Nat
  | [] => 3
  | x :: r => max (need x) (needs r) + 1
end

theorem formsL_acc (ch : List UInt8) : ∀ (l : List Pk) (acc : List UInt8) (a : Nat), formsL ch l acc a = (acc ++ (formsL ch l [] a).1, (formsL ch l [] a).2)
  | [], acc, a => by simp [formsL]
  | x :: r, acc, a => by
    simp only [formsL]
    rw [formsL_acc ch r (acc ++ (forms ch x a).1), formsL_acc ch r ([] ++ (forms ch x a).1)]
    simp
theorem formsL_cons (ch : List UInt8) (x : Pk) (r : List Pk) (a : Nat) :
    formsL ch (x :: r) [] a = ((forms ch x a).1 ++ (formsL ch r [] (forms ch x a).2).1, (formsL ch r [] (forms ch x a).2).2) := by
  simp only [formsL]
  rw [formsL_acc]
  simp

theorem fine_eoc {x : Pk} (h : Fine x) : isEOC x = false := by
  obtain ⟨c, b, t, data, items⟩ := x
  have h3 := h.2.2.1
  simp only [isEOC]
  cases hb : (decide (c = 0) && !b && decide (t = 0) && data.isEmpty) with
  | false => rfl
  | true =>
    simp only [Bool.and_eq_true, decide_eq_true_eq] at hb
    exact absurd ⟨hb.1.1.1, hb.1.2⟩ h3

theorem read_eoc (f d : Nat) (hf : 1 ≤ f) (hd : d < 1000) (s : List UInt8) : readP f d (0 :: 0 :: s) = .ok (.mk 0 false 0 [] []) s := by
  obtain ⟨f, rfl⟩ : ∃ f', f = f' + 1 := ⟨f - 1, by omega⟩
  have h : header (0 :: 0 :: s) = some (0, false, 0, some 0, s) := by
    simp [header, ident, lenOf]
  simp only [readP]
  rw [if_neg (by omega), h]
  simp [prim, known]

theorem formText_pos (c : Nat) (b : Bool) (t w : Nat) (body : List UInt8) : 1 ≤ (formText c b t w body).length := by
  have h : 1 ≤ (identBytes c b t).length := by unfold identBytes; split <;> simp
  unfold formText
  split <;> simp <;> omega
theorem forms_pos (ch : List UInt8) (x : Pk) (a : Nat) : 1 ≤ (forms ch x a).1.length := by
  obtain ⟨c, b, t, data, items⟩ := x
  simp only [forms]
  exact formText_pos _ _ _ _ _

mutual
theorem read_forms (ch : List UInt8) : ∀ (x : Pk) (a d f : Nat) (rest : List UInt8), Fine x → (forms ch x a).1.length < 2147483000 → d + depth x ≤ 999 → need x ≤ f →
    readP f d ((forms ch x a).1 ++ rest) = .ok x rest
  | .mk c b t data items, a, d, f, rest, hx, hl, hd, hf => by
    obtain ⟨hc, ht, hne, hp, hb, hi⟩ := hx
    simp only [forms, depth, need] at hl hd hf ⊢
    obtain ⟨f, rfl⟩ : ∃ f', f = f' + 1 := ⟨f - 1, by omega⟩
    have hbl := formText_len c b t (way ch a) (formsL ch items data (next ch a)).1
    cases b with
    | false =>
      obtain ⟨rfl, hk, hdl⟩ := hp rfl
      simp only [formsL] at hl hbl ⊢
      unfold formText at hl ⊢
      rw [if_neg (by simp)] at hl ⊢
      rw [List.append_assoc, List.append_assoc]
      simp only [readP]
      rw [if_neg (by omega), header_text c hc false t ht data.length (way ch a % 4) (by omega) (by omega)]
      simp only []
      rw [if_neg (by omega)]
      simp only [Bool.false_eq_true, if_false]
      unfold prim
      by_cases h0 : data.length = 0
      · rw [if_pos h0, if_pos hk]
        obtain rfl : data = [] := List.length_eq_zero_iff.1 h0
        rfl
      · rw [if_neg h0, if_neg (by omega), if_neg (by simp), if_pos hk, List.take_left, List.drop_left]
    | true =>
      obtain rfl := hb rfl
      have hB : (formsL ch items [] (next ch a)).1.length < 2147483000 := by omega
      have hwt : formText c true t (way ch a) (formsL ch items [] (next ch a)).1 ++ rest = if way ch a = 4 then identBytes c true t ++ (128 :: ((formsL ch items [] (next ch a)).1 ++ (0 :: 0 :: rest)))
          else identBytes c true t ++ (lenForm (formsL ch items [] (next ch a)).1.length (way ch a % 4) ++ ((formsL ch items [] (next ch a)).1 ++ rest)) := by
        unfold formText
        by_cases h4 : way ch a = 4
        · rw [if_pos ⟨h4, rfl⟩, if_pos h4]; simp
        · rw [if_neg (by simp [h4]), if_neg h4]; simp
      rw [hwt]
      by_cases h4 : way ch a = 4
      · rw [if_pos h4]
        have hl2 : (formsL ch items [] (next ch a)).1.length + 2 ≤ 2147483000 := by
          unfold formText at hl
          rw [if_pos ⟨h4, rfl⟩] at hl
          simp at hl
          omega
        simp only [readP]
        rw [if_neg (by omega), header_open c hc t ht]
        simp only []
        have := read_formsL_none ch items (next ch a) d f c t 0 [] rest hi (by omega) (by omega) (by omega)
        simpa using this
      · rw [if_neg h4]
        simp only [readP]
        rw [if_neg (by omega), header_text c hc true t ht _ (way ch a % 4) (by omega) (by omega)]
        simp only []
        rw [if_neg (by omega)]
        simp only [if_true]
        have := read_formsL_some ch items (next ch a) d f c t 0 [] rest hi (by omega) (by omega) (by omega)
        simpa using this
theorem read_formsL_some (ch : List UInt8) : ∀ (l : List Pk) (a d f c t got : Nat) (done : List Pk) (rest : List UInt8), Fines l → got + (formsL ch l [] a).1.length < 2147483000 → d + 1 + depths l ≤ 999 → needs l ≤ f →
    kids f d c t (some (got + (formsL ch l [] a).1.length)) got done ((formsL ch l [] a).1 ++ rest) = .ok (.mk c true t [] (done ++ l)) rest
  | [], a, d, f, c, t, got, done, rest, _, _, _, hf => by
    simp only [needs] at hf
    obtain ⟨f, rfl⟩ : ∃ f', f = f' + 1 := ⟨f - 1, by omega⟩
    simp [formsL, kids]
  | x :: r, a, d, f, c, t, got, done, rest, hx, hl, hd, hf => by
    simp only [needs, depths] at hf hd
    obtain ⟨f, rfl⟩ : ∃ f', f = f' + 1 := ⟨f - 1, by omega⟩
    rw [formsL_cons] at hl ⊢
    simp only [List.length_append] at hl ⊢
    have hpos := forms_pos ch x a
    simp only [kids]
    rw [if_neg (fun h => by have := Option.some.inj h; omega), if_neg (by simp), List.append_assoc, read_forms ch x a (d + 1) f _ hx.1 (by omega) (by omega) (by omega)]
    simp only []
    have e1 : ((forms ch x a).1 ++ ((formsL ch r [] (forms ch x a).2).1 ++ rest)).length - ((formsL ch r [] (forms ch x a).2).1 ++ rest).length = (forms ch x a).1.length := by simp
    rw [e1, if_neg (by omega), fine_eoc hx.1]
    simp only [Bool.false_eq_true, if_false]
    have := read_formsL_some ch r (forms ch x a).2 d f c t (got + (forms ch x a).1.length) (done ++ [x]) rest hx.2 (by omega) (by omega) (by omega)
    rw [show got + ((forms ch x a).1.length + (formsL ch r [] (forms ch x a).2).1.length) = got + (forms ch x a).1.length + (formsL ch r [] (forms ch x a).2).1.length by omega, this]
    simp
theorem read_formsL_none (ch : List UInt8) : ∀ (l : List Pk) (a d f c t got : Nat) (done : List Pk) (rest : List UInt8), Fines l → got + (formsL ch l [] a).1.length + 2 ≤ 2147483000 → d + 1 + depths l ≤ 999 → needs l ≤ f →
    kids f d c t none got done ((formsL ch l [] a).1 ++ (0 :: 0 :: rest)) = .ok (.mk c true t [] (done ++ l)) rest
  | [], a, d, f, c, t, got, done, rest, _, hl, hd, hf => by
    simp only [needs, depths] at hf hd
    obtain ⟨f, rfl⟩ : ∃ f', f = f' + 1 := ⟨f - 1, by omega⟩
    simp only [formsL, List.nil_append, kids] at hl ⊢
    rw [if_neg (by simp), if_neg (by simp), read_eoc f (d + 1) (by omega) (by omega)]
    simp only []
    have e1 : (0 :: 0 :: rest).length - rest.length = 2 := by simp only [List.length_cons]; omega
    rw [e1, if_neg (by simp at hl; omega)]
    simp [isEOC]
  | x :: r, a, d, f, c, t, got, done, rest, hx, hl, hd, hf => by
    simp only [needs, depths] at hf hd
    obtain ⟨f, rfl⟩ : ∃ f', f = f' + 1 := ⟨f - 1, by omega⟩
    rw [formsL_cons] at hl ⊢
    simp only [List.length_append] at hl ⊢
    have hpos := forms_pos ch x a
    simp only [kids]
    rw [if_neg (by simp), if_neg (by simp), List.append_assoc, read_forms ch x a (d + 1) f _ hx.1 (by omega) (by omega) (by omega)]
    simp only []
    have e1 : ((forms ch x a).1 ++ ((formsL ch r [] (forms ch x a).2).1 ++ (0 :: 0 :: rest))).length - ((formsL ch r [] (forms ch x a).2).1 ++ (0 :: 0 :: rest)).length = (forms ch x a).1.length := by simp
    rw [e1, if_neg (by omega), fine_eoc hx.1]
    simp only [Bool.false_eq_true, if_false]
    have := read_formsL_none ch r (forms ch x a).2 d f c t (got + (forms ch x a).1.length) (done ++ [x]) rest hx.2 (by omega) (by omega) (by omega)
    rw [this]
    simp
end
end Go.Proofs.YtdfehaonngccjaaGreatDoor.Ber

/- How long forms are. -/
namespace Go.Proofs.YtdfehaonngccjaaGreatDoor
namespace Ber

theorem tagMore_le : ∀ (g f m : Nat), m < 128 ^ g → (tagMore f m).length ≤ g
  | g, 0, m, _ => by simp [tagMore]
  | 0, f + 1, m, h => by
    have : m = 0 := by simpa using h
    simp [tagMore, this]
  | g + 1, f + 1, m, h => by
    simp only [tagMore]
    split
    · simp
    · have := tagMore_le g f (m / 128) (by rw [Nat.pow_succ] at h; omega)
      simp
      omega
theorem ident_le (c : Nat) (b : Bool) (t : Nat) (ht : t < 2 ^ 31) : (identBytes c b t).length ≤ 6 := by
  unfold identBytes
  split
  · simp
  · have h := tagMore_le 4 10 (t / 128) (by omega)
    have h2 : (tagBytes t).length ≤ 5 := by
      unfold tagBytes
      split
      · simp
      · rw [List.length_append, List.length_singleton]; omega
    rw [List.length_cons]
    omega
theorem lenForm_len (n m : Nat) (hn : n < 256 ^ 8) (hm : m ≤ 3) : (lenForm n m).length ≤ 11 := by
  unfold lenForm
  split
  · simp
  · have := digits_length n hn
    simp
    omega
theorem formText_le (c : Nat) (b : Bool) (t w : Nat) (body : List UInt8) (ht : t < 2 ^ 31) (hl : body.length < 256 ^ 8) : (formText c b t w body).length ≤ body.length + 17 := by
  have h1 := ident_le c b t ht
  have h2 := lenForm_len body.length (w % 4) hl (by omega)
  unfold formText
  split
  · simp; omega
  · simp; omega

mutual
theorem forms_size (ch : List UInt8) : ∀ (x : Pk) (a dd : Nat), IsOK dd x → count x ≤ 40 → (forms ch x a).1.length ≤ 500 * count x ∧ (forms ch x a).2 ≤ a + count x
  | .mk c b t data items, a, dd, hx, hc => by
    obtain ⟨h1, h2, h3, h4, h5, h6, h7, h8⟩ := hx
    simp only [forms, count] at hc ⊢
    have hn : next ch a ≤ a + 1 := by unfold next; split <;> omega
    have hs := formsL_size ch items data (next ch a) (dd - 1) h8 (by omega)
    have ht := formText_le c b t (way ch a) (formsL ch items data (next ch a)).1 h2 (by omega)
    omega
theorem formsL_size (ch : List UInt8) : ∀ (l : List Pk) (acc : List UInt8) (a dd : Nat), IsOKs dd l → counts l ≤ 40 → (formsL ch l acc a).1.length ≤ acc.length + 500 * counts l ∧ (formsL ch l acc a).2 ≤ a + counts l
  | [], acc, a, dd, _, _ => by simp [formsL, counts]
  | x :: r, acc, a, dd, hx, hc => by
    simp only [counts] at hc ⊢
    simp only [formsL]
    have h1 := forms_size ch x a dd hx.1 (by omega)
    have h2 := formsL_size ch r (acc ++ (forms ch x a).1) (forms ch x a).2 dd hx.2 (by omega)
    simp only [List.length_append] at h2
    omega
end

mutual
theorem fine_of : ∀ (x : Pk) (dd : Nat), IsOK dd x → Known x → Fine x ∧ depth x ≤ dd
  | .mk c b t data items, dd, hx, hk => by
    obtain ⟨h1, h2, h3, h4, h5, h6, h7, h8⟩ := hx
    have h9 := fines_of items (dd - 1) h8 hk.2
    refine ⟨⟨by omega, h2, h3, fun hb => ⟨h7 hb, hk.1 hb, by omega⟩, h6, h9.1⟩, ?_⟩
    simp only [depth]
    omega
theorem fines_of : ∀ (l : List Pk) (dd : Nat), IsOKs dd l → Knowns l → Fines l ∧ depths l ≤ dd
  | [], dd, _, _ => ⟨trivial, Nat.zero_le _⟩
  | x :: r, dd, hx, hk => by
    have h1 := fine_of x dd hx.1 hk.1
    have h2 := fines_of r dd hx.2 hk.2
    refine ⟨⟨h1.1, h2.1⟩, ?_⟩
    simp only [depths]
    omega
end
mutual
theorem ok_of : ∀ (x : Pk) (dd : Nat), IsOK dd x → OK x
  | .mk c b t data items, dd, hx => ⟨by have := hx.1; omega, by have := hx.2.1; omega, oks_of items (dd - 1) hx.2.2.2.2.2.2.2⟩
theorem oks_of : ∀ (l : List Pk) (dd : Nat), IsOKs dd l → OKs l
  | [], _, _ => trivial
  | x :: r, dd, hx => ⟨ok_of x dd hx.1, oks_of r dd hx.2⟩
end

/-- A value that may be written in forms: what is written is read. -/
theorem read_form (ch : List UInt8) (x : Pk) (rest : List UInt8) (hx : IsOK 7 x) (hk : Known x) (hc : count x ≤ 40) :
    readP (need x) 0 ((forms ch x 0).1 ++ rest) = .ok x rest ∧ (forms ch x 0).1.length ≤ 20000 ∧ 1 ≤ (forms ch x 0).1.length ∧ (forms ch x 0).2 ≤ 40 := by
  have h1 := forms_size ch x 0 7 hx hc
  have h2 := fine_of x 7 hx hk
  exact ⟨read_forms ch x 0 0 (need x) rest h2.1 (by omega) (by omega) (Nat.le_refl _), by omega, forms_pos ch x 0, by omega⟩
end Ber
end Go.Proofs.YtdfehaonngccjaaGreatDoor

/- BerForms of a value. -/
namespace Go.Proofs.YtdfehaonngccjaaGreatDoor
open Go Go.RowKit Go.Proofs.YtdfehaonngccjaaGreatDoorW.PrintWords Go.Proofs.YtdfehaonngccjaaGreatDoorW.PrintLast Go.Proofs.YtdfehaonngccjaaGreatDoorW.PrintMore

theorem forms_all (w0 : World) (ch : List UInt8) (Ac : Option Addr) (cc : Nat) (hch : Kd.C (Kd.int .u8) w0 Ac ch.length (ch.map fun x => (x.toNat : Int))) (hcl : ch.length ≤ 1000000) : ∀ n, FormsHolds w0 ch Ac cc n
  | 0 => fun c b t data items h => absurd h (Nat.not_lt_zero _)
  | n + 1 => by
    by_cases h : ch = []
    · exact forms_none w0 ch h Ac cc hch hcl n (forms_all w0 ch Ac cc hch hcl n)
    · exact forms_some w0 ch h Ac cc hch hcl n (forms_all w0 ch Ac cc hch hcl n)

end Go.Proofs.YtdfehaonngccjaaGreatDoor

/- The reference's answers and messages. -/
namespace Go.Proofs.YtdfehaonngccjaaGreatDoor
open Go Go.RowKit Go.Proofs.YtdfehaonngccjaaGreatDoorW.PrintWords Go.Proofs.YtdfehaonngccjaaGreatDoorW.PrintLast Go.Proofs.YtdfehaonngccjaaGreatDoorW.PrintMore

set_option maxRecDepth 100000 in
set_option maxHeartbeats 8000000 in
theorem answer_call (w : World) (kind : Nat) (code : Int) (cb matched text : List UInt8) (refs : List (List UInt8)) (A : Option Addr) (cp : Nat) (hcb : PFnResultTold.spec_BerInt.f 9 code = some (bs cb)) (hC : Kd.C Kd.string w A refs.length (refs.map bs)) (hcp : refs.length ≤ cp) (hl : refs.length ≤ 4) :
    Calls Tryz.prog 10 #[.int .u64 (kind : Int), .agg #[.int .i64 code, .string (bs matched), .string (bs text), .slice A refs.length cp]] w fun e w' =>
      ∃ A2 c2, e = .returned (.agg #[.int .u8 1, .bool true, .int .u64 (kind : Int), .string ⟨#[]⟩, .slice A2 (spSs (Ber.partPks cb matched text refs)).length c2]) ∧ (spSs (Ber.partPks cb matched text refs)).length ≤ c2 ∧ Kd.C PFnResultTold.k35 w' A2 (spSs (Ber.partPks cb matched text refs)).length (spSs (Ber.partPks cb matched text refs)) ∧ Below w.heap.size w w' := by
  obtain ⟨w2, hw2⟩ : ∃ w2, w2 = (w.alloc (.cells #[.int .i64 code, .string (bs matched), .string (bs text), .slice A refs.length cp] 24)).alloc (.cells #[.int .u8 0, .bool false, .int .u64 0, .string ⟨#[]⟩, .slice none 0 0] 35) := ⟨_, rfl⟩
  have hb2 : Below w.heap.size w w2 := by rw [hw2]; exact ((Below.refl _ w).alloc (Nat.le_refl _) _).alloc (by simp) _
  have hz : w2.heap[w.heap.size + 1]? = some (.cells #[.int .u8 0, .bool false, .int .u64 0, .string ⟨#[]⟩, .slice none 0 0] 35 (0, 0)) := by rw [hw2]; exact alloc2_new w _ _
  have hp := parts_call w2 code cb matched text refs A cp hcb (Kd.C_below hC hb2) hcp hl
  have HP := Lib.hid hp
  have HW2 := Lib.hid hw2
  have HBw2 := Lib.hid hb2
  have HZ := Lib.hid hz
  clear hp hw2 hb2 hz hcb hC
  go_enter Tryz.func10, Tryz.ntmps10
  go_wp2_with fail
  rw [← HW2.out]
  refine HP.out.mono ?_
  rintro e w3 ⟨v, rfl, hR, hb⟩
  have hR1 := Kd.R_newB hR HZ.out
  obtain ⟨A2, c2, rfl, hl2, hC2⟩ := Kd.R_reads hR
  have HR1 := Lib.hid hR1
  have HBw3 := Lib.hid (HBw2.out.trans (hb.mono HBw2.out.size))
  have HZ3 := Lib.hid ((hb.block _ (blockLt HZ.out)).trans HZ.out)
  clear hR hb hC2 hR1
  go_wp2_with fail
  refine (app_call w3 _ _ _ _).mono ?_
  rintro e w4 ⟨rfl, hb⟩
  have HR4 := Lib.hid (Kd.R_below HR1.out hb)
  have HBw4 := Lib.hid (HBw3.out.trans (hb.mono HBw3.out.size))
  have hn2 := (hb.block _ (blockLt HZ3.out)).trans HZ3.out
  have HN2 := Lib.hid hn2
  have f0 := blockFrozen hn2 0
  have f1 := blockFrozen hn2 1
  have f2 := blockFrozen hn2 2
  have f3 := blockFrozen hn2 3
  have f4 := blockFrozen hn2 4
  have k0 := blockCell hn2 0
  have k1 := blockCell hn2 1
  have k2 := blockCell hn2 2
  have k3 := blockCell hn2 3
  have k4 := blockCell hn2 4
  simp only [List.getElem?_toArray, List.getElem?_cons_zero, List.getElem?_cons_succ] at k0 k1 k2 k3 k4
  clear hn2 hb
  go_wp2
  refine bodyPost_ret (results_cell_row rfl _ _ (w.heap.size + 1) 35 _ (0, 0) _ rfl (z5 HN2.out _ _ _ _ _) Tryz.underlying35 rfl (by kernel_rfl)) rfl ?_
  refine ⟨A2, c2, rfl, hl2, ?_, ((((HBw4.out.setCell (Nat.le_succ _) _).setCell (Nat.le_succ _) _).setCell (Nat.le_succ _) _).setCell (Nat.le_succ _) _).setCell (Nat.le_succ _) _⟩
  exact (Kd.R_reads' (Kd.R_far (p := ⟨w.heap.size + 1, 4, none⟩) (Kd.R_far (p := ⟨w.heap.size + 1, 3, none⟩) (Kd.R_far (p := ⟨w.heap.size + 1, 2, none⟩) (Kd.R_far (p := ⟨w.heap.size + 1, 1, none⟩) (Kd.R_far (p := ⟨w.heap.size + 1, 0, none⟩) HR4.out (fun _ hk => hk.2) _) (fun _ hk => hk.2) _) (fun _ hk => hk.2) _) (fun _ hk => hk.2) _) (fun _ hk => hk.2) _)).2.2

theorem lit_two {w : World} {g : Nat} {x y : PFnResultTold.S35} {a0 a1 a2 a3 a4 b0 b1 b2 b3 b4 : Value} {t : TypeId} {fr : Nat × Nat} (hg : w.heap[g]? = some (.cells #[a0, a1, a2, a3, a4, b0, b1, b2, b3, b4] t fr))
    (hx : (PFnResultTold.k35).K w x [a0, a1, a2, a3, a4]) (hy : (PFnResultTold.k35).K w y [b0, b1, b2, b3, b4]) : Kd.C PFnResultTold.k35 w (some ⟨g, 0, none⟩) 2 [x, y] := by
  have hadd : ∀ n, (⟨g, 0, none⟩ : Addr).add n = ⟨g, n, none⟩ := fun n => by unfold Addr.add; split <;> simp_all
  refine ⟨rfl, by decide, fun _ => ⟨_, rfl, fun j p hj => ?_⟩⟩
  match j, hj with
  | 0, hj =>
    simp only [List.getElem?_cons_zero, Option.some.injEq] at hj
    subst hj
    refine ⟨_, rfl, hx, fun i u hu => ?_⟩
    rw [hadd, blockCell hg]
    match i, hu with
    | 0, hu => exact hu
    | 1, hu => exact hu
    | 2, hu => exact hu
    | 3, hu => exact hu
    | 4, hu => exact hu
    | n + 5, hu => simp at hu
  | 1, hj =>
    simp only [List.getElem?_cons_succ, List.getElem?_cons_zero, Option.some.injEq] at hj
    subst hj
    refine ⟨_, rfl, hy, fun i u hu => ?_⟩
    rw [hadd, blockCell hg]
    match i, hu with
    | 0, hu => exact hu
    | 1, hu => exact hu
    | 2, hu => exact hu
    | 3, hu => exact hu
    | 4, hu => exact hu
    | n + 5, hu => simp at hu
  | n + 2, hj => simp at hj

def msgT : Bool × List (List Nat × List Nat) := (true, [([], []), ([0], [0]), ([], []), ([1, 2], [1, 2]), ([3, 1, 0, 1, 2, 3], [3])])
def msgB : List Nat := [0, 1, 0, 7, 15]
theorem msg_tab : rtab .any (opsOf Tryz.f16 1) = msgT := by kernel_rfl
theorem msg_bits : waitsOk msgT.2 msgB = true := by kernel_rfl

set_option maxRecDepth 100000 in
set_option maxHeartbeats 8000000 in
theorem message_call (w : World) (id : Int) (idb : List UInt8) (kind : Nat) (parts : List Ber.Pk) (A : Option Addr) (cp : Nat) (hcb : PFnResultTold.spec_BerInt.f 9 id = some (bs idb)) (hC : Kd.C PFnResultTold.k35 w A parts.length (spSs parts)) (hcp : parts.length ≤ cp) :
    Calls Tryz.prog 16 #[.int .i64 id, .agg #[.int .u8 1, .bool true, .int .u64 (kind : Int), .string ⟨#[]⟩, .slice A parts.length cp], .slice none 0 0] w fun e w' =>
      ∃ A2 c2, e = .returned (.agg #[.int .u8 0, .bool true, .int .u64 16, .string ⟨#[]⟩, .slice A2 2 c2]) ∧ 2 ≤ c2 ∧ Kd.C PFnResultTold.k35 w' A2 2 (spSs [.mk 0 false 2 idb [], .mk 1 true kind [] parts]) ∧ Below w.heap.size w w' := by
  obtain ⟨w2, hw2⟩ : ∃ w2, w2 = (w.alloc (.cells #[.int .u8 1, .bool true, .int .u64 (kind : Int), .string ⟨#[]⟩, .slice A parts.length cp] 35)).alloc (.cells #[.int .u8 0, .bool false, .int .u64 0, .string ⟨#[]⟩, .slice none 0 0] 35) := ⟨_, rfl⟩
  have hb2 : Below w.heap.size w w2 := by rw [hw2]; exact ((Below.refl _ w).alloc (Nat.le_refl _) _).alloc (by simp) _
  have hz : w2.heap[w.heap.size + 1]? = some (.cells #[.int .u8 0, .bool false, .int .u64 0, .string ⟨#[]⟩, .slice none 0 0] 35 (0, 0)) := by rw [hw2]; exact alloc2_new w _ _
  have hy : w2.heap[w.heap.size]? = some (.cells #[.int .u8 1, .bool true, .int .u64 (kind : Int), .string ⟨#[]⟩, .slice A parts.length cp] 35 (0, 0)) := by rw [hw2, Below.heap_alloc _ _ _ (by simp)]; exact heap_alloc_new w _
  have HCB := Lib.hid hcb
  have HC := Lib.hid hC
  have HW2 := Lib.hid hw2
  have HBw2 := Lib.hid hb2
  have HN2 := Lib.hid hz
  have HY2 := Lib.hid hy
  have HCP := Lib.hid hcp
  clear hw2 hb2 hz hcb hC hy hcp
  go_enter Tryz.func16, Tryz.ntmps16
  go_wp2_with fail
  rw [← HW2.out]
  have hlw2 : w.heap.size < w2.heap.size := blockLt HY2.out
  refine start_ (n := 5) (S := fun w' => w'.cell? ⟨w.heap.size, 0, none⟩ = some (.int .u8 1) ∧ w'.cell? ⟨w.heap.size, 1, none⟩ = some (.bool true) ∧ w'.cell? ⟨w.heap.size, 2, none⟩ = some (.int .u64 (kind : Int)) ∧ w'.cell? ⟨w.heap.size, 3, none⟩ = some (.string ⟨#[]⟩) ∧ w'.cell? ⟨w.heap.size, 4, none⟩ = some (.slice A parts.length cp)) (ds := [3]) #[false, false, false, false, false] (by kernel_rfl) rfl rfl ⟨blockCell (w := w2.drew) HY2.out 0, blockCell (w := w2.drew) HY2.out 1, blockCell (w := w2.drew) HY2.out 2, blockCell (w := w2.drew) HY2.out 3, blockCell (w := w2.drew) HY2.out 4⟩ (fun hHeld => ?_)
  refine with_tabW msg_tab msg_bits (fun HT_ HW_ => ?_)
  refine pure_ (i := 0) (N := some 8) (v := ?_) (a' := ?_) #[true, false, false, false, false] rfl rfl (any_of HT_.out (by kernel_rfl)) (fun _ _ _ h => h) (Or.inl ⟨by rfl, ?_⟩) ?_ ?_
  rotate_left
  · intro w'
    go_simp
    with_reducible rfl
  rotate_left
  · simp only [Act.put, List.setIfInBounds_toArray, List.set_cons_zero, List.set_cons_succ]
    rfl
  refine take_ (i := 2) (N := some 10) (v := ?_) (a' := ?_) #[true, false, true, false, false] rfl rfl (take_ofW HT_.out HW_.out (by kernel_rfl)) (fun _ _ _ h => h) (Or.inl ⟨by rfl, ?_⟩) hHeld ?_ ?_
  rotate_left
  · rintro w' ⟨s0, s1, s2, s3, s4⟩
    go_simp
    with_reducible rfl
  rotate_left
  · simp only [Act.put, List.setIfInBounds_toArray, List.set_cons_zero, List.set_cons_succ]
    rfl
  refine one_ (i := 1) (N := some 9) #[true, true, true, false, false] rfl rfl (one_of HT_.out (by kernel_rfl)) (by decide) (fun K hK => ?_)
  refine goes_ Tryz.func27 (by kernel_rfl) rfl #[.int .i64 id] (by rfl) rfl rfl (by (try simp only [List.map_toArray, List.map_cons, List.map_nil]); first | done | rfl) ?_
  refine (integer_call w2.drew id idb HCB.out).mono ?_
  rintro e w3 ⟨rfl, hb⟩
  have hlw3 : w.heap.size < w3.heap.size := Nat.lt_of_lt_of_le hlw2 hb.size
  have hb02 : Below w.heap.size w w3 := HBw2.out.drew.trans (hb.mono HBw2.out.size)
  have HBw3 := Lib.hid hb02
  have hn3 := (hb.block _ (blockLt HN2.out)).trans HN2.out
  have HN3 := Lib.hid hn3
  refine ⟨_, rfl, ?_⟩
  refine hK.out _ _ ⟨(hb.cell hlw2).trans hHeld.1, (hb.cell hlw2).trans hHeld.2.1, (hb.cell hlw2).trans hHeld.2.2.1, (hb.cell hlw2).trans hHeld.2.2.2.1, (hb.cell hlw2).trans hHeld.2.2.2.2⟩ (fun hHeld => ?_)
  clear hb hb02 hn3
  clear hK K
  refine norm_ (a' := ?_) ?_ ?_
  rotate_left
  · show Act.put _ (some 9) _ = _
    simp only [Act.put, List.setIfInBounds_toArray, List.set_cons_zero, List.set_cons_succ]
    rfl
  refine last_ (i := 3) (N := some 11) #[true, true, true, true, false] rfl rfl (one_of HT_.out (by kernel_rfl)) (by decide) (fun K hK => ?_)
  refine value_ (w1 := ?_) (v := ?_) (by rfl) rfl ?_ ?_
  rotate_left 2
  · go_simp
    constructor
    · rfl
    · rfl
  refine hK.out _ _ ?_
  clear hK K
  refine norm_ (a' := ?_) ?_ ?_
  rotate_left
  · show Act.put _ (some 11) _ = _
    simp only [Act.put, List.setIfInBounds_toArray, List.set_cons_zero, List.set_cons_succ]
    rfl
  refine pure_ (i := 4) (N := some 7) (v := ?_) (a' := ?_) #[true, true, true, true, true] rfl rfl (any_of HT_.out (by kernel_rfl)) (fun _ _ _ h => h) (Or.inl ⟨by rfl, ?_⟩) ?_ ?_
  rotate_left
  · intro w'
    go_simp
    with_reducible rfl
  rotate_left
  · simp only [Act.put, List.setIfInBounds_toArray, List.set_cons_zero, List.set_cons_succ]
    rfl
  refine done_ (done_of HT_.out (by kernel_rfl)) ?_
  clear HT_ HW_ hHeld
  obtain ⟨w4, hw4⟩ : ∃ w4, w4 = w3.alloc (.cells #[.int .u8 0, .bool false, .int .u64 2, .string (bs idb), .slice none 0 0, .int .u8 1, .bool true, .int .u64 (kind : Int), .string ⟨#[]⟩, .slice A parts.length cp] 35) := ⟨_, rfl⟩
  have hg4 : w4.heap[w3.heap.size]? = some (.cells #[.int .u8 0, .bool false, .int .u64 2, .string (bs idb), .slice none 0 0, .int .u8 1, .bool true, .int .u64 (kind : Int), .string ⟨#[]⟩, .slice A parts.length cp] 35 (0, 0)) := by rw [hw4]; exact heap_alloc_new w3 _
  have hb4 : Below w3.heap.size w3 w4 := by rw [hw4]; exact (Below.refl _ w3).alloc (Nat.le_refl _) _
  have hn4 := (hb4.block _ (blockLt HN3.out)).trans HN3.out
  have HG4 := Lib.hid hg4
  have HBw4 := Lib.hid (HBw3.out.trans (hb4.mono HBw3.out.size))
  have HN4 := Lib.hid hn4
  have HW4 := Lib.hid hw4
  clear hg4 hb4 hn4 hw4
  rw [← HW4.out]
  go_wp2_with fail
  refine (seq_call w4 _ _ _).mono ?_
  rintro e w5 ⟨rfl, hb⟩
  have hn5 := (hb.block _ (blockLt HN4.out)).trans HN4.out
  have hg5 := (hb.block _ (blockLt HG4.out)).trans HG4.out
  have HN5 := Lib.hid hn5
  have HG5 := Lib.hid hg5
  have HBw5 := Lib.hid (HBw4.out.trans (hb.mono HBw4.out.size))
  have HL4 := Lib.hid (show w.heap.size + 1 < w3.heap.size from blockLt HN3.out)
  have f0 := blockFrozen hn5 0
  have f1 := blockFrozen hn5 1
  have f2 := blockFrozen hn5 2
  have f3 := blockFrozen hn5 3
  have f4 := blockFrozen hn5 4
  have k0 := blockCell hn5 0
  have k1 := blockCell hn5 1
  have k2 := blockCell hn5 2
  have k3 := blockCell hn5 3
  have k4 := blockCell hn5 4
  simp only [List.getElem?_toArray, List.getElem?_cons_zero, List.getElem?_cons_succ] at k0 k1 k2 k3 k4
  clear hn5 hb hg5
  go_wp2
  refine bodyPost_ret (results_cell_row rfl _ _ (w.heap.size + 1) 35 _ (0, 0) _ rfl (z5 HN5.out _ _ _ _ _) Tryz.underlying35 rfl (by kernel_rfl)) rfl ?_
  have hbe := ((((HBw5.out.setCell (p := ⟨w.heap.size + 1, 0, none⟩) (Nat.le_succ _) (.int .u8 0)).setCell (p := ⟨w.heap.size + 1, 1, none⟩) (Nat.le_succ _) (.bool true)).setCell (p := ⟨w.heap.size + 1, 2, none⟩) (Nat.le_succ _) (.int .u64 16)).setCell (p := ⟨w.heap.size + 1, 3, none⟩) (Nat.le_succ _) (.string ⟨#[]⟩)).setCell (p := ⟨w.heap.size + 1, 4, none⟩) (Nat.le_succ _) (.slice (some ⟨w3.heap.size, 0, none⟩) 2 2)
  refine ⟨some ⟨w3.heap.size, 0, none⟩, 2, rfl, Nat.le_refl _, ?_, hbe⟩
  have hne : w3.heap.size ≠ w.heap.size + 1 := by have := HL4.out; omega
  simp only [spSs]
  refine lit_two (g := w3.heap.size) (t := 35) (fr := (0, 0)) (a0 := .int .u8 0) (a1 := .bool false) (a2 := .int .u64 2) (a3 := .string (bs idb)) (a4 := .slice none 0 0) (b0 := .int .u8 1) (b1 := .bool true) (b2 := .int .u64 (kind : Int)) (b3 := .string ⟨#[]⟩) (b4 := .slice A parts.length cp) ?_ ?_ ?_
  · rw [Below.heap_setCell _ _ _ _ hne, Below.heap_setCell _ _ _ _ hne, Below.heap_setCell _ _ _ _ hne, Below.heap_setCell _ _ _ _ hne, Below.heap_setCell _ _ _ _ hne]
    exact HG5.out
  · exact PFnResultTold.k35_mk _ (spS (.mk 0 false 2 idb [])) (A4 := none) (c4 := 0) (by simp [spS, spSs]) (by simp only [spS, spSs]; exact Kd.C_nil _ _)
  · have := PFnResultTold.k35_mk _ (spS (.mk 1 true kind [] parts)) (A4 := A) (c4 := cp) (by simp only [spS, spSs_length]; exact HCP.out) (by simp only [spS, spSs_length]; exact Kd.C_below HC.out hbe)
    simp only [spS, spSs_length] at this ⊢
    exact this
end Go.Proofs.YtdfehaonngccjaaGreatDoor

/- berMessage. -/
namespace Go.Proofs.YtdfehaonngccjaaGreatDoor
open Go Go.RowKit Go.Proofs.YtdfehaonngccjaaGreatDoorW.PrintWords Go.Proofs.YtdfehaonngccjaaGreatDoorW.PrintLast Go.Proofs.YtdfehaonngccjaaGreatDoorW.PrintMore

set_option maxRecDepth 100000 in
set_option maxHeartbeats 8000000 in
theorem berMessage_call (w : World) (id : Int) (idb : List UInt8) (kind : Nat) (parts : List Ber.Pk) (A : Option Addr) (cp : Nat) (hcb : PFnResultTold.spec_BerInt.f 9 id = some (bs idb)) (hC : Kd.C PFnResultTold.k35 w A parts.length (spSs parts)) (hcp : parts.length ≤ cp)
    (ch : List UInt8) (Ac : Option Addr) (cc : Nat) (hch : Kd.C (Kd.int .u8) w Ac ch.length (ch.map fun x => (x.toNat : Int))) (hcl : ch.length ≤ 40) (T : List UInt8) (a2 : Nat) (hT : Ber.forms ch (.mk 0 true 16 [] [.mk 0 false 2 idb [], .mk 1 true kind [] parts]) 0 = (T, a2)) (hok : Ber.OK (.mk 0 true 16 [] [.mk 0 false 2 idb [], .mk 1 true kind [] parts])) (ha2 : a2 ≤ 1000000000) (hTl : T.length ≤ 1000000000) :
    Calls Tryz.prog 9 #[.int .i64 id, .agg #[.int .u8 1, .bool true, .int .u64 (kind : Int), .string ⟨#[]⟩, .slice A parts.length cp], .slice none 0 0, .slice Ac ch.length cc] w fun e w' => e = .returned (.string (bs T)) ∧ Below w.heap.size w w' := by
  obtain ⟨w1, hw1⟩ : ∃ w1, w1 = w.alloc (.cells #[.int .u8 1, .bool true, .int .u64 (kind : Int), .string ⟨#[]⟩, .slice A parts.length cp] 35) := ⟨_, rfl⟩
  have hb1 : Below w.heap.size w w1 := by rw [hw1]; exact (Below.refl _ w).alloc (Nat.le_refl _) _
  have hm := message_call w1 id idb kind parts A cp hcb (Kd.C_below hC hb1) hcp
  have HM := Lib.hid hm
  have HW1 := Lib.hid hw1
  have HBw1 := Lib.hid hb1
  have HCH := Lib.hid hch
  have HCL := Lib.hid hcl
  have HT := Lib.hid hT
  have HOK := Lib.hid hok
  have HA2 := Lib.hid ha2
  have HTL := Lib.hid hTl
  clear hm hw1 hb1 hcb hC hch hcl hT hok ha2 hTl
  go_enter Tryz.func9, Tryz.ntmps9
  go_wp2_with fail
  rw [← HW1.out]
  refine HM.out.mono ?_
  rintro e w2 ⟨A2, c2, rfl, hl2, hC2, hb⟩
  have hbw2 : Below w.heap.size w w2 := HBw1.out.trans (hb.mono HBw1.out.size)
  have hf := berForms_call w2 ch Ac cc (forms_all w2 ch Ac cc (Kd.C_below HCH.out hbw2) (by have := HCL.out; omega)) 0 true 16 [] [.mk 0 false 2 idb [], .mk 1 true kind [] parts] HOK.out A2 c2 T a2 HT.out HA2.out HTL.out hC2 hl2
  have HF := Lib.hid hf
  have HBw2 := Lib.hid hbw2
  clear hf hb hC2 hbw2
  go_wp2_with fail
  refine HF.out.mono ?_
  rintro e w3 ⟨rfl, hb⟩
  have HBw3 := Lib.hid (HBw2.out.trans (hb.mono HBw2.out.size))
  clear hb
  go_wp2
  go_ret
  exact ⟨rfl, HBw3.out⟩
end Go.Proofs.YtdfehaonngccjaaGreatDoor

/- ResultOf: what is told of the bytes of a message with a result. -/
namespace Go.Proofs.YtdfehaonngccjaaGreatDoor
open Go Go.RowKit

set_option maxRecDepth 100000 in
set_option maxHeartbeats 8000000 in
theorem resultOf_zero (N : Nat) (w : World) (s : ByteArray) (hE : Env N w) (hN : N ≤ w.heap.size) (hl : s.size < 1000000000) (f : Nat) (idb : List UInt8) (kind : Nat) (cb matched text : List UInt8) (refs : List (List UInt8))
    (hr : Ber.readP f 0 s.data.toList = .ok (Ber.resPk idb kind cb matched text refs) []) (lo : 0 ≤ parseOf cb) (hi : parseOf cb ≤ 127) (hrl : refs.length ≤ 4) (hc : parseOf cb = 0) :
    Calls Tryz.prog 11 #[.string s] w fun e w' => e = .returned (.tuple #[.agg #[.int .i64 0, .string ⟨#[]⟩, .string ⟨#[]⟩, .string ⟨#[]⟩], .string ⟨#[]⟩]) ∧ Below w.heap.size w w' := by
  obtain ⟨W0, hW0⟩ : ∃ W0, W0 = w.alloc (.cells #[.int .i64 0, .string ⟨#[]⟩, .string ⟨#[]⟩, .string ⟨#[]⟩] 38) := ⟨_, rfl⟩
  have hB0 : Below w.heap.size w W0 := by rw [hW0]; exact (Below.refl _ w).alloc (Nat.le_refl _) _
  have hn : W0.heap[w.heap.size]? = some (.cells #[.int .i64 0, .string ⟨#[]⟩, .string ⟨#[]⟩, .string ⟨#[]⟩] 38 (0, 0)) := by rw [hW0]; exact heap_alloc_new w _
  have hcall := impl_read N W0 s (hE.below hB0 hN) (by have := hB0.size; omega) hl f _ hr (by simp)
  have HCALL := Lib.hid hcall
  have HW0 := Lib.hid hW0
  have HB0 := Lib.hid hB0
  have HN := Lib.hid hn
  have HLO := Lib.hid lo
  have HHI := Lib.hid hi
  have HRL := Lib.hid hrl
  have HC := Lib.hid hc
  clear hB0 hn hW0 hcall hE hr hl lo hi hrl hc
  go_enter Tryz.func11, Tryz.ntmps11
  go_wp2_with fail
  rw [← HW0.out]
  refine HCALL.out.mono ?_
  rintro e w1 ⟨ho, hb⟩
  unfold ImplOut at ho
  simp only [] at ho
  rw [if_pos trivial] at ho
  obtain ⟨q, rfl, hq, hst⟩ := ho
  obtain ⟨q1, a, b, c, C1, n1, cap1, hm, hrf⟩ := res_of_tree hst.now HLO.out HHI.out HRL.out
  have hge := ldapErr_zero w1 q q1 a b c C1 n1 cap1 kind (parseOf cb) ⟨matched.toArray⟩ ⟨text.toArray⟩ hm HC.out
  have HGE := Lib.hid hge
  have HB1 := Lib.hid (HB0.out.trans (hb.mono HB0.out.size))
  have hn1 := (hb.block _ (blockLt HN.out)).trans HN.out
  have HN1 := Lib.hid hn1
  clear hge hb hm hrf hst hq hn1
  go_wp2_with fail
  refine HGE.out.mono ?_
  rintro e w' ⟨rfl, rfl⟩
  go_wp2_with fail
  refine (result_nil w1 q).mono ?_
  rintro e w2 ⟨rfl, hb⟩
  have hn2 := (hb.block _ (blockLt HN1.out)).trans HN1.out
  have HB2 := Lib.hid (HB1.out.trans (hb.mono HB1.out.size))
  clear hb
  have f0 := blockFrozen hn2 0
  have f1 := blockFrozen hn2 1
  have f2 := blockFrozen hn2 2
  have f3 := blockFrozen hn2 3
  have k0 := blockCell hn2 0
  have k1 := blockCell hn2 1
  have k2 := blockCell hn2 2
  have k3 := blockCell hn2 3
  simp only [List.getElem?_toArray, List.getElem?_cons_zero, List.getElem?_cons_succ] at k0 k1 k2 k3
  have HN2 := Lib.hid hn2
  clear hn2
  go_wp2
  refine bodyPost_ret (results_cell_one rfl _ _ w.heap.size 38 _ (0, 0) _ rfl (four_set HN2.out _ _ _ _) Tryz.underlying38 rfl (by kernel_rfl)) rfl ?_
  exact ⟨rfl, (((HB2.out.setCell (Nat.le_refl _) _).setCell (Nat.le_refl _) _).setCell (Nat.le_refl _) _).setCell (Nat.le_refl _) _⟩

set_option maxRecDepth 100000 in
set_option maxHeartbeats 8000000 in
theorem resultOf_some (N : Nat) (w : World) (s : ByteArray) (hE : Env N w) (hN : N ≤ w.heap.size) (hl : s.size < 1000000000) (f : Nat) (idb : List UInt8) (kind : Nat) (cb matched text : List UInt8) (refs : List (List UInt8))
    (hr : Ber.readP f 0 s.data.toList = .ok (Ber.resPk idb kind cb matched text refs) []) (lo : 0 ≤ parseOf cb) (hi : parseOf cb ≤ 127) (hrl : refs.length ≤ 4) (hc : parseOf cb ≠ 0) :
    Calls Tryz.prog 11 #[.string s] w fun e w' => e = .returned (.tuple #[.agg #[.int .i64 (parseOf cb), .string ⟨matched.toArray⟩, .string ⟨text.toArray⟩, .string (if parseOf cb = 10 then ⟨(refs.headD []).toArray⟩ else ⟨#[]⟩)], .string ⟨#[]⟩]) ∧ Below w.heap.size w w' := by
  obtain ⟨W0, hW0⟩ : ∃ W0, W0 = w.alloc (.cells #[.int .i64 0, .string ⟨#[]⟩, .string ⟨#[]⟩, .string ⟨#[]⟩] 38) := ⟨_, rfl⟩
  have hB0 : Below w.heap.size w W0 := by rw [hW0]; exact (Below.refl _ w).alloc (Nat.le_refl _) _
  have hn : W0.heap[w.heap.size]? = some (.cells #[.int .i64 0, .string ⟨#[]⟩, .string ⟨#[]⟩, .string ⟨#[]⟩] 38 (0, 0)) := by rw [hW0]; exact heap_alloc_new w _
  have hcall := impl_read N W0 s (hE.below hB0 hN) (by have := hB0.size; omega) hl f _ hr (by simp)
  have HCALL := Lib.hid hcall
  have HW0 := Lib.hid hW0
  have HB0 := Lib.hid hB0
  have HN := Lib.hid hn
  have HLO := Lib.hid lo
  have HHI := Lib.hid hi
  have HRL := Lib.hid hrl
  have HC := Lib.hid hc
  clear hB0 hn hW0 hcall hE hr hl lo hi hrl hc
  generalize hrr : (if parseOf cb = 10 then (⟨(refs.headD []).toArray⟩ : ByteArray) else ⟨#[]⟩) = rr
  have HRR := Lib.hid hrr
  clear hrr
  go_enter Tryz.func11, Tryz.ntmps11
  go_wp2_with fail
  rw [← HW0.out]
  refine HCALL.out.mono ?_
  rintro e w1 ⟨ho, hb⟩
  unfold ImplOut at ho
  simp only [] at ho
  rw [if_pos trivial] at ho
  obtain ⟨q, rfl, hq, hst⟩ := ho
  obtain ⟨q1, a, b, c, C1, n1, cap1, hm, hrf⟩ := res_of_tree hst.now HLO.out HHI.out HRL.out
  have hge := ldapErr_some w1 q q1 a b c C1 n1 cap1 kind (parseOf cb) ⟨matched.toArray⟩ ⟨text.toArray⟩ hm HC.out
  obtain ⟨hei, hbe⟩ := errIn_new w1 q (parseOf cb) ⟨matched.toArray⟩ ⟨text.toArray⟩
  have hrs := result_some (ErrW w1 q (parseOf cb) ⟨matched.toArray⟩ ⟨text.toArray⟩) (w1.heap.size + 1) q q1 a b c C1 n1 cap1 kind (parseOf cb) ⟨matched.toArray⟩ ⟨text.toArray⟩ ⟨(refs.headD []).toArray⟩ (hm.stays hbe) hei (hrf.stays hbe)
  obtain ⟨we, hwe⟩ : ∃ we, we = ErrW w1 q (parseOf cb) ⟨matched.toArray⟩ ⟨text.toArray⟩ := ⟨_, rfl⟩
  rw [← hwe] at hge hbe hrs
  rw [HRR.out] at hrs
  have HGE := Lib.hid hge
  have HRS := Lib.hid hrs
  have HB1 := Lib.hid ((HB0.out.trans (hb.mono HB0.out.size)).trans (hbe.mono (HB0.out.trans (hb.mono HB0.out.size)).size))
  have hn1 := (hbe.block _ (by have := hb.size; have := blockLt HN.out; omega)).trans ((hb.block _ (blockLt HN.out)).trans HN.out)
  have HN1 := Lib.hid hn1
  clear hge hb hm hrf hst hq hn1 hei hbe hrs hwe
  go_wp2_with fail
  refine HGE.out.mono ?_
  rintro e w' ⟨rfl, rfl⟩
  go_wp2_with fail
  refine HRS.out.mono ?_
  rintro e w2 ⟨rfl, hb⟩
  have hn2 := (hb.block _ (blockLt HN1.out)).trans HN1.out
  have HB2 := Lib.hid (HB1.out.trans (hb.mono HB1.out.size))
  clear hb
  have f0 := blockFrozen hn2 0
  have f1 := blockFrozen hn2 1
  have f2 := blockFrozen hn2 2
  have f3 := blockFrozen hn2 3
  have k0 := blockCell hn2 0
  have k1 := blockCell hn2 1
  have k2 := blockCell hn2 2
  have k3 := blockCell hn2 3
  simp only [List.getElem?_toArray, List.getElem?_cons_zero, List.getElem?_cons_succ] at k0 k1 k2 k3
  have HN2 := Lib.hid hn2
  clear hn2
  go_wp2
  refine bodyPost_ret (results_cell_one rfl _ _ w.heap.size 38 _ (0, 0) _ rfl (four_set HN2.out _ _ _ _) Tryz.underlying38 rfl (by kernel_rfl)) rfl ?_
  exact ⟨rfl, (((HB2.out.setCell (Nat.le_refl _) _).setCell (Nat.le_refl _) _).setCell (Nat.le_refl _) _).setCell (Nat.le_refl _) _⟩

end Go.Proofs.YtdfehaonngccjaaGreatDoor

/- berAwake: an integer is read. -/
namespace Go.Proofs.YtdfehaonngccjaaGreatDoor
open Go Go.RowKit Go.Proofs.YtdfehaonngccjaaGreatDoorW.PrintWords Go.Proofs.YtdfehaonngccjaaGreatDoorW.PrintLast Go.Proofs.YtdfehaonngccjaaGreatDoorW.PrintMore

theorem awake_read : Ber.readP 5 0 (⟨#[2, 1, 7]⟩ : ByteArray).data.toList = .ok (.mk 0 false 2 [7] []) [] := by
  simp [Ber.readP, Ber.header, Ber.ident, Ber.lenOf, Ber.prim, Ber.known]

set_option maxRecDepth 100000 in
set_option maxHeartbeats 4000000 in
theorem awake (N : Nat) (w : World) (hE : Env N w) (hN : N ≤ w.heap.size) :
    Calls Tryz.prog 7 #[] w fun e w' => e = .returned (.bool true) ∧ Below w.heap.size w w' := by
  have hr := ber_read N w ⟨#[2, 1, 7]⟩ hE hN (by decide) 5 _ awake_read (by simp)
  have HR := Lib.hid hr
  clear hr hE
  go_enter Tryz.func7, Tryz.ntmps7
  go_wp2_with fail
  refine HR.out.mono ?_
  rintro e w1 ⟨⟨v4, rfl, hv4⟩, hb⟩
  simp only [toS, toSs] at hv4 ⊢
  obtain ⟨Ao, co, eo⟩ := Kd.R_slice hv4
  subst eo
  have HB := Lib.hid hb
  clear hb hv4
  go_wp2
  go_ret
  exact ⟨rfl, HB.out.alloc HB.out.size _⟩
end Go.Proofs.YtdfehaonngccjaaGreatDoor

/- FnResultTold: the walk. -/
namespace Go.Proofs.YtdfehaonngccjaaGreatDoor
open Go Go.RowKit Go.Proofs.YtdfehaonngccjaaGreatDoorW.PrintWords Go.Proofs.YtdfehaonngccjaaGreatDoorW.PrintLast Go.Proofs.YtdfehaonngccjaaGreatDoorW.PrintMore

def sendT : Bool × List (List Nat × List Nat) := (true,
  [([], []), ([], []), ([], []), ([2], [2]), ([], []), ([4], [4]), ([3, 5], [3, 5]), ([1, 6], [1, 6]), ([7], [7]),
    ([], []), ([8, 9], [8, 9]), ([], []), ([0, 10, 11, 10], [0, 10, 11]),
    ([12, 12, 0, 1, 2, 3, 4, 5, 6, 7, 8, 9, 10, 11, 12], [12])])
def sendB : List Nat := [0, 0, 0, 4, 0, 16, 60, 126, 254, 0, 1022, 0, 4095, 8191]
theorem send_tab : rtab .any (opsOf Tryz.f3 6) = sendT := by kernel_rfl
theorem send_bits : waitsOk sendT.2 sendB = true := by kernel_rfl
def lastT : Bool × List (List Nat × List Nat) := (true,
  [([], []), ([0, 0], [0]), ([1], [1]), ([2, 1], [1, 2]), ([3, 1], [1, 3]), ([4, 1, 1], [1, 4]), ([5], [5]),
    ([6, 5], [5, 6]), ([7, 5], [5, 7]), ([8, 5], [5, 8]), ([5, 9, 1], [1, 5, 9]), ([10, 5, 1], [1, 10]), ([11], [11]),
    ([12, 11], [11, 12]), ([11], [11]), ([14, 11], [11, 14]), ([15, 11], [11, 15]), ([16, 11], [11, 16]),
    ([13, 17, 11], [11, 13, 17]), ([11, 18, 1], [1, 11, 18]), ([1, 19], [1, 19]),
    ([20, 11, 0, 1, 2, 3, 4, 5, 6, 7, 8, 9, 10, 11, 12, 13, 14, 15, 16, 17, 18, 19, 20], [20])])
def lastB : List Nat := [0, 0, 0, 0, 0, 0, 0, 0, 0, 0, 0, 0, 0, 0, 0, 0, 0, 0, 0, 0, 0, 0]
theorem last_tab : rtab .any (opsOf Tryz.f3 14) = lastT := by kernel_rfl
theorem last_bits : waitsOk lastT.2 lastB = true := by kernel_rfl

theorem kinds_at (i : Nat) (hi : i < 8) : ∃ kn : Nat, ([1, 5, 7, 9, 11, 13, 15, 24] : List Int).getD i 0 = (kn : Int) ∧ kn < 30 := by
  rcases (show i = 0 ∨ i = 1 ∨ i = 2 ∨ i = 3 ∨ i = 4 ∨ i = 5 ∨ i = 6 ∨ i = 7 by omega) with rfl | rfl | rfl | rfl | rfl | rfl | rfl | rfl
  · exact ⟨1, rfl, by decide⟩
  · exact ⟨5, rfl, by decide⟩
  · exact ⟨7, rfl, by decide⟩
  · exact ⟨9, rfl, by decide⟩
  · exact ⟨11, rfl, by decide⟩
  · exact ⟨13, rfl, by decide⟩
  · exact ⟨15, rfl, by decide⟩
  · exact ⟨24, rfl, by decide⟩

/-- ResultOf of a message, whatever its code. -/
theorem result_any (N : Nat) (w : World) (hE : Env N w) (hN : N ≤ w.heap.size) (T : List UInt8) (hl : T.length < 1000000000) (f : Nat) (idb : List UInt8) (kn c : Nat) (matched text : List UInt8) (refs : List (List UInt8)) (hc : c ≤ 127)
    (hr : Ber.readP f 0 T = .ok (Ber.resPk idb kn [UInt8.ofNat c] matched text refs) []) (hrl : refs.length ≤ 4) :
    ∃ m t rf : ByteArray, (c ≠ 0 → m = bs matched ∧ t = bs text ∧ (c = 10 → ∀ r0 rest, refs = r0 :: rest → rf = bs r0)) ∧
      Calls Tryz.prog 11 #[.string (bs T)] w fun e w' => e = .returned (.tuple #[.agg #[.int .i64 (c : Int), .string m, .string t, .string rf], .string ⟨#[]⟩]) ∧ Below w.heap.size w w' := by
  have hp := parse_code c hc
  by_cases h0 : c = 0
  · subst h0
    refine ⟨⟨#[]⟩, ⟨#[]⟩, ⟨#[]⟩, fun h => absurd rfl h, ?_⟩
    exact resultOf_zero N w (bs T) hE hN (by rw [bs_size]; exact hl) f idb kn [UInt8.ofNat 0] matched text refs hr (by rw [hp]; omega) (by rw [hp]; omega) hrl hp
  · have := resultOf_some N w (bs T) hE hN (by rw [bs_size]; exact hl) f idb kn [UInt8.ofNat c] matched text refs hr (by rw [hp]; omega) (by rw [hp]; omega) hrl (by rw [hp]; omega)
    rw [hp] at this
    refine ⟨_, _, _, fun _ => ⟨rfl, rfl, fun h10 r0 rest hrefs => ?_⟩, this⟩
    rw [if_pos (by omega), hrefs]
    rfl

set_option maxRecDepth 100000 in
set_option maxHeartbeats 16000000 in
theorem law_result (N : Nat) (w : World) (hE : Env N w) (hN : N ≤ w.heap.size) (id code : Int) (kv : Nat) (hkv : kv < 256) (matched text : List UInt8) (refs : List (List UInt8)) (A : Option Addr) (cp : Nat) (hC : Kd.C Kd.string w A refs.length (refs.map bs)) (hcp : refs.length ≤ cp) (hrmax : refs.length ≤ 9223372036854775807)
    (ch : List UInt8) (Ac : Option Addr) (cc : Nat) (hch : Kd.C (Kd.int .u8) w Ac ch.length (ch.map fun x => (x.toNat : Int))) (hcc : ch.length ≤ cc) :
    Calls Tryz.prog 3 #[.int .i64 id, .int .u8 (kv : Int), .agg #[.int .i64 code, .string (bs matched), .string (bs text), .slice A refs.length cp], .slice Ac ch.length cc] w fun e w' => e = .returned (.bool true) ∧ Below w.heap.size w w' := by
  obtain ⟨w1, hw1⟩ : ∃ w1, w1 = w.alloc (.cells #[.int .i64 code, .string (bs matched), .string (bs text), .slice A refs.length cp] 24) := ⟨_, rfl⟩
  have hb1 : Below w.heap.size w w1 := by rw [hw1]; exact (Below.refl _ w).alloc (Nat.le_refl _) _
  have hy : w1.heap[w.heap.size]? = some (.cells #[.int .i64 code, .string (bs matched), .string (bs text), .slice A refs.length cp] 24 (0, 0)) := by rw [hw1]; exact heap_alloc_new w _
  have hml : (refs.map bs).length = refs.length := List.length_map _
  obtain ⟨r0, k0, hf0⟩ := fits6_f code (bs matched) (bs text) (refs.map bs) (by rw [hml]; exact hrmax)
  have hcall0 := PFnResultTold.laws_zzFits6.calls k0 code (bs matched) (bs text) A cp (refs.map bs) r0 w1 (by rw [hml]; exact Kd.C_below hC hb1) (by rw [hml]; exact hcp) hf0
  rw [hml] at hcall0
  obtain ⟨r1, hf1, hfine⟩ := fine_f id (ch.map fun x => (x.toNat : Int))
  have hchl : (ch.map fun x => (x.toNat : Int)).length = ch.length := List.length_map _
  have hcall1 : ∀ W, Below w.heap.size w W → _ := fun W hW => PFnResultTold.laws_ldapFine.calls id Ac cc (ch.map fun x => (x.toNat : Int)) r1 W (by rw [hchl]; exact Kd.C_below hch hW) (by rw [hchl]; exact hcc) hf1
  obtain ⟨r2, k2, hf2, hres⟩ := resultIs_f code (bs matched) (bs text) (refs.map bs)
  have hcall2 : ∀ W, Below w.heap.size w W → _ := fun W hW => PFnResultTold.spec_LdapResultIs.calls k2 code (bs matched) (bs text) A cp (refs.map bs) r2 W (by rw [hml]; exact Kd.C_below hC hW) (by rw [hml]; exact hcp) hf2
  rw [hchl] at hfine
  have HE := Lib.hid hE
  have HC := Lib.hid hC
  have HCH := Lib.hid hch
  have HW1 := Lib.hid hw1
  have HBw1 := Lib.hid hb1
  have HY1 := Lib.hid hy
  have HC0 := Lib.hid hcall0
  have HC1 : Hid (∀ W, Below w.heap.size w W → Calls Tryz.prog 5 #[.int .i64 id, .slice Ac ch.length cc] W fun e w' => e = .returned (.bool r1) ∧ Drawn0 W w') := Lib.hid (by simpa only [List.length_map] using hcall1)
  have HC2 : Hid (∀ W, Below w.heap.size w W → Calls Tryz.prog 6 #[.agg #[.int .i64 code, .string (bs matched), .string (bs text), .slice A refs.length cp]] W fun e w' => e = .returned (.bool r2) ∧ Below W.heap.size W w') := Lib.hid (by simpa only [List.length_map] using hcall2)
  have HF1 := Lib.hid hfine
  have HF2 := Lib.hid hres
  clear hE hC hch hw1 hb1 hy hcall0 hcall1 hcall2 hfine hres hf0 hf1 hf2 hml hchl
  go_enter Tryz.func3, Tryz.ntmps3
  go_wp2_with fail
  rw [← HW1.out]
  refine HC0.out.mono ?_
  rintro e w2 ⟨rfl, hb⟩
  have HBw2 := Lib.hid (HBw1.out.trans (hb.mono HBw1.out.size))
  have HY2 := Lib.hid ((hb.block _ (blockLt HY1.out)).trans HY1.out)
  clear hb
  cases r0 with
  | false =>
    go_wp2
    go_ret
    exact ⟨rfl, HBw2.out⟩
  | true =>
  by_cases h1 : 2147483647 < ch.length
  · go_wp2
    go_ret
    exact ⟨rfl, HBw2.out⟩
  go_wp2_with fail
  refine (HC1.out w2 HBw2.out).mono ?_
  rintro e w3 ⟨rfl, hdr⟩
  have hb := hdr.below
  have HBw3 := Lib.hid (HBw2.out.trans (hb.mono HBw2.out.size))
  have HY3 := Lib.hid ((hb.block _ (blockLt HY2.out)).trans HY2.out)
  clear hb hdr
  cases r1 with
  | false =>
    go_wp2_with fail
    refine (awake N w3 (HE.out.below HBw3.out hN) (by have := (HBw3.out).size; omega)).mono ?_
    rintro e wz ⟨rfl, hb⟩
    have HB := Lib.hid ((HBw3.out).trans (hb.mono (HBw3.out).size))
    clear hb
    go_wp2
    go_ret
    exact ⟨rfl, HB.out⟩
  | true =>
  have a0 := blockCell (w := w3) HY3.out 0
  have a1 := blockCell (w := w3) HY3.out 1
  have a2 := blockCell (w := w3) HY3.out 2
  have a3 := blockCell (w := w3) HY3.out 3
  simp only [List.getElem?_toArray, List.getElem?_cons_zero, List.getElem?_cons_succ] at a0 a1 a2 a3
  go_wp2_with fail
  refine (HC2.out w3 HBw3.out).mono ?_
  rintro e w4 ⟨rfl, hb⟩
  have HBw4 := Lib.hid (HBw3.out.trans (hb.mono HBw3.out.size))
  have HY4 := Lib.hid ((hb.block _ (blockLt HY3.out)).trans HY3.out)
  clear hb a0 a1 a2 a3
  cases r2 with
  | false =>
    go_wp2_with fail
    refine (awake N w4 (HE.out.below HBw4.out hN) (by have := (HBw4.out).size; omega)).mono ?_
    rintro e wz ⟨rfl, hb⟩
    have HB := Lib.hid ((HBw4.out).trans (hb.mono (HBw4.out).size))
    clear hb
    go_wp2
    go_ret
    exact ⟨rfl, HB.out⟩
  | true =>
  have hok := HF2.out (by first | rfl | trivial)
  have hfi := HF1.out (by first | rfl | trivial)
  obtain ⟨c, rfl⟩ : ∃ c : Nat, code = (c : Int) := ⟨code.toNat, by have := hok.lo; omega⟩
  have hc127 : c ≤ 127 := by have := hok.hi; omega
  obtain ⟨idb, hidb, hidl⟩ := berInt_id id hfi.1 hfi.2.1
  obtain ⟨cb, hcbd⟩ : ∃ cb, cb = [UInt8.ofNat c] := ⟨_, rfl⟩
  have hcb : PFnResultTold.spec_BerInt.f 9 (c : Int) = some (bs cb) := by rw [hcbd]; exact berInt_code c hc127
  obtain ⟨ix, hix⟩ : ∃ ix : Nat, ix = kv % 8 := ⟨_, rfl⟩
  have hix8 : ix < 8 := by omega
  obtain ⟨kn, hkn, hkn30⟩ := kinds_at ix hix8
  have hfew : refs.length ≤ 4 := by have := hok.few; simpa using this
  have hrs : ∀ s ∈ refs, s.length ≤ 60 := fun s hs => by
    obtain ⟨j, hj, rfl⟩ := List.getElem_of_mem hs
    have := hok.r j (by simpa using hj)
    simpa [bs_size] using this
  have hpk := Ber.res_ok idb kn cb matched text refs hidl hkn30 (by rw [hcbd]; simp) (by have := hok.m; rwa [bs_size] at this) (by have := hok.t; rwa [bs_size] at this) hfew hrs
  obtain ⟨T, a2, hT⟩ : ∃ T a2, Ber.forms ch (Ber.resPk idb kn cb matched text refs) 0 = (T, a2) := ⟨_, _, rfl⟩
  have hrf := Ber.read_form ch (Ber.resPk idb kn cb matched text refs) [] hpk.1 hpk.2.1 hpk.2.2
  rw [hT, List.append_nil] at hrf
  simp only [] at hrf
  have HOKP : Hid (Ber.OK (Ber.resPk idb kn cb matched text refs)) := Lib.hid (Ber.ok_of _ 7 hpk.1)
  have hres := fun W hW hW2 => result_any N W (HE.out.below hW hN) hW2 T (by omega) _ idb kn c matched text refs hc127 (by rw [← hcbd]; exact hrf.1) hfew
  have HRES : Hid (∀ W, Below w.heap.size w W → _) := Lib.hid (fun W hW => hres W hW (by have := hW.size; omega))
  have HOK : Hid (ResOK (c : Int) (bs matched) (bs text) (refs.map bs)) := Lib.hid hok
  have HFEW := Lib.hid hfew
  have HFINE := Lib.hid hfi
  have HCB := Lib.hid hcb
  have HIDB := Lib.hid hidb
  have HT := Lib.hid hT
  have HA2 := Lib.hid (show a2 ≤ 1000000000 by have := hrf.2.2.2; omega)
  have HTL := Lib.hid hrf.2.1
  have HKN := Lib.hid hkn
  have hixe : (kv : Int) % 8 = (ix : Int) := by omega
  have hixl : ((ix : Int) < 8) = True := eq_true (by omega)
  have hix0 : (0 ≤ (ix : Int)) = True := eq_true (by omega)
  clear hok hfi hidb hcb hcbd hpk hrf hT hres hkn hfew hrs hix hkn30 hidl
  go_wp2_with fail
  refine (PFnResultTold.spec_LdapKinds.calls [1, 5, 7, 9, 11, 13, 15, 24] w4 rfl).mono ?_
  rintro e w5 ⟨v9, rfl, hR9, hb⟩
  obtain ⟨A9, c9, rfl, -, hC9⟩ := Kd.R_reads hR9
  obtain ⟨ad, c8, rfl, -, hK9, hcell9⟩ := Kd.C_get hC9 0 (ix : Int) (by omega) (by simp only [List.length_cons, List.length_nil]; omega)
  have hkc : w5.cell? (ad.add ix) = some (.int .u64 (kn : Int)) := by
    have h1 : c8 = [.int .u64 (([1, 5, 7, 9, 11, 13, 15, 24] : List Int).getD (ix : Int).toNat 0)] := hK9
    have h2 := hcell9 0 (.int .u64 (kn : Int)) (by rw [h1, Int.toNat_natCast, HKN.out]; rfl)
    have h3 : (ix : Int).toNat * (Kd.int .u64).sz + 0 = ix := by
      show (ix : Int).toNat * 1 + 0 = ix
      omega
    rw [h3] at h2
    exact h2
  have HBw5 := Lib.hid (HBw4.out.trans (hb.mono HBw4.out.size))
  have HY5 := Lib.hid ((hb.block _ (blockLt HY4.out)).trans HY4.out)
  have hlw5 : w.heap.size < w5.heap.size := blockLt HY5.out
  have hlA5 : (ad.add ix).block < w5.heap.size := World.block_lt_of_cell? w5 _ hkc
  have HKC := Lib.hid hkc
  clear hb hR9 hC9 hK9 hcell9 hkc
  have hwr : IntKind.i64.wrap (kv : Int) = (kv : Int) := IntWalk.i64_in _ (by constructor <;> omega)
  have htm : (kv : Int).tmod 8 = (ix : Int) := by rw [Int.tmod_eq_emod_of_nonneg (by omega)]; exact hixe
  simp only [List.length_cons, List.length_nil, Nat.zero_add, Nat.reduceAdd]
  go_wp2_with fail
  refine start_ (n := 14) (S := fun w' => w'.cell? (ad.add ix) = some (.int .u64 (kn : Int)) ∧ w'.cell? ⟨w.heap.size, 0, none⟩ = some (.int .i64 (c : Int)) ∧ w'.cell? ⟨w.heap.size, 1, none⟩ = some (.string (bs matched)) ∧ w'.cell? ⟨w.heap.size, 2, none⟩ = some (.string (bs text)) ∧ w'.cell? ⟨w.heap.size, 3, none⟩ = some (.slice A refs.length cp)) (ds := []) #[false, false, false, false, false, false, false, false, false, false, false, false, false, false] (by kernel_rfl) rfl rfl ⟨HKC.out, blockCell (w := w5.drew) HY5.out 0, blockCell (w := w5.drew) HY5.out 1, blockCell (w := w5.drew) HY5.out 2, blockCell (w := w5.drew) HY5.out 3⟩ (fun hHeld => ?_)
  refine with_tabW send_tab send_bits (fun HT_ HW_ => ?_)
  refine pure_ (i := 0) (N := some 32) (v := ?_) (a' := ?_) #[true, false, false, false, false, false, false, false, false, false, false, false, false, false] rfl rfl (any_of HT_.out (by kernel_rfl)) (fun _ _ _ h => h) (Or.inl ⟨by rfl, ?_⟩) ?_ ?_
  rotate_left
  · intro w'
    go_simp
    with_reducible rfl
  rotate_left
  · simp only [Act.put, List.setIfInBounds_toArray, List.set_cons_zero, List.set_cons_succ]
    rfl
  refine pure_ (i := 1) (N := some 33) (v := ?_) (a' := ?_) #[true, true, false, false, false, false, false, false, false, false, false, false, false, false] rfl rfl (any_of HT_.out (by kernel_rfl)) (fun _ _ _ h => h) (Or.inl ⟨by rfl, ?_⟩) ?_ ?_
  rotate_left
  · intro w'
    go_simp
    with_reducible rfl
  rotate_left
  · simp only [Act.put, List.setIfInBounds_toArray, List.set_cons_zero, List.set_cons_succ]
    rfl
  refine pure_ (i := 2) (N := some 34) (v := ?_) (a' := ?_) #[true, true, true, false, false, false, false, false, false, false, false, false, false, false] rfl rfl (any_of HT_.out (by kernel_rfl)) (fun _ _ _ h => h) (Or.inl ⟨by rfl, ?_⟩) ?_ ?_
  rotate_left
  · intro w'
    go_simp
    with_reducible rfl
  rotate_left
  · simp only [Act.put, List.setIfInBounds_toArray, List.set_cons_zero, List.set_cons_succ]
    rfl
  refine pure_ (i := 3) (N := some 35) (v := ?_) (a' := ?_) #[true, true, true, true, false, false, false, false, false, false, false, false, false, false] rfl rfl (any_of HT_.out (by kernel_rfl)) (fun _ _ _ h => h) (Or.inl ⟨by rfl, ?_⟩) ?_ ?_
  rotate_left
  · intro w'
    go_simp
    with_reducible rfl
  rotate_left
  · simp only [Act.put, List.setIfInBounds_toArray, List.set_cons_zero, List.set_cons_succ]
    rfl
  refine pure_ (i := 4) (N := some 36) (v := ?_) (a' := ?_) #[true, true, true, true, true, false, false, false, false, false, false, false, false, false] rfl rfl (any_of HT_.out (by kernel_rfl)) (fun _ _ _ h => h) (Or.inl ⟨by rfl, ?_⟩) ?_ ?_
  rotate_left
  · intro w'
    go_simp
    with_reducible rfl
  rotate_left
  · simp only [Act.put, List.setIfInBounds_toArray, List.set_cons_zero, List.set_cons_succ]
    rfl
  refine pure_ (i := 5) (N := some 37) (v := ?_) (a' := ?_) #[true, true, true, true, true, true, false, false, false, false, false, false, false, false] rfl rfl (any_of HT_.out (by kernel_rfl)) (fun _ _ _ h => h) (Or.inl ⟨by rfl, ?_⟩) ?_ ?_
  rotate_left
  · intro w'
    go_simp
    with_reducible rfl
  rotate_left
  · simp only [Act.put, List.setIfInBounds_toArray, List.set_cons_zero, List.set_cons_succ]
    rfl
  refine pure_ (i := 6) (N := some 38) (v := ?_) (a' := ?_) #[true, true, true, true, true, true, true, false, false, false, false, false, false, false] rfl rfl (any_of HT_.out (by kernel_rfl)) (fun _ _ _ h => h) (Or.inl ⟨by rfl, ?_⟩) ?_ ?_
  rotate_left
  · intro w'
    go_simp
    with_reducible rfl
  rotate_left
  · simp only [Act.put, List.setIfInBounds_toArray, List.set_cons_zero, List.set_cons_succ]
    rfl
  refine pure_ (i := 7) (N := some 39) (v := ?_) (a' := ?_) #[true, true, true, true, true, true, true, true, false, false, false, false, false, false] rfl rfl (any_of HT_.out (by kernel_rfl)) (fun _ _ _ h => h) (Or.inl ⟨by rfl, ?_⟩) ?_ ?_
  rotate_left
  · intro w'
    go_simp
    with_reducible rfl
  rotate_left
  · simp only [Act.put, List.setIfInBounds_toArray, List.set_cons_zero, List.set_cons_succ]
    rfl
  refine take_ (i := 8) (N := some 40) (v := ?_) (a' := ?_) #[true, true, true, true, true, true, true, true, true, false, false, false, false, false] rfl rfl (take_ofW HT_.out HW_.out (by kernel_rfl)) (fun _ _ _ h => h) (Or.inl ⟨by rfl, ?_⟩) hHeld ?_ ?_
  rotate_left
  · rintro w' ⟨s0, s1, s2, s3, s4⟩
    go_simp
    with_reducible rfl
  rotate_left
  · simp only [Act.put, List.setIfInBounds_toArray, List.set_cons_zero, List.set_cons_succ]
    rfl
  refine take_ (i := 9) (N := some 41) (v := ?_) (a' := ?_) #[true, true, true, true, true, true, true, true, true, true, false, false, false, false] rfl rfl (take_ofW HT_.out HW_.out (by kernel_rfl)) (fun _ _ _ h => h) (Or.inl ⟨by rfl, ?_⟩) hHeld ?_ ?_
  rotate_left
  · rintro w' ⟨s0, s1, s2, s3, s4⟩
    go_simp
    with_reducible rfl
  rotate_left
  · simp only [Act.put, List.setIfInBounds_toArray, List.set_cons_zero, List.set_cons_succ]
    rfl
  refine pure_ (i := 11) (N := some 43) (v := ?_) (a' := ?_) #[true, true, true, true, true, true, true, true, true, true, false, true, false, false] rfl rfl (any_of HT_.out (by kernel_rfl)) (fun _ _ _ h => h) (Or.inl ⟨by rfl, ?_⟩) ?_ ?_
  rotate_left
  · intro w'
    go_simp
    with_reducible rfl
  rotate_left
  · simp only [Act.put, List.setIfInBounds_toArray, List.set_cons_zero, List.set_cons_succ]
    rfl
  refine one_ (i := 10) (N := some 42) #[true, true, true, true, true, true, true, true, true, true, true, true, false, false] rfl rfl (one_of HT_.out (by kernel_rfl)) (by decide) (fun K hK => ?_)
  refine goes_ Tryz.func10 (by kernel_rfl) rfl #[.int .u64 (kn : Int), .agg #[.int .i64 (c : Int), .string (bs matched), .string (bs text), .slice A refs.length cp]] (by rfl) rfl rfl (by (try simp only [List.map_toArray, List.map_cons, List.map_nil]); first | done | rfl) ?_
  refine (answer_call w5.drew kn c cb matched text refs A cp HCB.out (Kd.C_below HC.out HBw5.out.drew) hcp HFEW.out).mono ?_
  rintro e w6 ⟨A6, c6, rfl, hl6, hC6, hb⟩
  rw [spSs_length] at hl6 hC6
  simp only [spSs_length]
  have hlA6 : (ad.add ix).block < w6.heap.size := Nat.lt_of_lt_of_le hlA5 hb.size
  have hlw6 : w.heap.size < w6.heap.size := Nat.lt_of_lt_of_le hlw5 hb.size
  have HBw6 := Lib.hid (HBw5.out.drew.trans (hb.mono HBw5.out.size))
  have HY6 := Lib.hid ((hb.block _ hlw5).trans HY5.out)
  have HC6 := Lib.hid hC6
  have HL6 := Lib.hid hl6
  refine ⟨_, rfl, ?_⟩
  refine hK.out _ _ ⟨(hb.cell hlA5).trans hHeld.1, (hb.cell hlw5).trans hHeld.2.1, (hb.cell hlw5).trans hHeld.2.2.1, (hb.cell hlw5).trans hHeld.2.2.2.1, (hb.cell hlw5).trans hHeld.2.2.2.2⟩ (fun hHeld => ?_)
  clear hb hC6 hl6
  clear hK K
  refine norm_ (a' := ?_) ?_ ?_
  rotate_left
  · show Act.put _ (some 42) _ = _
    simp only [Act.put, List.setIfInBounds_toArray, List.set_cons_zero, List.set_cons_succ]
    rfl
  refine one_ (i := 12) (N := some 44) #[true, true, true, true, true, true, true, true, true, true, true, true, true, false] rfl rfl (one_of HT_.out (by kernel_rfl)) (by decide) (fun K hK => ?_)
  refine goes_ Tryz.func9 (by kernel_rfl) rfl #[.int .i64 id, .agg #[.int .u8 1, .bool true, .int .u64 (kn : Int), .string ⟨#[]⟩, .slice A6 (Ber.partPks cb matched text refs).length c6], .slice none 0 0, .slice Ac ch.length cc] (by rfl) rfl rfl (by (try simp only [List.map_toArray, List.map_cons, List.map_nil]); first | done | rfl) ?_
  refine (berMessage_call w6 id idb kn (Ber.partPks cb matched text refs) A6 c6 HIDB.out HC6.out HL6.out ch Ac cc (Kd.C_below HCH.out HBw6.out) HFINE.out.2.2 T a2 HT.out HOKP.out HA2.out (by have := HTL.out; omega)).mono ?_
  rintro e w7 ⟨rfl, hb⟩
  have HBw7 := Lib.hid (HBw6.out.trans (hb.mono HBw6.out.size))
  have HY7 := Lib.hid ((hb.block _ hlw6).trans HY6.out)
  refine ⟨_, rfl, ?_⟩
  refine hK.out _ _ ⟨(hb.cell hlA6).trans hHeld.1, (hb.cell hlw6).trans hHeld.2.1, (hb.cell hlw6).trans hHeld.2.2.1, (hb.cell hlw6).trans hHeld.2.2.2.1, (hb.cell hlw6).trans hHeld.2.2.2.2⟩ (fun hHeld => ?_)
  clear hb
  clear hK K
  refine norm_ (a' := ?_) ?_ ?_
  rotate_left
  · show Act.put _ (some 44) _ = _
    simp only [Act.put, List.setIfInBounds_toArray, List.set_cons_zero, List.set_cons_succ]
    rfl
  refine pure_ (i := 13) (N := some 10) (v := ?_) (a' := ?_) #[true, true, true, true, true, true, true, true, true, true, true, true, true, true] rfl rfl (any_of HT_.out (by kernel_rfl)) (fun _ _ _ h => h) (Or.inl ⟨by rfl, ?_⟩) ?_ ?_
  rotate_left
  · intro w'
    go_simp
    with_reducible rfl
  rotate_left
  · simp only [Act.put, List.setIfInBounds_toArray, List.set_cons_zero, List.set_cons_succ]
    rfl
  refine done_ (done_of HT_.out (by kernel_rfl)) ?_
  clear HT_ HW_ hHeld hwr htm
  obtain ⟨m, t, rf, hmt, hcallR⟩ := HRES.out w7 HBw7.out
  have HMT := Lib.hid hmt
  have HCR := Lib.hid hcallR
  clear hmt hcallR
  go_wp2_with fail
  refine HCR.out.mono ?_
  rintro e w8 ⟨rfl, hb⟩
  obtain ⟨w9, hw9⟩ : ∃ w9, w9 = w8.alloc (.cells #[.int .i64 (c : Int), .string m, .string t, .string rf] 38) := ⟨_, rfl⟩
  have hb9 : Below w8.heap.size w8 w9 := by rw [hw9]; exact (Below.refl _ w8).alloc (Nat.le_refl _) _
  have hx9 : w9.heap[w8.heap.size]? = some (.cells #[.int .i64 (c : Int), .string m, .string t, .string rf] 38 (0, 0)) := by rw [hw9]; exact heap_alloc_new w8 _
  have hy8 := (hb.block _ (blockLt HY7.out)).trans HY7.out
  have hy9 := (hb9.block _ (blockLt hy8)).trans hy8
  have HBw8 := Lib.hid (HBw7.out.trans (hb.mono HBw7.out.size))
  have HBw9 := Lib.hid (HBw8.out.trans (hb9.mono HBw8.out.size))
  have HW9 := Lib.hid hw9
  have HX9 := Lib.hid hx9
  have HY9 := Lib.hid hy9
  have x0 := blockCell (w := w9) hx9 0
  have x1 := blockCell (w := w9) hx9 1
  have x2 := blockCell (w := w9) hx9 2
  have x3 := blockCell (w := w9) hx9 3
  simp only [List.getElem?_toArray, List.getElem?_cons_zero, List.getElem?_cons_succ] at x0 x1 x2 x3
  have y0 := blockCell (w := w9) hy9 0
  have y1 := blockCell (w := w9) hy9 1
  have y2 := blockCell (w := w9) hy9 2
  have y3 := blockCell (w := w9) hy9 3
  simp only [List.getElem?_toArray, List.getElem?_cons_zero, List.getElem?_cons_succ] at y0 y1 y2 y3
  clear hb hb9 hw9 hx9 hy8 hy9
  go_upto_region 8 with (fail)
  rw [← HW9.out]
  by_cases h0 : c = 0
  · have hcz : ((c : Int) == 0) = true := by rw [h0]; rfl
    clear h0
    go_wp2_with fail
    refine (awake N w9 (HE.out.below HBw9.out hN) (by have := HBw9.out.size; omega)).mono ?_
    rintro e wz ⟨rfl, hb⟩
    have HB := Lib.hid (HBw9.out.trans (hb.mono HBw9.out.size))
    clear hb
    go_wp2
    go_ret
    exact ⟨rfl, HB.out⟩
  obtain ⟨rfl, rfl, hrf⟩ := HMT.out h0
  have HRF := Lib.hid hrf
  have hcz : ((c : Int) == 0) = false := by rw [beq_eq_false_iff_ne]; omega
  clear hrf
  go_wp2_with fail
  have hlX9 : w8.heap.size < w9.drew.heap.size := blockLt HX9.out
  have hlw9 : w.heap.size < w9.drew.heap.size := blockLt HY9.out
  by_cases h10 : c = 10
  · have hcn : ((c : Int) != 10) = false := by rw [h10]; rfl
    by_cases hr0 : refs = []
    · have hl0 : ((refs.length : Int) == 0) = true := by rw [hr0]; rfl
      clear hr0 h10
      refine start_ (n := 22) (S := fun w' => w'.cell? ⟨w8.heap.size, 0, none⟩ = some (.int .i64 (c : Int)) ∧ w'.cell? ⟨w8.heap.size, 1, none⟩ = some (.string (bs matched)) ∧ w'.cell? ⟨w8.heap.size, 2, none⟩ = some (.string (bs text)) ∧ w'.cell? ⟨w8.heap.size, 3, none⟩ = some (.string rf) ∧ w'.cell? ⟨w.heap.size, 0, none⟩ = some (.int .i64 (c : Int)) ∧ w'.cell? ⟨w.heap.size, 1, none⟩ = some (.string (bs matched)) ∧ w'.cell? ⟨w.heap.size, 2, none⟩ = some (.string (bs text)) ∧ w'.cell? ⟨w.heap.size, 3, none⟩ = some (.slice A refs.length cp)) (ds := []) #[false, false, false, false, false, false, false, false, false, false, false, false, false, false, false, false, false, false, false, false, false, false] (by kernel_rfl) rfl rfl ⟨blockCell (w := w9.drew) HX9.out 0, blockCell (w := w9.drew) HX9.out 1, blockCell (w := w9.drew) HX9.out 2, blockCell (w := w9.drew) HX9.out 3, blockCell (w := w9.drew) HY9.out 0, blockCell (w := w9.drew) HY9.out 1, blockCell (w := w9.drew) HY9.out 2, blockCell (w := w9.drew) HY9.out 3⟩ (fun hHeld => ?_)
      refine with_tabW last_tab last_bits (fun HT_ HW_ => ?_)
      refine one_ (i := 0) (N := some 75) #[true, false, false, false, false, false, false, false, false, false, false, false, false, false, false, false, false, false, false, false, false, false] rfl rfl (one_of HT_.out (by kernel_rfl)) (by decide) (fun K hK => ?_)
      refine goes_ Tryz.func7 (by kernel_rfl) rfl #[] (by rfl) rfl rfl (by (try simp only [List.map_toArray, List.map_cons, List.map_nil]); first | done | rfl) ?_
      refine (awake N w9.drew (HE.out.below HBw9.out.drew hN) (by have := HBw9.out.size; simp; omega)).mono ?_
      rintro e w10 ⟨rfl, hb⟩
      have HBw10 := Lib.hid (HBw9.out.drew.trans (hb.mono HBw9.out.size))
      refine ⟨_, rfl, ?_⟩
      refine hK.out _ _ ⟨(hb.cell hlX9).trans hHeld.1, (hb.cell hlX9).trans hHeld.2.1, (hb.cell hlX9).trans hHeld.2.2.1, (hb.cell hlX9).trans hHeld.2.2.2.1, (hb.cell hlw9).trans hHeld.2.2.2.2.1, (hb.cell hlw9).trans hHeld.2.2.2.2.2.1, (hb.cell hlw9).trans hHeld.2.2.2.2.2.2.1, (hb.cell hlw9).trans hHeld.2.2.2.2.2.2.2⟩ (fun hHeld => ?_)
      clear hb
      clear hK K
      refine norm_ (a' := ?_) ?_ ?_
      rotate_left
      · show Act.put _ (some 75) _ = _
        simp only [Act.put, List.setIfInBounds_toArray, List.set_cons_zero, List.set_cons_succ]
        rfl
      refine pure_ (i := 1) (N := some 76) (v := ?_) (a' := ?_) #[true, true, false, false, false, false, false, false, false, false, false, false, false, false, false, false, false, false, false, false, false, false] rfl rfl (any_of HT_.out (by kernel_rfl)) (fun _ _ _ h => h) (Or.inl ⟨by rfl, ?_⟩) ?_ ?_
      rotate_left
      · intro w'
        go_simp
        with_reducible rfl
      rotate_left
      · simp only [Act.put, List.setIfInBounds_toArray, List.set_cons_zero, List.set_cons_succ]
        rfl
      refine pure_ (i := 2) (N := some 77) (v := ?_) (a' := ?_) #[true, true, true, false, false, false, false, false, false, false, false, false, false, false, false, false, false, false, false, false, false, false] rfl rfl (any_of HT_.out (by kernel_rfl)) (fun _ _ _ h => h) (Or.inl ⟨by rfl, ?_⟩) ?_ ?_
      rotate_left
      · intro w'
        go_simp
        with_reducible rfl
      rotate_left
      · simp only [Act.put, List.setIfInBounds_toArray, List.set_cons_zero, List.set_cons_succ]
        rfl
      refine take_ (i := 3) (N := some 78) (v := ?_) (a' := ?_) #[true, true, true, true, false, false, false, false, false, false, false, false, false, false, false, false, false, false, false, false, false, false] rfl rfl (take_ofW HT_.out HW_.out (by kernel_rfl)) (fun _ _ _ h => h) (Or.inl ⟨by rfl, ?_⟩) hHeld ?_ ?_
      rotate_left
      · rintro w' ⟨-, -, -, -, s4, -, -, -⟩
        go_simp
        with_reducible rfl
      rotate_left
      · simp only [Act.put, List.setIfInBounds_toArray, List.set_cons_zero, List.set_cons_succ]
        rfl
      refine pure_ (i := 4) (N := some 79) (v := ?_) (a' := ?_) #[true, true, true, true, true, false, false, false, false, false, false, false, false, false, false, false, false, false, false, false, false, false] rfl rfl (any_of HT_.out (by kernel_rfl)) (fun _ _ _ h => h) (Or.inl ⟨by rfl, ?_⟩) ?_ ?_
      rotate_left
      · intro w'
        go_simp
        with_reducible rfl
      rotate_left
      · simp only [Act.put, List.setIfInBounds_toArray, List.set_cons_zero, List.set_cons_succ]
        rfl
      refine pure_ (i := 5) (N := some 80) (v := ?_) (a' := ?_) #[true, true, true, true, true, true, false, false, false, false, false, false, false, false, false, false, false, false, false, false, false, false] rfl rfl (any_of HT_.out (by kernel_rfl)) (fun _ _ _ h => h) (Or.inl ⟨by rfl, ?_⟩) ?_ ?_
      rotate_left
      · intro w'
        go_simp
        with_reducible rfl
      rotate_left
      · simp only [Act.put, List.setIfInBounds_toArray, List.set_cons_zero, List.set_cons_succ]
        rfl
      refine pure_ (i := 6) (N := some 81) (v := ?_) (a' := ?_) #[true, true, true, true, true, true, true, false, false, false, false, false, false, false, false, false, false, false, false, false, false, false] rfl rfl (any_of HT_.out (by kernel_rfl)) (fun _ _ _ h => h) (Or.inl ⟨by rfl, ?_⟩) ?_ ?_
      rotate_left
      · intro w'
        go_simp
        with_reducible rfl
      rotate_left
      · simp only [Act.put, List.setIfInBounds_toArray, List.set_cons_zero, List.set_cons_succ]
        rfl
      refine take_ (i := 7) (N := some 82) (v := ?_) (a' := ?_) #[true, true, true, true, true, true, true, true, false, false, false, false, false, false, false, false, false, false, false, false, false, false] rfl rfl (take_ofW HT_.out HW_.out (by kernel_rfl)) (fun _ _ _ h => h) (Or.inl ⟨by rfl, ?_⟩) hHeld ?_ ?_
      rotate_left
      · rintro w' ⟨-, -, -, -, -, -, -, s7⟩
        go_simp
        with_reducible rfl
      rotate_left
      · simp only [Act.put, List.setIfInBounds_toArray, List.set_cons_zero, List.set_cons_succ]
        rfl
      refine pure_ (i := 8) (N := some 83) (v := ?_) (a' := ?_) #[true, true, true, true, true, true, true, true, true, false, false, false, false, false, false, false, false, false, false, false, false, false] rfl rfl (any_of HT_.out (by kernel_rfl)) (fun _ _ _ h => h) (Or.inl ⟨by rfl, ?_⟩) ?_ ?_
      rotate_left
      · intro w'
        go_simp
        with_reducible rfl
      rotate_left
      · simp only [Act.put, List.setIfInBounds_toArray, List.set_cons_zero, List.set_cons_succ]
        rfl
      refine pure_ (i := 9) (N := some 84) (v := ?_) (a' := ?_) #[true, true, true, true, true, true, true, true, true, true, false, false, false, false, false, false, false, false, false, false, false, false] rfl rfl (any_of HT_.out (by kernel_rfl)) (fun _ _ _ h => h) (Or.inl ⟨by rfl, ?_⟩) ?_ ?_
      rotate_left
      · intro w'
        go_simp
        with_reducible rfl
      rotate_left
      · simp only [Act.put, List.setIfInBounds_toArray, List.set_cons_zero, List.set_cons_succ]
        rfl
      refine pure_ (i := 10) (N := some 85) (v := ?_) (a' := ?_) #[true, true, true, true, true, true, true, true, true, true, true, false, false, false, false, false, false, false, false, false, false, false] rfl rfl (any_of HT_.out (by kernel_rfl)) (fun _ _ _ h => h) (Or.inl ⟨by rfl, ?_⟩) ?_ ?_
      rotate_left
      · intro w'
        go_simp
        with_reducible rfl
      rotate_left
      · simp only [Act.put, List.setIfInBounds_toArray, List.set_cons_zero, List.set_cons_succ]
        rfl
      refine pure_ (i := 11) (N := some 86) (v := ?_) (a' := ?_) #[true, true, true, true, true, true, true, true, true, true, true, true, false, false, false, false, false, false, false, false, false, false] rfl rfl (any_of HT_.out (by kernel_rfl)) (fun _ _ _ h => h) (Or.inl ⟨by rfl, ?_⟩) ?_ ?_
      rotate_left
      · intro w'
        go_simp
        with_reducible rfl
      rotate_left
      · simp only [Act.put, List.setIfInBounds_toArray, List.set_cons_zero, List.set_cons_succ]
        rfl
      refine pure_ (i := 12) (N := some 87) (v := undef) (a' := _) #[true, true, true, true, true, true, true, true, true, true, true, true, true, false, false, false, false, false, false, false, false, false] rfl rfl (any_of HT_.out (by kernel_rfl)) (fun _ _ _ h => h) (Or.inr ⟨by rfl, rfl⟩) rfl ?_
      refine norm_ (a' := ?_) ?_ ?_
      rotate_left
      · show Act.put _ (some 87) _ = _
        simp only [Act.put, List.setIfInBounds_toArray, List.set_cons_zero, List.set_cons_succ]
        rfl
      refine pure_ (i := 13) (N := some 88) (v := undef) (a' := _) #[true, true, true, true, true, true, true, true, true, true, true, true, true, true, false, false, false, false, false, false, false, false] rfl rfl (any_of HT_.out (by kernel_rfl)) (fun _ _ _ h => h) (Or.inr ⟨by rfl, rfl⟩) rfl ?_
      refine norm_ (a' := ?_) ?_ ?_
      rotate_left
      · show Act.put _ (some 88) _ = _
        simp only [Act.put, List.setIfInBounds_toArray, List.set_cons_zero, List.set_cons_succ]
        rfl
      refine pure_ (i := 14) (N := some 89) (v := undef) (a' := _) #[true, true, true, true, true, true, true, true, true, true, true, true, true, true, true, false, false, false, false, false, false, false] rfl rfl (any_of HT_.out (by kernel_rfl)) (fun _ _ _ h => h) (Or.inr ⟨by rfl, rfl⟩) rfl ?_
      refine norm_ (a' := ?_) ?_ ?_
      rotate_left
      · show Act.put _ (some 89) _ = _
        simp only [Act.put, List.setIfInBounds_toArray, List.set_cons_zero, List.set_cons_succ]
        rfl
      refine pure_ (i := 15) (N := some 90) (v := undef) (a' := _) #[true, true, true, true, true, true, true, true, true, true, true, true, true, true, true, true, false, false, false, false, false, false] rfl rfl (any_of HT_.out (by kernel_rfl)) (fun _ _ _ h => h) (Or.inr ⟨by rfl, rfl⟩) rfl ?_
      refine norm_ (a' := ?_) ?_ ?_
      rotate_left
      · show Act.put _ (some 90) _ = _
        simp only [Act.put, List.setIfInBounds_toArray, List.set_cons_zero, List.set_cons_succ]
        rfl
      refine pure_ (i := 16) (N := some 91) (v := undef) (a' := _) #[true, true, true, true, true, true, true, true, true, true, true, true, true, true, true, true, true, false, false, false, false, false] rfl rfl (any_of HT_.out (by kernel_rfl)) (fun _ _ _ h => h) (Or.inr ⟨by rfl, rfl⟩) rfl ?_
      refine norm_ (a' := ?_) ?_ ?_
      rotate_left
      · show Act.put _ (some 91) _ = _
        simp only [Act.put, List.setIfInBounds_toArray, List.set_cons_zero, List.set_cons_succ]
        rfl
      refine pure_ (i := 17) (N := some 92) (v := undef) (a' := _) #[true, true, true, true, true, true, true, true, true, true, true, true, true, true, true, true, true, true, false, false, false, false] rfl rfl (any_of HT_.out (by kernel_rfl)) (fun _ _ _ h => h) (Or.inr ⟨by rfl, rfl⟩) rfl ?_
      refine norm_ (a' := ?_) ?_ ?_
      rotate_left
      · show Act.put _ (some 92) _ = _
        simp only [Act.put, List.setIfInBounds_toArray, List.set_cons_zero, List.set_cons_succ]
        rfl
      refine pure_ (i := 18) (N := some 93) (v := undef) (a' := _) #[true, true, true, true, true, true, true, true, true, true, true, true, true, true, true, true, true, true, true, false, false, false] rfl rfl (any_of HT_.out (by kernel_rfl)) (fun _ _ _ h => h) (Or.inr ⟨by rfl, rfl⟩) rfl ?_
      refine norm_ (a' := ?_) ?_ ?_
      rotate_left
      · show Act.put _ (some 93) _ = _
        simp only [Act.put, List.setIfInBounds_toArray, List.set_cons_zero, List.set_cons_succ]
        rfl
      refine pure_ (i := 19) (N := some 94) (v := ?_) (a' := ?_) #[true, true, true, true, true, true, true, true, true, true, true, true, true, true, true, true, true, true, true, true, false, false] rfl rfl (any_of HT_.out (by kernel_rfl)) (fun _ _ _ h => h) (Or.inl ⟨by rfl, ?_⟩) ?_ ?_
      rotate_left
      · intro w'
        go_simp
        with_reducible rfl
      rotate_left
      · simp only [Act.put, List.setIfInBounds_toArray, List.set_cons_zero, List.set_cons_succ]
        rfl
      refine pure_ (i := 20) (N := some 95) (v := ?_) (a' := ?_) #[true, true, true, true, true, true, true, true, true, true, true, true, true, true, true, true, true, true, true, true, true, false] rfl rfl (any_of HT_.out (by kernel_rfl)) (fun _ _ _ h => h) (Or.inl ⟨by rfl, ?_⟩) ?_ ?_
      rotate_left
      · intro w'
        go_simp
        with_reducible rfl
      rotate_left
      · simp only [Act.put, List.setIfInBounds_toArray, List.set_cons_zero, List.set_cons_succ]
        rfl
      refine pure_ (i := 21) (N := some 8) (v := ?_) (a' := ?_) #[true, true, true, true, true, true, true, true, true, true, true, true, true, true, true, true, true, true, true, true, true, true] rfl rfl (any_of HT_.out (by kernel_rfl)) (fun _ _ _ h => h) (Or.inl ⟨by rfl, ?_⟩) ?_ ?_
      rotate_left
      · intro w'
        go_simp
        with_reducible rfl
      rotate_left
      · simp only [Act.put, List.setIfInBounds_toArray, List.set_cons_zero, List.set_cons_succ]
        rfl
      refine done_ (done_of HT_.out (by kernel_rfl)) ?_
      clear HT_ HW_ hHeld
      go_wp2
      go_ret
      exact ⟨rfl, HBw10.out⟩
    · obtain ⟨r0, rest, hrefs⟩ : ∃ r0 rest, refs = r0 :: rest := by
        cases refs with
        | nil => exact absurd rfl hr0
        | cons a b => exact ⟨a, b, rfl⟩
      have hpos : 0 < refs.length := by rw [hrefs]; simp
      have hl0 : ((refs.length : Int) == 0) = false := by rw [beq_eq_false_iff_ne]; omega
      have hl1 : ((0 : Int) < (refs.length : Int)) = True := eq_true (by omega)
      have hl2 : (0 < refs.length) = True := eq_true hpos
      obtain ⟨adr, hA, hx⟩ := Kd.at_string HC.out (0 : Int) (by omega) (by omega)
      subst hA
      obtain rfl := HRF.out h10 r0 rest hrefs
      have hrd : rdOf ByteArray.empty (refs.map bs) (0 : Int) = bs r0 := by rw [hrefs]; rfl
      rw [hrd] at hx
      have hx9 := (HBw9.out.cell (World.block_lt_of_cell? w _ hx)).trans hx
      have ha0 : adr.add (Int.toNat 0) = adr := by cases adr; unfold Addr.add; split <;> simp_all
      rw [ha0] at hx9
      have HR9 : Hid (w9.drew.cell? adr = some (.string (bs r0))) := Lib.hid hx9
      have ha1 : adr.add 0 = adr := ha0
      have HR8 : Hid (w9.drew.cell? (adr.add 0) = some (.string (bs r0))) := Lib.hid (by rw [ha1]; exact hx9)
      have hlR9 : adr.block < w9.drew.heap.size := World.block_lt_of_cell? w9 _ hx9
      have hlR8 : (adr.add 0).block < w9.drew.heap.size := by rw [ha1]; exact hlR9
      clear hr0 h10 hrefs hpos hx hrd hx9 ha0 ha1
      refine start_ (n := 22) (S := fun w' => w'.cell? ⟨w8.heap.size, 0, none⟩ = some (.int .i64 (c : Int)) ∧ w'.cell? ⟨w8.heap.size, 1, none⟩ = some (.string (bs matched)) ∧ w'.cell? ⟨w8.heap.size, 2, none⟩ = some (.string (bs text)) ∧ w'.cell? ⟨w8.heap.size, 3, none⟩ = some (.string (bs r0)) ∧ w'.cell? ⟨w.heap.size, 0, none⟩ = some (.int .i64 (c : Int)) ∧ w'.cell? ⟨w.heap.size, 1, none⟩ = some (.string (bs matched)) ∧ w'.cell? ⟨w.heap.size, 2, none⟩ = some (.string (bs text)) ∧ w'.cell? ⟨w.heap.size, 3, none⟩ = some (.slice (some adr) refs.length cp) ∧ w'.cell? adr = some (.string (bs r0)) ∧ w'.cell? (adr.add 0) = some (.string (bs r0))) (ds := []) #[false, false, false, false, false, false, false, false, false, false, false, false, false, false, false, false, false, false, false, false, false, false] (by kernel_rfl) rfl rfl ⟨blockCell (w := w9.drew) HX9.out 0, blockCell (w := w9.drew) HX9.out 1, blockCell (w := w9.drew) HX9.out 2, blockCell (w := w9.drew) HX9.out 3, blockCell (w := w9.drew) HY9.out 0, blockCell (w := w9.drew) HY9.out 1, blockCell (w := w9.drew) HY9.out 2, blockCell (w := w9.drew) HY9.out 3, HR9.out, HR8.out⟩ (fun hHeld => ?_)
      refine with_tabW last_tab last_bits (fun HT_ HW_ => ?_)
      refine one_ (i := 0) (N := some 75) #[true, false, false, false, false, false, false, false, false, false, false, false, false, false, false, false, false, false, false, false, false, false] rfl rfl (one_of HT_.out (by kernel_rfl)) (by decide) (fun K hK => ?_)
      refine goes_ Tryz.func7 (by kernel_rfl) rfl #[] (by rfl) rfl rfl (by (try simp only [List.map_toArray, List.map_cons, List.map_nil]); first | done | rfl) ?_
      refine (awake N w9.drew (HE.out.below HBw9.out.drew hN) (by have := HBw9.out.size; simp; omega)).mono ?_
      rintro e w10 ⟨rfl, hb⟩
      have HBw10 := Lib.hid (HBw9.out.drew.trans (hb.mono HBw9.out.size))
      refine ⟨_, rfl, ?_⟩
      refine hK.out _ _ ⟨(hb.cell hlX9).trans hHeld.1, (hb.cell hlX9).trans hHeld.2.1, (hb.cell hlX9).trans hHeld.2.2.1, (hb.cell hlX9).trans hHeld.2.2.2.1, (hb.cell hlw9).trans hHeld.2.2.2.2.1, (hb.cell hlw9).trans hHeld.2.2.2.2.2.1, (hb.cell hlw9).trans hHeld.2.2.2.2.2.2.1, (hb.cell hlw9).trans hHeld.2.2.2.2.2.2.2.1, (hb.cell hlR9).trans hHeld.2.2.2.2.2.2.2.2.1, (hb.cell hlR8).trans hHeld.2.2.2.2.2.2.2.2.2⟩ (fun hHeld => ?_)
      clear hb
      clear hK K
      refine norm_ (a' := ?_) ?_ ?_
      rotate_left
      · show Act.put _ (some 75) _ = _
        simp only [Act.put, List.setIfInBounds_toArray, List.set_cons_zero, List.set_cons_succ]
        rfl
      refine pure_ (i := 1) (N := some 76) (v := ?_) (a' := ?_) #[true, true, false, false, false, false, false, false, false, false, false, false, false, false, false, false, false, false, false, false, false, false] rfl rfl (any_of HT_.out (by kernel_rfl)) (fun _ _ _ h => h) (Or.inl ⟨by rfl, ?_⟩) ?_ ?_
      rotate_left
      · intro w'
        go_simp
        with_reducible rfl
      rotate_left
      · simp only [Act.put, List.setIfInBounds_toArray, List.set_cons_zero, List.set_cons_succ]
        rfl
      refine pure_ (i := 2) (N := some 77) (v := ?_) (a' := ?_) #[true, true, true, false, false, false, false, false, false, false, false, false, false, false, false, false, false, false, false, false, false, false] rfl rfl (any_of HT_.out (by kernel_rfl)) (fun _ _ _ h => h) (Or.inl ⟨by rfl, ?_⟩) ?_ ?_
      rotate_left
      · intro w'
        go_simp
        with_reducible rfl
      rotate_left
      · simp only [Act.put, List.setIfInBounds_toArray, List.set_cons_zero, List.set_cons_succ]
        rfl
      refine take_ (i := 3) (N := some 78) (v := ?_) (a' := ?_) #[true, true, true, true, false, false, false, false, false, false, false, false, false, false, false, false, false, false, false, false, false, false] rfl rfl (take_ofW HT_.out HW_.out (by kernel_rfl)) (fun _ _ _ h => h) (Or.inl ⟨by rfl, ?_⟩) hHeld ?_ ?_
      rotate_left
      · rintro w' ⟨-, -, -, -, s4, -, -, -, -, -⟩
        go_simp
        with_reducible rfl
      rotate_left
      · simp only [Act.put, List.setIfInBounds_toArray, List.set_cons_zero, List.set_cons_succ]
        rfl
      refine pure_ (i := 4) (N := some 79) (v := ?_) (a' := ?_) #[true, true, true, true, true, false, false, false, false, false, false, false, false, false, false, false, false, false, false, false, false, false] rfl rfl (any_of HT_.out (by kernel_rfl)) (fun _ _ _ h => h) (Or.inl ⟨by rfl, ?_⟩) ?_ ?_
      rotate_left
      · intro w'
        go_simp
        with_reducible rfl
      rotate_left
      · simp only [Act.put, List.setIfInBounds_toArray, List.set_cons_zero, List.set_cons_succ]
        rfl
      refine pure_ (i := 5) (N := some 80) (v := ?_) (a' := ?_) #[true, true, true, true, true, true, false, false, false, false, false, false, false, false, false, false, false, false, false, false, false, false] rfl rfl (any_of HT_.out (by kernel_rfl)) (fun _ _ _ h => h) (Or.inl ⟨by rfl, ?_⟩) ?_ ?_
      rotate_left
      · intro w'
        go_simp
        with_reducible rfl
      rotate_left
      · simp only [Act.put, List.setIfInBounds_toArray, List.set_cons_zero, List.set_cons_succ]
        rfl
      refine pure_ (i := 6) (N := some 81) (v := ?_) (a' := ?_) #[true, true, true, true, true, true, true, false, false, false, false, false, false, false, false, false, false, false, false, false, false, false] rfl rfl (any_of HT_.out (by kernel_rfl)) (fun _ _ _ h => h) (Or.inl ⟨by rfl, ?_⟩) ?_ ?_
      rotate_left
      · intro w'
        go_simp
        with_reducible rfl
      rotate_left
      · simp only [Act.put, List.setIfInBounds_toArray, List.set_cons_zero, List.set_cons_succ]
        rfl
      refine take_ (i := 7) (N := some 82) (v := ?_) (a' := ?_) #[true, true, true, true, true, true, true, true, false, false, false, false, false, false, false, false, false, false, false, false, false, false] rfl rfl (take_ofW HT_.out HW_.out (by kernel_rfl)) (fun _ _ _ h => h) (Or.inl ⟨by rfl, ?_⟩) hHeld ?_ ?_
      rotate_left
      · rintro w' ⟨-, -, -, -, -, -, -, s7, -, -⟩
        go_simp
        with_reducible rfl
      rotate_left
      · simp only [Act.put, List.setIfInBounds_toArray, List.set_cons_zero, List.set_cons_succ]
        rfl
      refine pure_ (i := 8) (N := some 83) (v := ?_) (a' := ?_) #[true, true, true, true, true, true, true, true, true, false, false, false, false, false, false, false, false, false, false, false, false, false] rfl rfl (any_of HT_.out (by kernel_rfl)) (fun _ _ _ h => h) (Or.inl ⟨by rfl, ?_⟩) ?_ ?_
      rotate_left
      · intro w'
        go_simp
        with_reducible rfl
      rotate_left
      · simp only [Act.put, List.setIfInBounds_toArray, List.set_cons_zero, List.set_cons_succ]
        rfl
      refine pure_ (i := 9) (N := some 84) (v := ?_) (a' := ?_) #[true, true, true, true, true, true, true, true, true, true, false, false, false, false, false, false, false, false, false, false, false, false] rfl rfl (any_of HT_.out (by kernel_rfl)) (fun _ _ _ h => h) (Or.inl ⟨by rfl, ?_⟩) ?_ ?_
      rotate_left
      · intro w'
        go_simp
        with_reducible rfl
      rotate_left
      · simp only [Act.put, List.setIfInBounds_toArray, List.set_cons_zero, List.set_cons_succ]
        rfl
      refine pure_ (i := 10) (N := some 85) (v := ?_) (a' := ?_) #[true, true, true, true, true, true, true, true, true, true, true, false, false, false, false, false, false, false, false, false, false, false] rfl rfl (any_of HT_.out (by kernel_rfl)) (fun _ _ _ h => h) (Or.inl ⟨by rfl, ?_⟩) ?_ ?_
      rotate_left
      · intro w'
        go_simp
        with_reducible rfl
      rotate_left
      · simp only [Act.put, List.setIfInBounds_toArray, List.set_cons_zero, List.set_cons_succ]
        rfl
      refine pure_ (i := 11) (N := some 86) (v := ?_) (a' := ?_) #[true, true, true, true, true, true, true, true, true, true, true, true, false, false, false, false, false, false, false, false, false, false] rfl rfl (any_of HT_.out (by kernel_rfl)) (fun _ _ _ h => h) (Or.inl ⟨by rfl, ?_⟩) ?_ ?_
      rotate_left
      · intro w'
        go_simp
        with_reducible rfl
      rotate_left
      · simp only [Act.put, List.setIfInBounds_toArray, List.set_cons_zero, List.set_cons_succ]
        rfl
      refine pure_ (i := 12) (N := some 87) (v := ?_) (a' := ?_) #[true, true, true, true, true, true, true, true, true, true, true, true, true, false, false, false, false, false, false, false, false, false] rfl rfl (any_of HT_.out (by kernel_rfl)) (fun _ _ _ h => h) (Or.inl ⟨by rfl, ?_⟩) ?_ ?_
      rotate_left
      · intro w'
        go_simp
        with_reducible rfl
      rotate_left
      · simp only [Act.put, List.setIfInBounds_toArray, List.set_cons_zero, List.set_cons_succ]
        rfl
      refine take_ (i := 13) (N := some 88) (v := ?_) (a' := ?_) #[true, true, true, true, true, true, true, true, true, true, true, true, true, true, false, false, false, false, false, false, false, false] rfl rfl (take_ofW HT_.out HW_.out (by kernel_rfl)) (fun _ _ _ h => h) (Or.inl ⟨by rfl, ?_⟩) hHeld ?_ ?_
      rotate_left
      · rintro w' ⟨-, -, -, s3, -, -, -, -, -, -⟩
        go_simp
        with_reducible rfl
      rotate_left
      · simp only [Act.put, List.setIfInBounds_toArray, List.set_cons_zero, List.set_cons_succ]
        rfl
      refine pure_ (i := 14) (N := some 89) (v := ?_) (a' := ?_) #[true, true, true, true, true, true, true, true, true, true, true, true, true, true, true, false, false, false, false, false, false, false] rfl rfl (any_of HT_.out (by kernel_rfl)) (fun _ _ _ h => h) (Or.inl ⟨by rfl, ?_⟩) ?_ ?_
      rotate_left
      · intro w'
        go_simp
        with_reducible rfl
      rotate_left
      · simp only [Act.put, List.setIfInBounds_toArray, List.set_cons_zero, List.set_cons_succ]
        rfl
      refine take_ (i := 15) (N := some 90) (v := ?_) (a' := ?_) #[true, true, true, true, true, true, true, true, true, true, true, true, true, true, true, true, false, false, false, false, false, false] rfl rfl (take_ofW HT_.out HW_.out (by kernel_rfl)) (fun _ _ _ h => h) (Or.inl ⟨by rfl, ?_⟩) hHeld ?_ ?_
      rotate_left
      · rintro w' ⟨-, -, -, -, -, -, -, s7, -, -⟩
        go_simp
        with_reducible rfl
      rotate_left
      · simp only [Act.put, List.setIfInBounds_toArray, List.set_cons_zero, List.set_cons_succ]
        rfl
      refine pure_ (i := 16) (N := some 91) (v := ?_) (a' := ?_) #[true, true, true, true, true, true, true, true, true, true, true, true, true, true, true, true, true, false, false, false, false, false] rfl rfl (any_of HT_.out (by kernel_rfl)) (fun _ _ _ h => h) (Or.inl ⟨by rfl, ?_⟩) ?_ ?_
      rotate_left
      · intro w'
        go_simp
        with_reducible rfl
      rotate_left
      · simp only [Act.put, List.setIfInBounds_toArray, List.set_cons_zero, List.set_cons_succ]
        rfl
      refine take_ (i := 17) (N := some 92) (v := ?_) (a' := ?_) #[true, true, true, true, true, true, true, true, true, true, true, true, true, true, true, true, true, true, false, false, false, false] rfl rfl (take_ofW HT_.out HW_.out (by kernel_rfl)) (fun _ _ _ h => h) (Or.inl ⟨by rfl, ?_⟩) hHeld ?_ ?_
      rotate_left
      · rintro w' ⟨-, -, -, -, -, -, -, -, s8, s9⟩
        go_simp
        with_reducible rfl
      rotate_left
      · simp only [Act.put, List.setIfInBounds_toArray, List.set_cons_zero, List.set_cons_succ]
        rfl
      refine pure_ (i := 18) (N := some 93) (v := ?_) (a' := ?_) #[true, true, true, true, true, true, true, true, true, true, true, true, true, true, true, true, true, true, true, false, false, false] rfl rfl (any_of HT_.out (by kernel_rfl)) (fun _ _ _ h => h) (Or.inl ⟨by rfl, ?_⟩) ?_ ?_
      rotate_left
      · intro w'
        go_simp
        with_reducible rfl
      rotate_left
      · simp only [Act.put, List.setIfInBounds_toArray, List.set_cons_zero, List.set_cons_succ]
        rfl
      refine pure_ (i := 19) (N := some 94) (v := ?_) (a' := ?_) #[true, true, true, true, true, true, true, true, true, true, true, true, true, true, true, true, true, true, true, true, false, false] rfl rfl (any_of HT_.out (by kernel_rfl)) (fun _ _ _ h => h) (Or.inl ⟨by rfl, ?_⟩) ?_ ?_
      rotate_left
      · intro w'
        go_simp
        with_reducible rfl
      rotate_left
      · simp only [Act.put, List.setIfInBounds_toArray, List.set_cons_zero, List.set_cons_succ]
        rfl
      refine pure_ (i := 20) (N := some 95) (v := ?_) (a' := ?_) #[true, true, true, true, true, true, true, true, true, true, true, true, true, true, true, true, true, true, true, true, true, false] rfl rfl (any_of HT_.out (by kernel_rfl)) (fun _ _ _ h => h) (Or.inl ⟨by rfl, ?_⟩) ?_ ?_
      rotate_left
      · intro w'
        go_simp
        with_reducible rfl
      rotate_left
      · simp only [Act.put, List.setIfInBounds_toArray, List.set_cons_zero, List.set_cons_succ]
        rfl
      refine pure_ (i := 21) (N := some 8) (v := ?_) (a' := ?_) #[true, true, true, true, true, true, true, true, true, true, true, true, true, true, true, true, true, true, true, true, true, true] rfl rfl (any_of HT_.out (by kernel_rfl)) (fun _ _ _ h => h) (Or.inl ⟨by rfl, ?_⟩) ?_ ?_
      rotate_left
      · intro w'
        go_simp
        with_reducible rfl
      rotate_left
      · simp only [Act.put, List.setIfInBounds_toArray, List.set_cons_zero, List.set_cons_succ]
        rfl
      refine done_ (done_of HT_.out (by kernel_rfl)) ?_
      clear HT_ HW_ hHeld
      go_wp2
      go_ret
      exact ⟨rfl, HBw10.out⟩
  · have hcn : ((c : Int) != 10) = true := by rw [bne_iff_ne]; omega
    clear h10
    refine start_ (n := 22) (S := fun w' => w'.cell? ⟨w8.heap.size, 0, none⟩ = some (.int .i64 (c : Int)) ∧ w'.cell? ⟨w8.heap.size, 1, none⟩ = some (.string (bs matched)) ∧ w'.cell? ⟨w8.heap.size, 2, none⟩ = some (.string (bs text)) ∧ w'.cell? ⟨w8.heap.size, 3, none⟩ = some (.string rf) ∧ w'.cell? ⟨w.heap.size, 0, none⟩ = some (.int .i64 (c : Int)) ∧ w'.cell? ⟨w.heap.size, 1, none⟩ = some (.string (bs matched)) ∧ w'.cell? ⟨w.heap.size, 2, none⟩ = some (.string (bs text)) ∧ w'.cell? ⟨w.heap.size, 3, none⟩ = some (.slice A refs.length cp)) (ds := []) #[false, false, false, false, false, false, false, false, false, false, false, false, false, false, false, false, false, false, false, false, false, false] (by kernel_rfl) rfl rfl ⟨blockCell (w := w9.drew) HX9.out 0, blockCell (w := w9.drew) HX9.out 1, blockCell (w := w9.drew) HX9.out 2, blockCell (w := w9.drew) HX9.out 3, blockCell (w := w9.drew) HY9.out 0, blockCell (w := w9.drew) HY9.out 1, blockCell (w := w9.drew) HY9.out 2, blockCell (w := w9.drew) HY9.out 3⟩ (fun hHeld => ?_)
    refine with_tabW last_tab last_bits (fun HT_ HW_ => ?_)
    refine one_ (i := 0) (N := some 75) #[true, false, false, false, false, false, false, false, false, false, false, false, false, false, false, false, false, false, false, false, false, false] rfl rfl (one_of HT_.out (by kernel_rfl)) (by decide) (fun K hK => ?_)
    refine goes_ Tryz.func7 (by kernel_rfl) rfl #[] (by rfl) rfl rfl (by (try simp only [List.map_toArray, List.map_cons, List.map_nil]); first | done | rfl) ?_
    refine (awake N w9.drew (HE.out.below HBw9.out.drew hN) (by have := HBw9.out.size; simp; omega)).mono ?_
    rintro e w10 ⟨rfl, hb⟩
    have HBw10 := Lib.hid (HBw9.out.drew.trans (hb.mono HBw9.out.size))
    refine ⟨_, rfl, ?_⟩
    refine hK.out _ _ ⟨(hb.cell hlX9).trans hHeld.1, (hb.cell hlX9).trans hHeld.2.1, (hb.cell hlX9).trans hHeld.2.2.1, (hb.cell hlX9).trans hHeld.2.2.2.1, (hb.cell hlw9).trans hHeld.2.2.2.2.1, (hb.cell hlw9).trans hHeld.2.2.2.2.2.1, (hb.cell hlw9).trans hHeld.2.2.2.2.2.2.1, (hb.cell hlw9).trans hHeld.2.2.2.2.2.2.2⟩ (fun hHeld => ?_)
    clear hb
    clear hK K
    refine norm_ (a' := ?_) ?_ ?_
    rotate_left
    · show Act.put _ (some 75) _ = _
      simp only [Act.put, List.setIfInBounds_toArray, List.set_cons_zero, List.set_cons_succ]
      rfl
    refine pure_ (i := 1) (N := some 76) (v := ?_) (a' := ?_) #[true, true, false, false, false, false, false, false, false, false, false, false, false, false, false, false, false, false, false, false, false, false] rfl rfl (any_of HT_.out (by kernel_rfl)) (fun _ _ _ h => h) (Or.inl ⟨by rfl, ?_⟩) ?_ ?_
    rotate_left
    · intro w'
      go_simp
      with_reducible rfl
    rotate_left
    · simp only [Act.put, List.setIfInBounds_toArray, List.set_cons_zero, List.set_cons_succ]
      rfl
    refine pure_ (i := 2) (N := some 77) (v := ?_) (a' := ?_) #[true, true, true, false, false, false, false, false, false, false, false, false, false, false, false, false, false, false, false, false, false, false] rfl rfl (any_of HT_.out (by kernel_rfl)) (fun _ _ _ h => h) (Or.inl ⟨by rfl, ?_⟩) ?_ ?_
    rotate_left
    · intro w'
      go_simp
      with_reducible rfl
    rotate_left
    · simp only [Act.put, List.setIfInBounds_toArray, List.set_cons_zero, List.set_cons_succ]
      rfl
    refine take_ (i := 3) (N := some 78) (v := ?_) (a' := ?_) #[true, true, true, true, false, false, false, false, false, false, false, false, false, false, false, false, false, false, false, false, false, false] rfl rfl (take_ofW HT_.out HW_.out (by kernel_rfl)) (fun _ _ _ h => h) (Or.inl ⟨by rfl, ?_⟩) hHeld ?_ ?_
    rotate_left
    · rintro w' ⟨-, -, -, -, s4, -, -, -⟩
      go_simp
      with_reducible rfl
    rotate_left
    · simp only [Act.put, List.setIfInBounds_toArray, List.set_cons_zero, List.set_cons_succ]
      rfl
    refine pure_ (i := 4) (N := some 79) (v := ?_) (a' := ?_) #[true, true, true, true, true, false, false, false, false, false, false, false, false, false, false, false, false, false, false, false, false, false] rfl rfl (any_of HT_.out (by kernel_rfl)) (fun _ _ _ h => h) (Or.inl ⟨by rfl, ?_⟩) ?_ ?_
    rotate_left
    · intro w'
      go_simp
      with_reducible rfl
    rotate_left
    · simp only [Act.put, List.setIfInBounds_toArray, List.set_cons_zero, List.set_cons_succ]
      rfl
    refine pure_ (i := 5) (N := some 80) (v := ?_) (a' := ?_) #[true, true, true, true, true, true, false, false, false, false, false, false, false, false, false, false, false, false, false, false, false, false] rfl rfl (any_of HT_.out (by kernel_rfl)) (fun _ _ _ h => h) (Or.inl ⟨by rfl, ?_⟩) ?_ ?_
    rotate_left
    · intro w'
      go_simp
      with_reducible rfl
    rotate_left
    · simp only [Act.put, List.setIfInBounds_toArray, List.set_cons_zero, List.set_cons_succ]
      rfl
    refine pure_ (i := 6) (N := some 81) (v := undef) (a' := _) #[true, true, true, true, true, true, true, false, false, false, false, false, false, false, false, false, false, false, false, false, false, false] rfl rfl (any_of HT_.out (by kernel_rfl)) (fun _ _ _ h => h) (Or.inr ⟨by rfl, rfl⟩) rfl ?_
    refine norm_ (a' := ?_) ?_ ?_
    rotate_left
    · show Act.put _ (some 81) _ = _
      simp only [Act.put, List.setIfInBounds_toArray, List.set_cons_zero, List.set_cons_succ]
      rfl
    refine pure_ (i := 7) (N := some 82) (v := undef) (a' := _) #[true, true, true, true, true, true, true, true, false, false, false, false, false, false, false, false, false, false, false, false, false, false] rfl rfl (any_of HT_.out (by kernel_rfl)) (fun _ _ _ h => h) (Or.inr ⟨by rfl, rfl⟩) rfl ?_
    refine norm_ (a' := ?_) ?_ ?_
    rotate_left
    · show Act.put _ (some 82) _ = _
      simp only [Act.put, List.setIfInBounds_toArray, List.set_cons_zero, List.set_cons_succ]
      rfl
    refine pure_ (i := 8) (N := some 83) (v := undef) (a' := _) #[true, true, true, true, true, true, true, true, true, false, false, false, false, false, false, false, false, false, false, false, false, false] rfl rfl (any_of HT_.out (by kernel_rfl)) (fun _ _ _ h => h) (Or.inr ⟨by rfl, rfl⟩) rfl ?_
    refine norm_ (a' := ?_) ?_ ?_
    rotate_left
    · show Act.put _ (some 83) _ = _
      simp only [Act.put, List.setIfInBounds_toArray, List.set_cons_zero, List.set_cons_succ]
      rfl
    refine pure_ (i := 9) (N := some 84) (v := undef) (a' := _) #[true, true, true, true, true, true, true, true, true, true, false, false, false, false, false, false, false, false, false, false, false, false] rfl rfl (any_of HT_.out (by kernel_rfl)) (fun _ _ _ h => h) (Or.inr ⟨by rfl, rfl⟩) rfl ?_
    refine norm_ (a' := ?_) ?_ ?_
    rotate_left
    · show Act.put _ (some 84) _ = _
      simp only [Act.put, List.setIfInBounds_toArray, List.set_cons_zero, List.set_cons_succ]
      rfl
    refine pure_ (i := 10) (N := some 85) (v := ?_) (a' := ?_) #[true, true, true, true, true, true, true, true, true, true, true, false, false, false, false, false, false, false, false, false, false, false] rfl rfl (any_of HT_.out (by kernel_rfl)) (fun _ _ _ h => h) (Or.inl ⟨by rfl, ?_⟩) ?_ ?_
    rotate_left
    · intro w'
      go_simp
      with_reducible rfl
    rotate_left
    · simp only [Act.put, List.setIfInBounds_toArray, List.set_cons_zero, List.set_cons_succ]
      rfl
    refine pure_ (i := 11) (N := some 86) (v := ?_) (a' := ?_) #[true, true, true, true, true, true, true, true, true, true, true, true, false, false, false, false, false, false, false, false, false, false] rfl rfl (any_of HT_.out (by kernel_rfl)) (fun _ _ _ h => h) (Or.inl ⟨by rfl, ?_⟩) ?_ ?_
    rotate_left
    · intro w'
      go_simp
      with_reducible rfl
    rotate_left
    · simp only [Act.put, List.setIfInBounds_toArray, List.set_cons_zero, List.set_cons_succ]
      rfl
    refine pure_ (i := 12) (N := some 87) (v := undef) (a' := _) #[true, true, true, true, true, true, true, true, true, true, true, true, true, false, false, false, false, false, false, false, false, false] rfl rfl (any_of HT_.out (by kernel_rfl)) (fun _ _ _ h => h) (Or.inr ⟨by rfl, rfl⟩) rfl ?_
    refine norm_ (a' := ?_) ?_ ?_
    rotate_left
    · show Act.put _ (some 87) _ = _
      simp only [Act.put, List.setIfInBounds_toArray, List.set_cons_zero, List.set_cons_succ]
      rfl
    refine pure_ (i := 13) (N := some 88) (v := undef) (a' := _) #[true, true, true, true, true, true, true, true, true, true, true, true, true, true, false, false, false, false, false, false, false, false] rfl rfl (any_of HT_.out (by kernel_rfl)) (fun _ _ _ h => h) (Or.inr ⟨by rfl, rfl⟩) rfl ?_
    refine norm_ (a' := ?_) ?_ ?_
    rotate_left
    · show Act.put _ (some 88) _ = _
      simp only [Act.put, List.setIfInBounds_toArray, List.set_cons_zero, List.set_cons_succ]
      rfl
    refine pure_ (i := 14) (N := some 89) (v := undef) (a' := _) #[true, true, true, true, true, true, true, true, true, true, true, true, true, true, true, false, false, false, false, false, false, false] rfl rfl (any_of HT_.out (by kernel_rfl)) (fun _ _ _ h => h) (Or.inr ⟨by rfl, rfl⟩) rfl ?_
    refine norm_ (a' := ?_) ?_ ?_
    rotate_left
    · show Act.put _ (some 89) _ = _
      simp only [Act.put, List.setIfInBounds_toArray, List.set_cons_zero, List.set_cons_succ]
      rfl
    refine pure_ (i := 15) (N := some 90) (v := undef) (a' := _) #[true, true, true, true, true, true, true, true, true, true, true, true, true, true, true, true, false, false, false, false, false, false] rfl rfl (any_of HT_.out (by kernel_rfl)) (fun _ _ _ h => h) (Or.inr ⟨by rfl, rfl⟩) rfl ?_
    refine norm_ (a' := ?_) ?_ ?_
    rotate_left
    · show Act.put _ (some 90) _ = _
      simp only [Act.put, List.setIfInBounds_toArray, List.set_cons_zero, List.set_cons_succ]
      rfl
    refine pure_ (i := 16) (N := some 91) (v := undef) (a' := _) #[true, true, true, true, true, true, true, true, true, true, true, true, true, true, true, true, true, false, false, false, false, false] rfl rfl (any_of HT_.out (by kernel_rfl)) (fun _ _ _ h => h) (Or.inr ⟨by rfl, rfl⟩) rfl ?_
    refine norm_ (a' := ?_) ?_ ?_
    rotate_left
    · show Act.put _ (some 91) _ = _
      simp only [Act.put, List.setIfInBounds_toArray, List.set_cons_zero, List.set_cons_succ]
      rfl
    refine pure_ (i := 17) (N := some 92) (v := undef) (a' := _) #[true, true, true, true, true, true, true, true, true, true, true, true, true, true, true, true, true, true, false, false, false, false] rfl rfl (any_of HT_.out (by kernel_rfl)) (fun _ _ _ h => h) (Or.inr ⟨by rfl, rfl⟩) rfl ?_
    refine norm_ (a' := ?_) ?_ ?_
    rotate_left
    · show Act.put _ (some 92) _ = _
      simp only [Act.put, List.setIfInBounds_toArray, List.set_cons_zero, List.set_cons_succ]
      rfl
    refine pure_ (i := 18) (N := some 93) (v := undef) (a' := _) #[true, true, true, true, true, true, true, true, true, true, true, true, true, true, true, true, true, true, true, false, false, false] rfl rfl (any_of HT_.out (by kernel_rfl)) (fun _ _ _ h => h) (Or.inr ⟨by rfl, rfl⟩) rfl ?_
    refine norm_ (a' := ?_) ?_ ?_
    rotate_left
    · show Act.put _ (some 93) _ = _
      simp only [Act.put, List.setIfInBounds_toArray, List.set_cons_zero, List.set_cons_succ]
      rfl
    refine pure_ (i := 19) (N := some 94) (v := ?_) (a' := ?_) #[true, true, true, true, true, true, true, true, true, true, true, true, true, true, true, true, true, true, true, true, false, false] rfl rfl (any_of HT_.out (by kernel_rfl)) (fun _ _ _ h => h) (Or.inl ⟨by rfl, ?_⟩) ?_ ?_
    rotate_left
    · intro w'
      go_simp
      with_reducible rfl
    rotate_left
    · simp only [Act.put, List.setIfInBounds_toArray, List.set_cons_zero, List.set_cons_succ]
      rfl
    refine pure_ (i := 20) (N := some 95) (v := ?_) (a' := ?_) #[true, true, true, true, true, true, true, true, true, true, true, true, true, true, true, true, true, true, true, true, true, false] rfl rfl (any_of HT_.out (by kernel_rfl)) (fun _ _ _ h => h) (Or.inl ⟨by rfl, ?_⟩) ?_ ?_
    rotate_left
    · intro w'
      go_simp
      with_reducible rfl
    rotate_left
    · simp only [Act.put, List.setIfInBounds_toArray, List.set_cons_zero, List.set_cons_succ]
      rfl
    refine pure_ (i := 21) (N := some 8) (v := ?_) (a' := ?_) #[true, true, true, true, true, true, true, true, true, true, true, true, true, true, true, true, true, true, true, true, true, true] rfl rfl (any_of HT_.out (by kernel_rfl)) (fun _ _ _ h => h) (Or.inl ⟨by rfl, ?_⟩) ?_ ?_
    rotate_left
    · intro w'
      go_simp
      with_reducible rfl
    rotate_left
    · simp only [Act.put, List.setIfInBounds_toArray, List.set_cons_zero, List.set_cons_succ]
      rfl
    refine done_ (done_of HT_.out (by kernel_rfl)) ?_
    clear HT_ HW_ hHeld
    go_wp2
    go_ret
    exact ⟨rfl, HBw10.out⟩
end Go.Proofs.YtdfehaonngccjaaGreatDoor

