/- The reference's tags and lengths as plain functions; the forms of packets. -/
import Derived.Test.YtdfehaonngccjaaDoorB6
import Derived.Test.YtdfehaonngccjaaDoorPFnBerFormsx8
namespace Go.Proofs.YtdfehaonngccjaaDoor
open Go Go.RowKit Go.Proofs.YtdfehaonngccjaaDoorW.PrintWords Go.Proofs.YtdfehaonngccjaaDoorW.PrintLast Go.Proofs.YtdfehaonngccjaaDoorW.PrintMore

/-- A text of bytes. -/
def bs (l : List UInt8) : ByteArray := ⟨l.toArray⟩
theorem bs_append (a b : List UInt8) : bs a ++ bs b = bs (a ++ b) := by
  apply ByteArray.ext
  simp [bs, ByteArray.data_append]
theorem bs_size (l : List UInt8) : (bs l).size = l.length := by simp [bs, ByteArray.size]
theorem bs_list (l : List UInt8) : (bs l).data.toList = l := rfl
theorem bs_of (s : ByteArray) : s = bs s.data.toList := rfl
theorem strOfNums_bs (xs : List Int) : strOfNums xs = bs (xs.map fun n => UInt8.ofNat n.toNat) := rfl

theorem or128_8 {x : Nat} (h : x < 128) : bits .or .u8 (x : Int) 128 = ((x + 128 : Nat) : Int) := by
  have e := or_u8 (x := x) (y := 128) (by omega) (by omega)
  have k : ∀ y, y < 128 → y ||| 128 = y + 128 := by decide +kernel
  rw [← k x h]; exact e

theorem tag_l0 (f : Nat) : ∀ (m k : Nat) (x3 : Int) (rest : List UInt8), m < 128 ^ f → m < 2 ^ 64 → f < k → rest.length + f < 1000000000 →
    PFnBerForms.spec_BerTag.l0 k x3 (bs rest) (m : Int) = some (bs (UInt8.ofNat (bits .or .u8 x3 31).toNat :: (Ber.tagMore f m ++ rest))) := by
  have base : ∀ (k : Nat) (x3 : Int) (rest : List UInt8), 0 < k → rest.length < 1000000000 → PFnBerForms.spec_BerTag.l0 k x3 (bs rest) ((0 : Nat) : Int) = some (bs (UInt8.ofNat (bits .or .u8 x3 31).toNat :: rest)) := by
    intro k x3 rest hk hr
    obtain ⟨k, rfl⟩ : ∃ k', k = k' + 1 := ⟨k - 1, by omega⟩
    simp only [PFnBerForms.spec_BerTag.l0]
    rw [if_neg (by simp)]
    simp only [Option.bind_some]
    rw [if_pos (by rw [strOfNums_size, bs_size]; simp; omega), strOfNums_bs, bs_append]
    simp
  induction f with
  | zero =>
    intro m k x3 rest hm _ hk hr
    obtain rfl : m = 0 := by simpa using hm
    simpa [Ber.tagMore] using base k x3 rest (by omega) (by omega)
  | succ f ih =>
    intro m k x3 rest hm hm2 hk hr
    by_cases h0 : m = 0
    · subst h0
      simpa [Ber.tagMore] using base k x3 rest (by omega) (by omega)
    · obtain ⟨k, rfl⟩ : ∃ k', k = k' + 1 := ⟨k - 1, by omega⟩
      simp only [PFnBerForms.spec_BerTag.l0]
      rw [if_pos (by omega)]
      simp only [Option.bind_some]
      rw [if_pos (by rw [strOfNums_size, bs_size]; simp; omega), strOfNums_bs, bs_append]
      have e1 : bits .or .u8 (bits .and .u64 (m : Int) 127 % 256) 128 = ((m % 128 + 128 : Nat) : Int) := by
        rw [and127u hm2, show (((m % 128 : Nat) : Int) % 256) = ((m % 128 : Nat) : Int) by omega]
        exact or128_8 (by omega)
      have e2 : ((m : Int) / 128) = ((m / 128 : Nat) : Int) := by omega
      simp only [List.map_cons, List.map_nil, e1, e2, Int.toNat_natCast]
      rw [ih (m / 128) k x3 _ (by rw [Nat.pow_succ] at hm; omega) (by omega) (by omega) (by simp; omega)]
      simp only [Ber.tagMore, if_neg h0, List.append_assoc, List.cons_append, List.nil_append]

theorem cls_wrap {c : Nat} (hc : c < 4) : ((c : Int) * 64) % 256 = ((c * 64 : Nat) : Int) := by omega

theorem berTag_f (c : Nat) (hc : c < 4) (b : Bool) (t : Nat) (ht : t < 2 ^ 64) (d : ByteArray) (l : List PFnBerForms.S26) :
    PFnBerForms.spec_BerTag.f 20 (c : Int) b (t : Int) d l = some (bs (Ber.identBytes c b t)) := by
  have hx : ∀ x3 : Nat, x3 = c * 64 + (if b then 32 else 0) → PFnBerForms.spec_BerTag.j0 20 (x3 : Int) (c : Int) b (t : Int) d l = some (bs (Ber.identBytes c b t)) := by
    intro x3 hx3
    have hx4 : x3 < 256 := by rw [hx3]; split <;> omega
    simp only [PFnBerForms.spec_BerTag.j0]
    unfold Ber.identBytes
    by_cases h31 : t < 31
    · rw [if_pos (by omega), if_pos h31, strOfNums_bs]
      have e0 : ((t : Int) % 256) = (t : Int) := by omega
      simp only [List.map_cons, List.map_nil, e0]
      rw [or_u8 hx4 (by omega), hx3, or_tag c hc b t (by omega), Int.toNat_natCast]
    · rw [if_neg (by omega), if_neg h31]
      have e1 : (bits .and .u64 (t : Int) 127) % 256 = ((t % 128 : Nat) : Int) := by rw [and127u ht]; omega
      have e2 : ((t : Int) / 128) = ((t / 128 : Nat) : Int) := by omega
      rw [strOfNums_bs]
      have e3 : bits .or .u8 (x3 : Int) 31 = ((c * 64 + (if b then 32 else 0) + 31 : Nat) : Int) := by
        rw [show (31 : Int) = ((31 : Nat) : Int) from rfl, or_u8 hx4 (by omega), hx3, or_tag c hc b 31 (by omega)]
      simp only [List.map_cons, List.map_nil, e1, e2, Int.toNat_natCast]
      rw [tag_l0 10 (t / 128) 19 _ _ (by have : t / 128 < 2 ^ 64 := by omega
                                         exact Nat.lt_of_lt_of_le this (by decide)) (by omega) (by omega) (by simp)]
      rw [e3, Int.toNat_natCast]
      unfold Ber.tagBytes
      rw [if_neg (show ¬ t = 0 by omega)]
  unfold PFnBerForms.spec_BerTag.f
  rw [cls_wrap hc]
  cases b with
  | true =>
    rw [if_pos rfl]
    have : bits .or .u8 ((c * 64 : Nat) : Int) 32 = ((c * 64 + 32 : Nat) : Int) := by
      rw [show (32 : Int) = ((32 : Nat) : Int) from rfl, or_u8 (by omega) (by omega)]
      have := or_cls c hc true
      simp at this
      rw [this]
    rw [this]
    exact hx _ (by simp)
  | false =>
    rw [if_neg (by simp)]
    exact hx _ (by simp)
end Go.Proofs.YtdfehaonngccjaaDoor

/- The reference's lengths, and the forms of packets. -/
namespace Go.Proofs.YtdfehaonngccjaaDoor
open Go Go.RowKit Go.Proofs.YtdfehaonngccjaaDoorW.PrintWords Go.Proofs.YtdfehaonngccjaaDoorW.PrintLast Go.Proofs.YtdfehaonngccjaaDoorW.PrintMore

namespace Ber
/-- A length with more bytes than it needs (0: in the short form, if it is below 128). -/
def lenForm (n more : Nat) : List UInt8 :=
  if n < 128 ∧ more = 0 then [UInt8.ofNat n] else UInt8.ofNat (128 + (List.replicate (more - 1) (0 : UInt8) ++ digits 8 n).length) :: (List.replicate (more - 1) 0 ++ digits 8 n)

/-- The bytes of a number, none of 0. -/
def dg : Nat → Nat → List UInt8
  | 0, _ => []
  | f + 1, n => if n = 0 then [] else dg f (n / 256) ++ [UInt8.ofNat (n % 256)]
theorem digits_dg : ∀ (f n : Nat), 0 < n → n < 256 ^ f → digits f n = dg f n
  | 0, n, h0, h => by simp at h; omega
  | f + 1, n, h0, h => by
    simp only [digits, dg]
    rw [if_neg (show ¬ n = 0 by omega)]
    by_cases h2 : n < 256
    · rw [if_pos h2, show n / 256 = 0 by omega, show n % 256 = n by omega]
      cases f <;> simp [dg]
    · rw [if_neg h2, digits_dg f (n / 256) (by omega) (by rw [Nat.pow_succ] at h; omega)]
theorem digits_split (f n : Nat) (h : n < 256 ^ (f + 1)) : digits (f + 1) n = dg f (n / 256) ++ [UInt8.ofNat (n % 256)] := by
  simp only [digits]
  by_cases h2 : n < 256
  · rw [if_pos h2, show n / 256 = 0 by omega, show n % 256 = n by omega]
    cases f <;> simp [dg]
  · rw [if_neg h2, digits_dg f (n / 256) (by omega) (by rw [Nat.pow_succ] at h; omega)]
theorem dg_length : ∀ (f n : Nat), (dg f n).length ≤ f
  | 0, _ => by simp [dg]
  | f + 1, n => by
    simp only [dg]
    split
    · simp
    · have := dg_length f (n / 256); simp; omega
theorem digits_length (n : Nat) (h : n < 256 ^ 8) : (digits 8 n).length ≤ 8 := by
  rw [digits_split 7 n h]
  have := dg_length 7 (n / 256)
  simp; omega
end Ber

theorem or128_l {x : Nat} (h : x < 128) : bits .or .u8 128 (x : Int) = ((128 + x : Nat) : Int) := by
  have e := or_u8 (x := 128) (y := x) (by omega) (by omega)
  have k : ∀ y, y < 128 → 128 ||| y = 128 + y := by decide +kernel
  rw [← k x h]; exact e

theorem len_l1 (z : Nat) : ∀ (k i : Nat) (s : List UInt8), i ≤ z → z - i < k → z < 1000 → s.length + (z - i) < 128 →
    PFnBerForms.spec_BerLength.l1 k (bs s) (z : Int) (i : Int) = some (bs (UInt8.ofNat (128 + (z - i + s.length)) :: (List.replicate (z - i) 0 ++ s))) := by
  intro k
  induction k with
  | zero => intro i s _ h; omega
  | succ k ih =>
    intro i s hi hk hz hs
    simp only [PFnBerForms.spec_BerLength.l1]
    by_cases hiz : i < z
    · rw [if_pos (by omega), if_pos (by rw [bs_size]; omega)]
      have e1 : wrap64 ((i : Int) + 1) = ((i + 1 : Nat) : Int) := by unfold wrap64; omega
      have e2 : ((⟨#[0]⟩ : ByteArray) ++ bs s) = bs (0 :: s) := bs_append [0] s
      rw [e1, e2, ih (i + 1) (0 :: s) (by omega) (by omega) hz (by simp; omega)]
      congr 2
      obtain ⟨j, hj⟩ : ∃ j, z - i = j + 1 := ⟨z - i - 1, by omega⟩
      rw [show z - (i + 1) = j by omega, hj, List.replicate_succ', List.length_cons]
      simp only [List.append_assoc, List.cons_append, List.nil_append]
      rw [show j + (s.length + 1) = j + 1 + s.length by omega]
    · rw [if_neg (by omega)]
      simp only [Option.bind_some]
      have h0 : z - i = 0 := by omega
      rw [if_pos (by rw [strOfNums_size, bs_size]; simp; omega), strOfNums_bs, bs_append, h0]
      have e1 : (((bs s).size : Int) % 256) = ((s.length : Nat) : Int) := by rw [bs_size]; omega
      simp only [List.map_cons, List.map_nil, e1]
      rw [or128_l (by omega), Int.toNat_natCast]
      simp

theorem mx_more (more : Nat) (h : more < 1000) : mx (wrap64 ((more : Int) - 1)) 0 = ((more - 1 : Nat) : Int) := by
  unfold mx wrap64
  split <;> omega

theorem len_l0 (f : Nat) : ∀ (m k : Nat) (s : List UInt8) (more : Nat), 0 < s.length → m < 256 ^ f → s.length + f < 50 → more < 20 → f + more + 5 < k →
    PFnBerForms.spec_BerLength.l0 k (more : Int) (bs s) (m : Int) = some (bs (UInt8.ofNat (128 + (more - 1 + (Ber.dg f m ++ s).length)) :: (List.replicate (more - 1) 0 ++ (Ber.dg f m ++ s)))) := by
  have base : ∀ (k : Nat) (s : List UInt8) (more : Nat), 0 < s.length → s.length < 50 → more < 20 → more + 5 < k →
      PFnBerForms.spec_BerLength.l0 k (more : Int) (bs s) ((0 : Nat) : Int) = some (bs (UInt8.ofNat (128 + (more - 1 + s.length)) :: (List.replicate (more - 1) 0 ++ s))) := by
    intro k s more hs hs2 hm hk
    obtain ⟨k, rfl⟩ : ∃ k', k = k' + 1 := ⟨k - 1, by omega⟩
    simp only [PFnBerForms.spec_BerLength.l0]
    rw [if_neg (by simp), if_neg (by rw [Lib.toList_data, bs_list]; intro h; simp [h] at hs), mx_more more (by omega)]
    have := len_l1 (more - 1) k 0 s (by omega) (by omega) (by omega) (by omega)
    rw [Nat.sub_zero] at this
    exact this
  induction f with
  | zero =>
    intro m k s more hs hm h1 h2 h3
    obtain rfl : m = 0 := by simpa using hm
    simpa [Ber.dg] using base k s more hs (by omega) h2 (by omega)
  | succ f ih =>
    intro m k s more hs hm h1 h2 h3
    by_cases h0 : m = 0
    · subst h0
      simpa [Ber.dg] using base k s more hs (by omega) h2 (by omega)
    · obtain ⟨k, rfl⟩ : ∃ k', k = k' + 1 := ⟨k - 1, by omega⟩
      simp only [PFnBerForms.spec_BerLength.l0]
      rw [if_pos (by omega)]
      simp only [Option.bind_some]
      rw [if_pos (by rw [strOfNums_size, bs_size]; simp; omega), strOfNums_bs, bs_append]
      have e1 : ((m : Int) % 256) = ((m % 256 : Nat) : Int) := by omega
      have e2 : ((m : Int) / 256) = ((m / 256 : Nat) : Int) := by omega
      simp only [List.map_cons, List.map_nil, e1, e2, Int.toNat_natCast]
      rw [ih (m / 256) k _ more (by simp) (by rw [Nat.pow_succ] at hm; omega) (by simp; omega) h2 (by omega)]
      simp only [Ber.dg, if_neg h0, List.append_assoc, List.cons_append, List.nil_append]

theorem berLength_f (n more : Nat) (hn : n < 256 ^ 8) (hm : more < 20) : PFnBerForms.spec_BerLength.f 40 (n : Int) (more : Int) = some (bs (Ber.lenForm n more)) := by
  have long : ∀ x12 : Bool, x12 = false → PFnBerForms.spec_BerLength.j0 40 (n : Int) (more : Int) x12 = some (bs (UInt8.ofNat (128 + (List.replicate (more - 1) (0 : UInt8) ++ Ber.digits 8 n).length) :: (List.replicate (more - 1) 0 ++ Ber.digits 8 n))) := by
    rintro x12 rfl
    simp only [PFnBerForms.spec_BerLength.j0]
    rw [if_neg (by simp)]
    have hd := Ber.digits_split 7 n hn
    have e1 : ((n : Int) % 256) = ((n % 256 : Nat) : Int) := by omega
    have e2 : ((n : Int) / 256) = ((n / 256 : Nat) : Int) := by omega
    have step : PFnBerForms.spec_BerLength.l0 39 (more : Int) (⟨#[]⟩ : ByteArray) (n : Int) = PFnBerForms.spec_BerLength.l0 38 (more : Int) (bs [UInt8.ofNat (n % 256)]) ((n / 256 : Nat) : Int) := by
      have hsz : (strOfNums [((n % 256 : Nat) : Int)]).size + (⟨#[]⟩ : ByteArray).size ≤ 9223372036854775807 := by rw [strOfNums_size, show (⟨#[]⟩ : ByteArray).size = 0 from rfl]; simp
      have hap : strOfNums [((n % 256 : Nat) : Int)] ++ (⟨#[]⟩ : ByteArray) = bs [UInt8.ofNat (n % 256)] := by
        have := bs_append [UInt8.ofNat (n % 256)] []
        rw [strOfNums_bs]
        simp only [List.map_cons, List.map_nil, Int.toNat_natCast]
        exact this
      rw [PFnBerForms.spec_BerLength.l0]
      by_cases h0 : (n : Int) > 0
      · rw [if_pos h0]
        simp only [Option.bind_some, e1, e2]
        rw [if_pos hsz, hap]
      · rw [if_neg h0, if_pos (by rw [Lib.toList_data])]
        simp only [Option.bind_some, e1, e2]
        rw [if_pos hsz, hap]
    rw [step, len_l0 7 (n / 256) 38 _ more (by simp) (by omega) (by simp) hm (by omega), hd]
    simp only [List.length_append, List.length_replicate]
  unfold PFnBerForms.spec_BerLength.f Ber.lenForm
  by_cases h1 : n < 128
  · rw [if_pos (by omega)]
    by_cases h2 : more = 0
    · subst h2
      rw [if_pos ⟨h1, rfl⟩]
      have e0 : ((n : Int) % 256) = (n : Int) := by omega
      simp only [PFnBerForms.spec_BerLength.j0]
      rw [if_pos (by simp), strOfNums_bs]
      simp only [List.map_cons, List.map_nil, e0, Int.toNat_natCast]
    · rw [if_neg (by omega)]
      exact long _ (by rw [beq_eq_false_iff_ne]; omega)
  · rw [if_neg (by omega), if_neg (by omega)]
    exact long _ rfl

mutual
/-- A packet as a value of the reference. -/
def spS : Ber.Pk → PFnBerForms.S26
  | .mk c b t data items => ⟨(c : Int), b, (t : Int), bs data, spSs items⟩
def spSs : List Ber.Pk → List PFnBerForms.S26
  | [] => []
  | x :: r => spS x :: spSs r
end
theorem spSs_length : ∀ (l : List Ber.Pk), (spSs l).length = l.length
  | [] => rfl
  | x :: l => by simp [spSs, spSs_length l]
theorem spSs_get : ∀ (l : List Ber.Pk) (j : Nat) (hj : j < l.length), (spSs l)[j]? = some (spS l[j])
  | [], j, hj => absurd hj (Nat.not_lt_zero _)
  | x :: l, 0, hj => by simp [spSs]
  | x :: l, j + 1, hj => by simpa [spSs] using spSs_get l j (by simpa using hj)

namespace Ber
/-- The way that is chosen. -/
def way (ch : List UInt8) (at_ : Nat) : Nat := if ch = [] then 0 else (ch.getD (at_ % ch.length) 0).toNat % 5
def next (ch : List UInt8) (at_ : Nat) : Nat := if ch = [] then at_ else at_ + 1
/-- The bytes of a form. -/
def formText (c : Nat) (b : Bool) (t : Nat) (w : Nat) (body : List UInt8) : List UInt8 :=
  if w = 4 ∧ b = true then identBytes c b t ++ [128] ++ body ++ [0, 0] else identBytes c b t ++ lenForm body.length (w % 4) ++ body
mutual
def forms (ch : List UInt8) : Pk → Nat → List UInt8 × Nat
  | .mk c b t data items, a => (formText c b t (way ch a) (formsL ch items data (next ch a)).1, (formsL ch items data (next ch a)).2)
def formsL (ch : List UInt8) : List Pk → List UInt8 → Nat → List UInt8 × Nat
  | [], acc, a => (acc, a)
  | x :: r, acc, a => formsL ch r (acc ++ (forms ch x a).1) (forms ch x a).2
end
end Ber
end Go.Proofs.YtdfehaonngccjaaDoor

