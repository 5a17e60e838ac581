/- FnNameTails in plain Lean: lengths of texts, tails of names, a changed name. -/
import Derived.Test.YtjmahgefijncaaaGreatFmtNTxt
import Derived.Test.YtjmahgefijncaaaGreatFmtNCmp
import Derived.Test.YtjmahgefijncaaaGreatFmtNIs
namespace Go.Proofs.YtjmahgefijncaaaGreatFmt
open Go

namespace NT
variable (st : Nat → UInt8)
theorem escB_len (c : UInt8) (f l : Bool) (how : UInt8) : (escB c f l how).length ≤ 3 := by
  unfold escB; split
  · simp
  split <;> simp
theorem val_len : ∀ (v : List UInt8) (f : Bool) (k : Nat), (valText st v f k).1.length ≤ 3 * v.length ∧ (valText st v f k).2 ≤ k + v.length
  | [], _, _ => by simp [valText]
  | c :: r, f, k => by
    rw [valText]
    split
    · have := val_len r false k
      simp only [List.length_cons]; omega
    · have h1 := val_len r false (k + 1)
      have h2 := escB_len c f r.isEmpty (st k)
      simp only [List.length_append, List.length_cons]; omega
theorem hex_len : ∀ v : List UInt8, (v.flatMap hexB).length = 2 * v.length
  | [] => rfl
  | c :: r => by
    have := hex_len r
    simp only [List.flatMap_cons, List.length_append, this, List.length_cons]
    simp [hexB]; omega
theorem side_len (v : List UInt8) (k : Nat) : (sideText st v k).1.length ≤ 5 + 3 * v.length ∧ (sideText st v k).2 ≤ k + 1 + v.length := by
  unfold sideText
  split
  · have := hex_len v
    simp only [hashText, List.length_append, this]
    simp [hexB]; omega
  · have := val_len st v true (k + 1); omega
theorem parts_len : ∀ (ps : List Nm.Part) (s : Bool) (k : Nat), (∀ p ∈ ps, p.1.length ≤ 12 ∧ p.2.length ≤ 20) → (partsText st ps s k).1.length ≤ 79 * ps.length ∧ (partsText st ps s k).2 ≤ k + 21 * ps.length
  | [], _, _, _ => by simp [partsText]
  | p :: r, s, k, h => by
    have hp := h p (List.mem_cons_self ..)
    have h1 := side_len st p.2 k
    have h2 := parts_len r true (sideText st p.2 k).2 (fun q hq => h q (List.mem_cons_of_mem _ hq))
    have e : (partsText st (p :: r) s k) = ((if s then [43] else []) ++ (partText st p k).1 ++ (partsText st r true (partText st p k).2).1, (partsText st r true (partText st p k).2).2) := by rw [partsText]
    have e2 : (partText st p k).2 = (sideText st p.2 k).2 := rfl
    have e3 : (partText st p k).1.length = p.1.length + 1 + (sideText st p.2 k).1.length := by simp [partText]; omega
    rw [e, e2]
    have e4 : (if s then [43] else [] : List UInt8).length ≤ 1 := by cases s <;> simp
    simp only [List.length_append, List.length_cons]
    omega
theorem name_len : ∀ (n : Nm.Name) (s : Bool) (k : Nat), (∀ ps ∈ n, RdnIs ps) → (nameText st n s k).1.length ≤ 238 * n.length ∧ (nameText st n s k).2 ≤ k + 63 * n.length
  | [], _, _, _ => by simp [nameText]
  | ps :: r, s, k, h => by
    have hp := h ps (List.mem_cons_self ..)
    have h1 := parts_len st ps false k (fun p hp2 => ⟨(hp.2.2 p hp2).2.1, (hp.2.2 p hp2).2.2.1⟩)
    have h2 := name_len r true (partsText st ps false k).2 (fun q hq => h q (List.mem_cons_of_mem _ hq))
    have hl := hp.2.1
    rw [nameText]
    have e4 : (if s then [44] else [] : List UInt8).length ≤ 1 := by cases s <;> simp
    simp only [List.length_append, List.length_cons]
    omega
theorem nameIs_ok {n : Nm.Name} (h : NameIs n) : NameOK n := fun ps hps => by
  obtain ⟨h1, _, h3⟩ := h.2 ps hps
  exact ⟨by intro e; rw [e] at h1; simp at h1, fun p hp => ⟨(h3 p hp).1, (h3 p hp).2.2.2⟩⟩
end NT

theorem nameIs_fits {n : Nm.Name} (h : NameIs n) : n.length < 1000000000 ∧ ∀ ps ∈ n, ps.length < 1000000000 ∧ ∀ p ∈ ps, p.1.length < 1000000000 ∧ p.2.length < 1000000000 := by
  refine ⟨by have := h.1; omega, fun ps hps => ?_⟩
  obtain ⟨_, h2, h3⟩ := h.2 ps hps
  exact ⟨by omega, fun p hp => by obtain ⟨_, a, b, _⟩ := h3 p hp; omega⟩
theorem nameIs_drop {n : Nm.Name} (h : NameIs n) (k : Nat) : NameIs (n.drop k) := ⟨by rw [List.length_drop]; have := h.1; omega, fun ps hps => h.2 ps (List.mem_of_mem_drop hps)⟩

namespace NC
theorem above_tails (f : Bool) (l : Nm.Name) {i k : Nat} (hi : i < l.length) (hk : k < l.length) : above f (l.drop k) (l.drop i) = decide (i < k) := by
  unfold above
  rw [List.length_drop, List.length_drop, List.drop_drop]
  by_cases h : i < k
  · have e : i + (l.length - i - (l.length - k)) = k := by omega
    rw [e, namesEq_refl, decide_eq_true h, decide_eq_true (by omega)]; rfl
  · rw [decide_eq_false h, decide_eq_false (by omega)]; rfl
theorem perm_head {a b : Nm.Part} {R : List Nm.Part} (h : (a :: R).Perm (b :: R)) : a = b := by
  have := h.count_eq a
  rw [List.count_cons_self, List.count_cons] at this
  split at this
  · rename_i e; exact (by simpa using e : b = a).symm
  · omega
/-- The name with another first value at k. -/
def chg (l : Nm.Name) (k : Nat) (p : Nm.Part) (r : List Nm.Part) (x : List UInt8) : Nm.Name := l.set k ((p.1, p.2 ++ x) :: r)
theorem rdn_chg (p : Nm.Part) (r : List Nm.Part) {x : List UInt8} (hx : x ≠ []) : rdnEq false (p :: r) ((p.1, p.2 ++ x) :: r) = false := by
  cases h : rdnEq false (p :: r) ((p.1, p.2 ++ x) :: r) with
  | false => rfl
  | true =>
    rw [rdnEq_iff, List.map_cons, List.map_cons] at h
    have := perm_head h
    simp [key] at this
    exact absurd this hx
theorem chg_get {l : Nm.Name} {k : Nat} {p : Nm.Part} {r : List Nm.Part} {x : List UInt8} (hk : k < l.length) : (chg l k p r x)[k]? = some ((p.1, p.2 ++ x) :: r) := by
  unfold chg; rw [List.getElem?_set_self hk]
theorem eq_chg {l : Nm.Name} {k i : Nat} {p : Nm.Part} {r : List Nm.Part} {x : List UInt8} (hk : l[k]? = some (p :: r)) (hi : i < l.length) (hx : x ≠ []) : namesEq false (l.drop i) (chg l k p r x) = false := by
  have hkl : k < l.length := (List.getElem?_eq_some_iff.1 hk).1
  by_cases h : i = 0
  · subst h
    rw [List.drop_zero]
    exact namesEq_ne hk (chg_get hkl) (rdn_chg p r hx)
  · refine namesEq_false ?_
    unfold chg
    rw [List.length_drop, List.length_set]; omega
theorem above_chg {l : Nm.Name} {k i : Nat} {p : Nm.Part} {r : List Nm.Part} {x : List UInt8} (hk : l[k]? = some (p :: r)) (hi : i < l.length) (hx : x ≠ []) : above false (l.drop i) (chg l k p r x) = decide (k < i) := by
  have hkl : k < l.length := (List.getElem?_eq_some_iff.1 hk).1
  have hlen : (chg l k p r x).length = l.length := by unfold chg; rw [List.length_set]
  unfold above
  rw [hlen, List.length_drop]
  have e : l.length - (l.length - i) = i := by omega
  rw [e]
  by_cases h : k < i
  · rw [decide_eq_true h, decide_eq_true (by omega)]
    have : (chg l k p r x).drop i = l.drop i := by unfold chg; exact List.drop_set_of_lt h
    rw [this, namesEq_refl]; rfl
  · rw [decide_eq_false h]
    have h1 : (l.drop i)[k - i]? = some (p :: r) := by rw [List.getElem?_drop, show i + (k - i) = k by omega]; exact hk
    have h2 : ((chg l k p r x).drop i)[k - i]? = some ((p.1, p.2 ++ x) :: r) := by rw [List.getElem?_drop, show i + (k - i) = k by omega]; exact chg_get hkl
    rw [namesEq_ne h1 h2 (rdn_chg p r hx), Bool.and_false]
end NC
end Go.Proofs.YtjmahgefijncaaaGreatFmt
