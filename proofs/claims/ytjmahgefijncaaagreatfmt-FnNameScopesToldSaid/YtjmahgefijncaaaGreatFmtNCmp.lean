/- What the comparisons of names say, in plain Lean. -/
import Derived.Test.YtjmahgefijncaaaGreatFmtBRow
import Derived.Test.YtjmahgefijncaaaGreatFmtNm
namespace Go.Proofs.YtjmahgefijncaaaGreatFmt.NC
open Go

/-- What is compared of a part. -/
def key (fold : Bool) (p : Nm.Part) : Nm.Part := (low p.1, if fold then low p.2 else p.2)
/-- Each of the first list has one of the second for itself. -/
def hasAll : List Nm.Part → List Nm.Part → Bool
  | [], _ => true
  | a :: r, m => if a ∈ m then hasAll r (m.erase a) else false

theorem hasAll_perm : ∀ (a m : List Nm.Part), a.length = m.length → (hasAll a m = true ↔ a.Perm m)
  | [], m, h => by
    have : m = [] := List.length_eq_zero_iff.1 (by simpa using h.symm)
    subst this; simp [hasAll]
  | x :: a, m, h => by
    rw [hasAll]
    split
    · rename_i hx
      have hl : a.length = (m.erase x).length := by rw [List.length_erase_of_mem hx]; simp at h; omega
      rw [hasAll_perm a _ hl]
      have hp := List.perm_cons_erase hx
      constructor
      · intro h1; exact (h1.cons x).trans hp.symm
      · intro h1; exact (h1.trans hp).cons_inv
    · rename_i hx
      simp only [Bool.false_eq_true, false_iff]
      intro h1
      exact hx (h1.mem_iff.1 (List.mem_cons_self ..))

def rdnEq (fold : Bool) (a b : List Nm.Part) : Bool := a.length == b.length && (hasAll (b.map (key fold)) (a.map (key fold)) && hasAll (a.map (key fold)) (b.map (key fold)))
theorem rdnEq_iff (fold : Bool) (a b : List Nm.Part) : rdnEq fold a b = true ↔ (a.map (key fold)).Perm (b.map (key fold)) := by
  unfold rdnEq
  by_cases h : a.length = b.length
  · have e : (a.length == b.length) = true := by simpa using h
    rw [e, Bool.true_and, Bool.and_eq_true, hasAll_perm _ _ (by simp [h]), hasAll_perm _ _ (by simp [h])]
    exact ⟨fun h => h.2, fun h => ⟨h.symm, h⟩⟩
  · have e : (a.length == b.length) = false := by simpa using h
    rw [e, Bool.false_and]
    simp only [Bool.false_eq_true, false_iff]
    intro hp
    exact h (by simpa using hp.length_eq)

/-- The two names are the same, one relative name after the other. -/
def namesEq (fold : Bool) : Nm.Name → Nm.Name → Bool
  | [], [] => true
  | a :: n, b :: m => rdnEq fold a b && namesEq fold n m
  | _, _ => false
def above (fold : Bool) (n m : Nm.Name) : Bool := decide (n.length < m.length) && namesEq fold n (m.drop (m.length - n.length))

theorem namesEq_len {fold : Bool} : ∀ {n m : Nm.Name}, namesEq fold n m = true → n.length = m.length
  | [], [], _ => rfl
  | [], _ :: _, h => by simp [namesEq] at h
  | _ :: _, [], h => by simp [namesEq] at h
  | a :: n, b :: m, h => by
    rw [namesEq, Bool.and_eq_true] at h
    simp [namesEq_len h.2]
theorem rdnEq_refl (fold : Bool) (a : List Nm.Part) : rdnEq fold a a = true := (rdnEq_iff ..).2 (List.Perm.refl _)
theorem namesEq_refl (fold : Bool) : ∀ n, namesEq fold n n = true
  | [] => rfl
  | a :: n => by rw [namesEq, rdnEq_refl, namesEq_refl fold n]; rfl
/-- Where two names of one length differ. -/
theorem namesEq_ne {fold : Bool} : ∀ {n m : Nm.Name} {i : Nat} {a b : List Nm.Part}, n[i]? = some a → m[i]? = some b → rdnEq fold a b = false → namesEq fold n m = false
  | [], _, i, a, b, h, _, _ => by simp at h
  | _ :: _, [], _, _, _, _, _, _ => rfl
  | x :: n, y :: m, 0, a, b, h1, h2, h3 => by
    simp only [List.getElem?_cons_zero, Option.some.injEq] at h1 h2
    subst h1 h2
    rw [namesEq, h3, Bool.false_and]
  | x :: n, y :: m, i + 1, a, b, h1, h2, h3 => by
    rw [namesEq, namesEq_ne (by simpa using h1) (by simpa using h2) h3, Bool.and_false]
theorem namesEq_false {fold : Bool} {n m : Nm.Name} (h : n.length ≠ m.length) : namesEq fold n m = false := by
  cases hh : namesEq fold n m with
  | false => rfl
  | true => exact absurd (namesEq_len hh) h
/-- As far as i relative names were the same. -/
theorem namesEq_all {fold : Bool} : ∀ {n m : Nm.Name}, n.length = m.length → (∀ (i : Nat) (a b : List Nm.Part), n[i]? = some a → m[i]? = some b → rdnEq fold a b = true) → namesEq fold n m = true
  | [], [], _, _ => rfl
  | [], _ :: _, h, _ => by simp at h
  | _ :: _, [], h, _ => by simp at h
  | x :: n, y :: m, h, hh => by
    rw [namesEq, hh 0 x y rfl rfl, namesEq_all (by simpa using h) (fun i a b h1 h2 => hh (i + 1) a b (by simpa using h1) (by simpa using h2))]; rfl
theorem namesEq_symm {fold : Bool} : ∀ {n m : Nm.Name}, namesEq fold n m = true → namesEq fold m n = true
  | [], [], _ => rfl
  | [], _ :: _, h => by simp [namesEq] at h
  | _ :: _, [], h => by simp [namesEq] at h
  | a :: n, b :: m, h => by
    rw [namesEq, Bool.and_eq_true] at h ⊢
    exact ⟨(rdnEq_iff ..).2 ((rdnEq_iff ..).1 h.1).symm, namesEq_symm h.2⟩
theorem namesEq_trans {fold : Bool} : ∀ {n m o : Nm.Name}, namesEq fold n m = true → namesEq fold m o = true → namesEq fold n o = true
  | [], [], [], _, _ => rfl
  | [], _ :: _, _, h, _ => by simp [namesEq] at h
  | _ :: _, [], _, h, _ => by simp [namesEq] at h
  | _, [], _ :: _, _, h => by simp [namesEq] at h
  | _, _ :: _, [], _, h => by simp [namesEq] at h
  | a :: n, b :: m, c :: o, h, k => by
    rw [namesEq, Bool.and_eq_true] at h k ⊢
    exact ⟨(rdnEq_iff ..).2 (((rdnEq_iff ..).1 h.1).trans ((rdnEq_iff ..).1 k.1)), namesEq_trans h.2 k.2⟩
theorem rdnEq_fold {a b : List Nm.Part} (h : rdnEq false a b = true) : rdnEq true a b = true := by
  rw [rdnEq_iff] at *
  have e : ∀ l : List Nm.Part, l.map (key true) = (l.map (key false)).map (fun p => (p.1, low p.2)) := fun l => by
    rw [List.map_map]; rfl
  rw [e a, e b]
  exact h.map _
theorem namesEq_fold : ∀ {n m : Nm.Name}, namesEq false n m = true → namesEq true n m = true
  | [], [], _ => rfl
  | [], _ :: _, h => by simp [namesEq] at h
  | _ :: _, [], h => by simp [namesEq] at h
  | a :: n, b :: m, h => by
    rw [namesEq, Bool.and_eq_true] at h ⊢
    exact ⟨rdnEq_fold h.1, namesEq_fold h.2⟩
end Go.Proofs.YtjmahgefijncaaaGreatFmt.NC
