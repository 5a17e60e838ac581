/- Postal addresses, in plain Lean. -/
import Derived.Test.YtjmahgefijncaaaGreatFmtUtf
namespace Go.Proofs.YtjmahgefijncaaaGreatFmt.Pos
open Go

def escB (c : UInt8) : List UInt8 := if c = 36 then [92, 50, 52] else if c = 92 then [92, 53, 67] else [c]
def esc (l : List UInt8) : List UInt8 := l.flatMap escB
/-- With a small letter. -/
def escC (c : UInt8) : List UInt8 := if c = 36 then [92, 50, 52] else if c = 92 then [92, 53, 99] else [c]
def escS (l : List UInt8) : List UInt8 := l.flatMap escC

/-- The text with dollars between the lines. -/
def between : List (List UInt8) → List UInt8
  | [] => []
  | [a] => a
  | a :: b :: r => a ++ 36 :: between (b :: r)
/-- The text with a dollar behind each line. -/
def behind (ls : List (List UInt8)) : List UInt8 := ls.flatMap fun l => l ++ [36]

theorem behind_between : ∀ {ls : List (List UInt8)}, ls ≠ [] → behind ls = between ls ++ [36]
  | [], h => absurd rfl h
  | [a], _ => by simp [behind, between]
  | a :: b :: r, _ => by
    have ih := behind_between (ls := b :: r) (by simp)
    simp only [behind, between, List.flatMap_cons, List.append_assoc] at ih ⊢
    rw [ih]; simp

def split : List UInt8 → List (List UInt8)
  | [] => [[]]
  | c :: r => if c = 36 then [] :: split r else match split r with
    | [] => [[c]]
    | h :: t => (c :: h) :: t

theorem split_ne (l : List UInt8) : split l ≠ [] := by
  cases l with
  | nil => simp [split]
  | cons c r => unfold split; split <;> (try split) <;> simp

theorem split_none : ∀ {l : List UInt8}, (∀ c ∈ l, c ≠ 36) → split l = [l]
  | [], _ => rfl
  | c :: r, h => by
    rw [split, if_neg (h c (List.mem_cons_self ..)), split_none (fun x hx => h x (List.mem_cons_of_mem _ hx))]
theorem split_at : ∀ {a r : List UInt8}, (∀ c ∈ a, c ≠ 36) → split (a ++ 36 :: r) = a :: split r
  | [], r, _ => by simp [split]
  | c :: a, r, h => by
    rw [List.cons_append, split, if_neg (h c (List.mem_cons_self ..)), split_at (fun x hx => h x (List.mem_cons_of_mem _ hx))]

theorem split_between : ∀ {ls : List (List UInt8)}, ls ≠ [] → (∀ l ∈ ls, ∀ c ∈ l, c ≠ 36) → split (between ls) = ls
  | [], h, _ => absurd rfl h
  | [a], _, h => split_none (h a (List.mem_singleton_self a))
  | a :: b :: r, _, h => by
    rw [between, split_at (h a (List.mem_cons_self ..)), split_between (by simp) (fun l hl => h l (List.mem_cons_of_mem _ hl))]
theorem split_between_end : ∀ {ls : List (List UInt8)}, ls ≠ [] → (∀ l ∈ ls, ∀ c ∈ l, c ≠ 36) → split (between ls ++ [36]) = ls ++ [[]]
  | [], h, _ => absurd rfl h
  | [a], _, h => by rw [between, split_at (h a (List.mem_singleton_self a))]; rfl
  | a :: b :: r, _, h => by
    rw [between, List.append_assoc, List.cons_append, split_at (h a (List.mem_cons_self ..)), split_between_end (by simp) (fun l hl => h l (List.mem_cons_of_mem _ hl))]; rfl

theorem escB_no (c : UInt8) : ∀ x ∈ escB c, x ≠ 36 := by
  intro x hx
  unfold escB at hx
  split at hx
  · simp at hx; rcases hx with rfl | rfl | rfl <;> decide
  · split at hx
    · simp at hx; rcases hx with rfl | rfl | rfl <;> decide
    · simp at hx; subst hx; assumption
theorem escC_no (c : UInt8) : ∀ x ∈ escC c, x ≠ 36 := by
  intro x hx
  unfold escC at hx
  split at hx
  · simp at hx; rcases hx with rfl | rfl | rfl <;> decide
  · split at hx
    · simp at hx; rcases hx with rfl | rfl | rfl <;> decide
    · simp at hx; subst hx; assumption
theorem esc_no (l : List UInt8) : ∀ x ∈ esc l, x ≠ 36 := by
  intro x hx
  obtain ⟨c, _, h⟩ := List.mem_flatMap.1 hx
  exact escB_no c x h
theorem escS_no (l : List UInt8) : ∀ x ∈ escS l, x ≠ 36 := by
  intro x hx
  obtain ⟨c, _, h⟩ := List.mem_flatMap.1 hx
  exact escC_no c x h

/-- What the escapes say. -/
def unesc : List UInt8 → Option (List UInt8)
  | [] => some []
  | c :: r =>
    if c = 92 then
      match r with
      | a :: b :: r2 =>
        if a = 53 ∧ (b = 67 ∨ b = 99) then (unesc r2).map (92 :: ·)
        else if a = 50 ∧ b = 52 then (unesc r2).map (36 :: ·)
        else none
      | _ => none
    else (unesc r).map (c :: ·)

theorem unesc_plain {c : UInt8} {r : List UInt8} (h : c ≠ 92) : unesc (c :: r) = (unesc r).map (c :: ·) := by
  cases r with
  | nil => simp [unesc, h]
  | cons a r => cases r <;> simp [unesc, h]

theorem unesc_esc : ∀ l, unesc (esc l) = some l
  | [] => rfl
  | c :: r => by
    have ih := unesc_esc r
    have e : esc (c :: r) = escB c ++ esc r := rfl
    rw [e]
    unfold escB
    split
    · rename_i h; subst h; simp [unesc, ih]
    · split
      · rename_i h; subst h; simp [unesc, ih]
      · rename_i h; show unesc (c :: esc r) = _; rw [unesc_plain h, ih]; rfl
theorem unesc_escS : ∀ l, unesc (escS l) = some l
  | [] => rfl
  | c :: r => by
    have ih := unesc_escS r
    have e : escS (c :: r) = escC c ++ escS r := rfl
    rw [e]
    unfold escC
    split
    · rename_i h; subst h; simp [unesc, ih]
    · split
      · rename_i h; subst h; simp [unesc, ih]
      · rename_i h; show unesc (c :: escS r) = _; rw [unesc_plain h, ih]; rfl

/-- NameSmall: \5C as \5c. -/
def small : UInt8 → UInt8 → List UInt8 → List UInt8
  | _, _, [] => []
  | p, q, c :: r => (if c = 67 ∧ q = 53 ∧ p = 92 then 99 else c) :: small q c r

theorem small_escB : ∀ (c p q : UInt8) (r : List UInt8), q ≠ 92 → ¬ (p = 92 ∧ q = 53) → ∃ p' q', q' ≠ 92 ∧ ¬ (p' = 92 ∧ q' = 53) ∧ small p q (escB c ++ r) = escC c ++ small p' q' r := by
  intro c p q r hq hpq
  unfold escB escC
  split
  · exact ⟨50, 52, by decide, by decide, by simp [small]⟩
  · split
    · exact ⟨53, 67, by decide, by decide, by simp [small]⟩
    · rename_i h1 h2
      refine ⟨q, c, h2, fun h => hq h.1, ?_⟩
      have : ¬ (c = 67 ∧ q = 53 ∧ p = 92) := fun h => hpq ⟨h.2.2, h.2.1⟩
      simp [small, this]

theorem small_esc : ∀ (l : List UInt8) (p q : UInt8) (r : List UInt8), q ≠ 92 → ¬ (p = 92 ∧ q = 53) → ∃ p' q', q' ≠ 92 ∧ ¬ (p' = 92 ∧ q' = 53) ∧ small p q (esc l ++ r) = escS l ++ small p' q' r
  | [], p, q, r, hq, hpq => ⟨p, q, hq, hpq, rfl⟩
  | c :: l, p, q, r, hq, hpq => by
    obtain ⟨p1, q1, h1, h2, e1⟩ := small_escB c p q (esc l ++ r) hq hpq
    obtain ⟨p2, q2, h3, h4, e2⟩ := small_esc l p1 q1 r h1 h2
    refine ⟨p2, q2, h3, h4, ?_⟩
    show small p q ((escB c ++ esc l) ++ r) = (escC c ++ escS l) ++ _
    rw [List.append_assoc, e1, e2, List.append_assoc]

theorem small_between : ∀ (ls : List (List UInt8)) (p q : UInt8), q ≠ 92 → ¬ (p = 92 ∧ q = 53) → small p q (between (ls.map esc)) = between (ls.map escS)
  | [], _, _, _, _ => rfl
  | [a], p, q, hq, hpq => by
    obtain ⟨p1, q1, _, _, e1⟩ := small_esc a p q [] hq hpq
    simpa [between, small] using e1
  | a :: b :: r, p, q, hq, hpq => by
    obtain ⟨p1, q1, h1, h2, e1⟩ := small_esc a p q (36 :: between ((b :: r).map esc)) hq hpq
    have ih := small_between (b :: r) q1 36 (by decide) (fun h => by simp at h)
    simp only [List.map_cons, between] at e1 ih ⊢
    rw [e1, small, if_neg (fun h => by simp at h), ih]

/-- Of runes: the same. -/
def escR (r : Nat) : List UInt8 := if r = 92 then [92, 53, 67] else if r = 36 then [92, 50, 52] else Lib.encodeRune (r : Int)
theorem enc_high {r : Nat} (h : 128 ≤ r) (hv : OkRune r) : ∀ x ∈ Lib.encodeRune (r : Int), 128 ≤ x.toNat := by
  have hv' := hv
  unfold OkRune at hv'
  intro x hx
  rcases Nat.lt_or_ge r 2048 with h1 | h1
  · rw [enc_two h h1] at hx; simp only [List.mem_cons, List.not_mem_nil, or_false] at hx
    rcases hx with rfl | rfl <;> (rw [toNat_u8 (by omega)]; omega)
  rcases Nat.lt_or_ge r 65536 with h2 | h2
  · rw [enc_three h1 h2 hv] at hx; simp only [List.mem_cons, List.not_mem_nil, or_false] at hx
    rcases hx with rfl | rfl | rfl <;> (rw [toNat_u8 (by omega)]; omega)
  · rw [enc_four h2 hv] at hx; simp only [List.mem_cons, List.not_mem_nil, or_false] at hx
    rcases hx with rfl | rfl | rfl | rfl <;> (rw [toNat_u8 (by omega)]; omega)

theorem esc_plain : ∀ l : List UInt8, (∀ x ∈ l, x ≠ 36 ∧ x ≠ 92) → esc l = l
  | [], _ => rfl
  | c :: r, h => by
    obtain ⟨h1, h2⟩ := h c (List.mem_cons_self ..)
    show escB c ++ esc r = _
    rw [esc_plain r (fun x hx => h x (List.mem_cons_of_mem _ hx))]
    simp [escB, h1, h2]

theorem esc_append (a b : List UInt8) : esc (a ++ b) = esc a ++ esc b := by simp [esc]

theorem esc_rune (r : Nat) (hv : OkRune r) : esc (Lib.encodeRune (r : Int)) = escR r := by
  unfold escR
  split
  · rename_i h; subst h; rw [enc_one (by decide)]; rfl
  split
  · rename_i h; subst h; rw [enc_one (by decide)]; rfl
  · rename_i h1 h2
    rcases Nat.lt_or_ge r 128 with h | h
    · rw [enc_one h]
      apply esc_plain
      intro x hx
      simp only [List.mem_cons, List.not_mem_nil, or_false] at hx
      subst hx
      constructor
      · intro e; have := congrArg UInt8.toNat e; rw [toNat_u8 (by omega)] at this; exact h2 this
      · intro e; have := congrArg UInt8.toNat e; rw [toNat_u8 (by omega)] at this; exact h1 this
    · apply esc_plain
      intro x hx
      have := enc_high h hv x hx
      constructor
      · intro e; subst e; revert this; decide
      · intro e; subst e; revert this; decide
theorem esc_encs : ∀ rs : List Nat, (∀ r ∈ rs, OkRune r) → esc (encs rs) = rs.flatMap escR
  | [], _ => rfl
  | r :: rs, h => by
    rw [encs_cons, esc_append, esc_rune r (h r (List.mem_cons_self ..)), esc_encs rs (fun x hx => h x (List.mem_cons_of_mem _ hx))]; rfl

/-- The lines that are not empty, unescaped. -/
def read : List (List UInt8) → Option (List (List UInt8))
  | [] => some []
  | p :: r => if p = [] then read r else match unesc p, read r with
    | some x, some y => some (x :: y)
    | _, _ => none

theorem read_some {p : List UInt8} {r u : List (List UInt8)} (h : p ≠ []) (hr : read (p :: r) = some u) : ∃ x y, unesc p = some x ∧ read r = some y ∧ u = x :: y := by
  rw [read, if_neg h] at hr
  cases hx : unesc p with
  | none => rw [hx] at hr; cases hr
  | some x =>
    cases hy : read r with
    | none => rw [hx, hy] at hr; cases hr
    | some y => rw [hx, hy] at hr; exact ⟨x, y, rfl, rfl, (Option.some.inj hr).symm⟩

theorem esc_ne {l : List UInt8} (h : l ≠ []) : esc l ≠ [] := by
  cases l with
  | nil => exact absurd rfl h
  | cons c r => show escB c ++ esc r ≠ []; unfold escB; split <;> (try split) <;> simp
theorem escS_ne {l : List UInt8} (h : l ≠ []) : escS l ≠ [] := by
  cases l with
  | nil => exact absurd rfl h
  | cons c r => show escC c ++ escS r ≠ []; unfold escC; split <;> (try split) <;> simp

theorem read_map {f : List UInt8 → List UInt8} (hf : ∀ l, unesc (f l) = some l) (hn : ∀ l, l ≠ [] → f l ≠ []) : ∀ ls : List (List UInt8), (∀ l ∈ ls, l ≠ []) → ∀ t, read t = some [] → read (ls.map f ++ t) = some ls
  | [], _, t, ht => ht
  | a :: r, h, t, ht => by
    rw [List.map_cons, List.cons_append, read, if_neg (hn a (h a (List.mem_cons_self ..))), hf, read_map hf hn r (fun x hx => h x (List.mem_cons_of_mem _ hx)) t ht]

/-- What a backslash must have behind it. -/
theorem unesc_slash {r u : List UInt8} (h : unesc (92 :: r) = some u) : ∃ a b r2 c v, r = a :: b :: r2 ∧ unesc r2 = some v ∧ u = c :: v ∧ ((a = 53 ∧ b = 67 ∧ c = 92) ∨ (a = 53 ∧ b = 99 ∧ c = 92) ∨ (a = 50 ∧ b = 52 ∧ c = 36)) := by
  cases r with
  | nil => simp [unesc] at h
  | cons a r =>
    cases r with
    | nil => simp [unesc] at h
    | cons b r2 =>
      rw [unesc, if_pos rfl] at h
      split at h
      · rename_i h1
        obtain ⟨v, hv, e⟩ := Option.map_eq_some_iff.1 h
        rcases h1 with ⟨h1, h2 | h2⟩
        · exact ⟨a, b, r2, 92, v, rfl, hv, e.symm, Or.inl ⟨h1, h2, rfl⟩⟩
        · exact ⟨a, b, r2, 92, v, rfl, hv, e.symm, Or.inr (Or.inl ⟨h1, h2, rfl⟩)⟩
      · split at h
        · rename_i h1
          obtain ⟨v, hv, e⟩ := Option.map_eq_some_iff.1 h
          exact ⟨a, b, r2, 36, v, rfl, hv, e.symm, Or.inr (Or.inr ⟨h1.1, h1.2, rfl⟩)⟩
        · cases h
end Go.Proofs.YtjmahgefijncaaaGreatFmt.Pos
