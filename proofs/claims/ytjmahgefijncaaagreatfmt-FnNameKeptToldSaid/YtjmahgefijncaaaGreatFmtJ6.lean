/- Postal addresses, in plain Lean. -/
import Derived.Test.YtjmahgefijncaaaGreatFmtJ1
import Derived.Test.YtjmahgefijncaaaGreatFmtJ5
import Derived.Test.YtjmahgefijncaaaGreatFmtJ3
set_option linter.unusedVariables false
set_option linter.unusedSimpArgs false
namespace Go.Proofs.YtjmahgefijncaaaGreatFmt.Pos
open Go

def escB (c : UInt8) : List UInt8 := if c = 36 then [92, 50, 52] else if c = 92 then [92, 53, 67] else [c]
def esc (l : List UInt8) : List UInt8 := l.flatMap escB
/-- With a small letter. -/
def escC (c : UInt8) : List UInt8 := if c = 36 then [92, 50, 52] else if c = 92 then [92, 53, 99] else [c]
def escS (l : List UInt8) : List UInt8 := l.flatMap escC

/-- The text with dollars between the lines. -/
def between : List (List UInt8) → List UInt8
  | [] => []
  | [a] => a
  | a :: b :: r => a ++ 36 :: between (b :: r)
/-- The text with a dollar behind each line. -/
def behind (ls : List (List UInt8)) : List UInt8 := ls.flatMap fun l => l ++ [36]

theorem behind_between : ∀ {ls : List (List UInt8)}, ls ≠ [] → behind ls = between ls ++ [36]
  | [], h => absurd rfl h
  | [a], _ => by simp [behind, between]
  | a :: b :: r, _ => by
    have ih := behind_between (ls := b :: r) (by simp)
    simp only [behind, between, List.flatMap_cons, List.append_assoc] at ih ⊢
    rw [ih]; simp

def split : List UInt8 → List (List UInt8)
  | [] => [[]]
  | c :: r => if c = 36 then [] :: split r else match split r with
    | [] => [[c]]
    | h :: t => (c :: h) :: t

theorem split_ne (l : List UInt8) : split l ≠ [] := by
  cases l with
  | nil => simp [split]
  | cons c r => unfold split; split <;> (try split) <;> simp

theorem split_none : ∀ {l : List UInt8}, (∀ c ∈ l, c ≠ 36) → split l = [l]
  | [], _ => rfl
  | c :: r, h => by
    rw [split, if_neg (h c (List.mem_cons_self ..)), split_none (fun x hx => h x (List.mem_cons_of_mem _ hx))]
theorem split_at : ∀ {a r : List UInt8}, (∀ c ∈ a, c ≠ 36) → split (a ++ 36 :: r) = a :: split r
  | [], r, _ => by simp [split]
  | c :: a, r, h => by
    rw [List.cons_append, split, if_neg (h c (List.mem_cons_self ..)), split_at (fun x hx => h x (List.mem_cons_of_mem _ hx))]

theorem split_between : ∀ {ls : List (List UInt8)}, ls ≠ [] → (∀ l ∈ ls, ∀ c ∈ l, c ≠ 36) → split (between ls) = ls
  | [], h, _ => absurd rfl h
  | [a], _, h => split_none (h a (List.mem_singleton_self a))
  | a :: b :: r, _, h => by
    rw [between, split_at (h a (List.mem_cons_self ..)), split_between (by simp) (fun l hl => h l (List.mem_cons_of_mem _ hl))]
theorem split_between_end : ∀ {ls : List (List UInt8)}, ls ≠ [] → (∀ l ∈ ls, ∀ c ∈ l, c ≠ 36) → split (between ls ++ [36]) = ls ++ [[]]
  | [], h, _ => absurd rfl h
  | [a], _, h => by rw [between, split_at (h a (List.mem_singleton_self a))]; rfl
  | a :: b :: r, _, h => by
    rw [between, List.append_assoc, List.cons_append, split_at (h a (List.mem_cons_self ..)), split_between_end (by simp) (fun l hl => h l (List.mem_cons_of_mem _ hl))]; rfl

theorem escB_no (c : UInt8) : ∀ x ∈ escB c, x ≠ 36 := by
  intro x hx
  unfold escB at hx
  split at hx
  · simp at hx; rcases hx with rfl | rfl | rfl <;> decide
  · split at hx
    · simp at hx; rcases hx with rfl | rfl | rfl <;> decide
    · simp at hx; subst hx; assumption
theorem escC_no (c : UInt8) : ∀ x ∈ escC c, x ≠ 36 := by
  intro x hx
  unfold escC at hx
  split at hx
  · simp at hx; rcases hx with rfl | rfl | rfl <;> decide
  · split at hx
    · simp at hx; rcases hx with rfl | rfl | rfl <;> decide
    · simp at hx; subst hx; assumption
theorem esc_no (l : List UInt8) : ∀ x ∈ esc l, x ≠ 36 := by
  intro x hx
  obtain ⟨c, _, h⟩ := List.mem_flatMap.1 hx
  exact escB_no c x h
theorem escS_no (l : List UInt8) : ∀ x ∈ escS l, x ≠ 36 := by
  intro x hx
  obtain ⟨c, _, h⟩ := List.mem_flatMap.1 hx
  exact escC_no c x h

/-- What the escapes say. -/
def unesc : List UInt8 → Option (List UInt8)
  | [] => some []
  | c :: r =>
    if c = 92 then
      match r with
      | a :: b :: r2 =>
        if a = 53 ∧ (b = 67 ∨ b = 99) then (unesc r2).map (92 :: ·)
        else if a = 50 ∧ b = 52 then (unesc r2).map (36 :: ·)
        else none
      | _ => none
    else (unesc r).map (c :: ·)

theorem unesc_plain {c : UInt8} {r : List UInt8} (h : c ≠ 92) : unesc (c :: r) = (unesc r).map (c :: ·) := by
  cases r with
  | nil => simp [unesc, h]
  | cons a r => cases r <;> simp [unesc, h]

theorem unesc_esc : ∀ l, unesc (esc l) = some l
  | [] => rfl
  | c :: r => by
    have ih := unesc_esc r
    have e : esc (c :: r) = escB c ++ esc r := rfl
    rw [e]
    unfold escB
    split
    · rename_i h; subst h; simp [unesc, ih]
    · split
      · rename_i h; subst h; simp [unesc, ih]
      · rename_i h; show unesc (c :: esc r) = _; rw [unesc_plain h, ih]; rfl
theorem unesc_escS : ∀ l, unesc (escS l) = some l
  | [] => rfl
  | c :: r => by
    have ih := unesc_escS r
    have e : escS (c :: r) = escC c ++ escS r := rfl
    rw [e]
    unfold escC
    split
    · rename_i h; subst h; simp [unesc, ih]
    · split
      · rename_i h; subst h; simp [unesc, ih]
      · rename_i h; show unesc (c :: escS r) = _; rw [unesc_plain h, ih]; rfl

/-- NameSmall: \5C as \5c. -/
def small : UInt8 → UInt8 → List UInt8 → List UInt8
  | _, _, [] => []
  | p, q, c :: r => (if c = 67 ∧ q = 53 ∧ p = 92 then 99 else c) :: small q c r

theorem small_escB : ∀ (c p q : UInt8) (r : List UInt8), q ≠ 92 → ¬ (p = 92 ∧ q = 53) → ∃ p' q', q' ≠ 92 ∧ ¬ (p' = 92 ∧ q' = 53) ∧ small p q (escB c ++ r) = escC c ++ small p' q' r := by
  intro c p q r hq hpq
  unfold escB escC
  split
  · exact ⟨50, 52, by decide, by decide, by simp [small]⟩
  · split
    · exact ⟨53, 67, by decide, by decide, by simp [small]⟩
    · rename_i h1 h2
      refine ⟨q, c, h2, fun h => hq h.1, ?_⟩
      have : ¬ (c = 67 ∧ q = 53 ∧ p = 92) := fun h => hpq ⟨h.2.2, h.2.1⟩
      simp [small, this]

theorem small_esc : ∀ (l : List UInt8) (p q : UInt8) (r : List UInt8), q ≠ 92 → ¬ (p = 92 ∧ q = 53) → ∃ p' q', q' ≠ 92 ∧ ¬ (p' = 92 ∧ q' = 53) ∧ small p q (esc l ++ r) = escS l ++ small p' q' r
  | [], p, q, r, hq, hpq => ⟨p, q, hq, hpq, rfl⟩
  | c :: l, p, q, r, hq, hpq => by
    obtain ⟨p1, q1, h1, h2, e1⟩ := small_escB c p q (esc l ++ r) hq hpq
    obtain ⟨p2, q2, h3, h4, e2⟩ := small_esc l p1 q1 r h1 h2
    refine ⟨p2, q2, h3, h4, ?_⟩
    show small p q ((escB c ++ esc l) ++ r) = (escC c ++ escS l) ++ _
    rw [List.append_assoc, e1, e2, List.append_assoc]

theorem small_between : ∀ (ls : List (List UInt8)) (p q : UInt8), q ≠ 92 → ¬ (p = 92 ∧ q = 53) → small p q (between (ls.map esc)) = between (ls.map escS)
  | [], _, _, _, _ => rfl
  | [a], p, q, hq, hpq => by
    obtain ⟨p1, q1, _, _, e1⟩ := small_esc a p q [] hq hpq
    simpa [between, small] using e1
  | a :: b :: r, p, q, hq, hpq => by
    obtain ⟨p1, q1, h1, h2, e1⟩ := small_esc a p q (36 :: between ((b :: r).map esc)) hq hpq
    have ih := small_between (b :: r) q1 36 (by decide) (fun h => by simp at h)
    simp only [List.map_cons, between] at e1 ih ⊢
    rw [e1, small, if_neg (fun h => by simp at h), ih]

/-- Of runes: the same. -/
def escR (r : Nat) : List UInt8 := if r = 92 then [92, 53, 67] else if r = 36 then [92, 50, 52] else Lib.encodeRune (r : Int)
theorem enc_high {r : Nat} (h : 128 ≤ r) (hv : OkRune r) : ∀ x ∈ Lib.encodeRune (r : Int), 128 ≤ x.toNat := by
  have hv' := hv
  unfold OkRune at hv'
  intro x hx
  rcases Nat.lt_or_ge r 2048 with h1 | h1
  · rw [enc_two h h1] at hx; simp only [List.mem_cons, List.not_mem_nil, or_false] at hx
    rcases hx with rfl | rfl <;> (rw [toNat_u8 (by omega)]; omega)
  rcases Nat.lt_or_ge r 65536 with h2 | h2
  · rw [enc_three h1 h2 hv] at hx; simp only [List.mem_cons, List.not_mem_nil, or_false] at hx
    rcases hx with rfl | rfl | rfl <;> (rw [toNat_u8 (by omega)]; omega)
  · rw [enc_four h2 hv] at hx; simp only [List.mem_cons, List.not_mem_nil, or_false] at hx
    rcases hx with rfl | rfl | rfl | rfl <;> (rw [toNat_u8 (by omega)]; omega)

theorem esc_plain : ∀ l : List UInt8, (∀ x ∈ l, x ≠ 36 ∧ x ≠ 92) → esc l = l
  | [], _ => rfl
  | c :: r, h => by
    obtain ⟨h1, h2⟩ := h c (List.mem_cons_self ..)
    show escB c ++ esc r = _
    rw [esc_plain r (fun x hx => h x (List.mem_cons_of_mem _ hx))]
    simp [escB, h1, h2]

theorem esc_append (a b : List UInt8) : esc (a ++ b) = esc a ++ esc b := by simp [esc]

theorem esc_rune (r : Nat) (hv : OkRune r) : esc (Lib.encodeRune (r : Int)) = escR r := by
  unfold escR
  split
  · rename_i h; subst h; rw [enc_one (by decide)]; rfl
  split
  · rename_i h; subst h; rw [enc_one (by decide)]; rfl
  · rename_i h1 h2
    rcases Nat.lt_or_ge r 128 with h | h
    · rw [enc_one h]
      apply esc_plain
      intro x hx
      simp only [List.mem_cons, List.not_mem_nil, or_false] at hx
      subst hx
      constructor
      · intro e; have := congrArg UInt8.toNat e; rw [toNat_u8 (by omega)] at this; exact h2 this
      · intro e; have := congrArg UInt8.toNat e; rw [toNat_u8 (by omega)] at this; exact h1 this
    · apply esc_plain
      intro x hx
      have := enc_high h hv x hx
      constructor
      · intro e; subst e; revert this; decide
      · intro e; subst e; revert this; decide
theorem esc_encs : ∀ rs : List Nat, (∀ r ∈ rs, OkRune r) → esc (encs rs) = rs.flatMap escR
  | [], _ => rfl
  | r :: rs, h => by
    rw [encs_cons, esc_append, esc_rune r (h r (List.mem_cons_self ..)), esc_encs rs (fun x hx => h x (List.mem_cons_of_mem _ hx))]; rfl

/-- The lines that are not empty, unescaped. -/
def read : List (List UInt8) → Option (List (List UInt8))
  | [] => some []
  | p :: r => if p = [] then read r else match unesc p, read r with
    | some x, some y => some (x :: y)
    | _, _ => none

theorem read_some {p : List UInt8} {r u : List (List UInt8)} (h : p ≠ []) (hr : read (p :: r) = some u) : ∃ x y, unesc p = some x ∧ read r = some y ∧ u = x :: y := by
  rw [read, if_neg h] at hr
  cases hx : unesc p with
  | none => rw [hx] at hr; cases hr
  | some x =>
    cases hy : read r with
    | none => rw [hx, hy] at hr; cases hr
    | some y => rw [hx, hy] at hr; exact ⟨x, y, rfl, rfl, (Option.some.inj hr).symm⟩

theorem esc_ne {l : List UInt8} (h : l ≠ []) : esc l ≠ [] := by
  cases l with
  | nil => exact absurd rfl h
  | cons c r => show escB c ++ esc r ≠ []; unfold escB; split <;> (try split) <;> simp
theorem escS_ne {l : List UInt8} (h : l ≠ []) : escS l ≠ [] := by
  cases l with
  | nil => exact absurd rfl h
  | cons c r => show escC c ++ escS r ≠ []; unfold escC; split <;> (try split) <;> simp

theorem read_map {f : List UInt8 → List UInt8} (hf : ∀ l, unesc (f l) = some l) (hn : ∀ l, l ≠ [] → f l ≠ []) : ∀ ls : List (List UInt8), (∀ l ∈ ls, l ≠ []) → ∀ t, read t = some [] → read (ls.map f ++ t) = some ls
  | [], _, t, ht => ht
  | a :: r, h, t, ht => by
    rw [List.map_cons, List.cons_append, read, if_neg (hn a (h a (List.mem_cons_self ..))), hf, read_map hf hn r (fun x hx => h x (List.mem_cons_of_mem _ hx)) t ht]

/-- What a backslash must have behind it. -/
theorem unesc_slash {r u : List UInt8} (h : unesc (92 :: r) = some u) : ∃ a b r2 c v, r = a :: b :: r2 ∧ unesc r2 = some v ∧ u = c :: v ∧ ((a = 53 ∧ b = 67 ∧ c = 92) ∨ (a = 53 ∧ b = 99 ∧ c = 92) ∨ (a = 50 ∧ b = 52 ∧ c = 36)) := by
  cases r with
  | nil => simp [unesc] at h
  | cons a r =>
    cases r with
    | nil => simp [unesc] at h
    | cons b r2 =>
      rw [unesc, if_pos rfl] at h
      split at h
      · rename_i h1
        obtain ⟨v, hv, e⟩ := Option.map_eq_some_iff.1 h
        rcases h1 with ⟨h1, h2 | h2⟩
        · exact ⟨a, b, r2, 92, v, rfl, hv, e.symm, Or.inl ⟨h1, h2, rfl⟩⟩
        · exact ⟨a, b, r2, 92, v, rfl, hv, e.symm, Or.inr (Or.inl ⟨h1, h2, rfl⟩)⟩
      · split at h
        · rename_i h1
          obtain ⟨v, hv, e⟩ := Option.map_eq_some_iff.1 h
          exact ⟨a, b, r2, 36, v, rfl, hv, e.symm, Or.inr (Or.inr ⟨h1.1, h1.2, rfl⟩)⟩
        · cases h
end Go.Proofs.YtjmahgefijncaaaGreatFmt.Pos

/- The text of a name, in plain Lean. -/
namespace Go.Proofs.YtjmahgefijncaaaGreatFmt.NT
open Go set_option linter.unusedVariables false set_option linter.unusedSimpArgs false

def must (c : UInt8) (first last : Bool) : Bool :=
  c == 34 || c == 43 || c == 44 || c == 59 || c == 60 || c == 62 || c == 92 || c == 0 || (c == 32 && (first || last)) || (c == 35 && first)
def spc (c : UInt8) : Bool := c == 92 || c == 34 || c == 43 || c == 44 || c == 59 || c == 60 || c == 62 || c == 32 || c == 35 || c == 61
/-- A digit: big letters where k is true. -/
def hx (k : Bool) (d : UInt8) : UInt8 := if d < 10 then 48 + d else if k then 55 + d else 87 + d
def byDigits (c : UInt8) (first last : Bool) (how : UInt8) : Bool := how % 5 == 4 || c == 0 || (must c first last && !spc c)
def bySlash (c : UInt8) (first last : Bool) (how : UInt8) : Bool := must c first last || (spc c && how % 5 == 3)
def big (how : UInt8) : Bool := (how / 16) % 2 == 1
def escB (c : UInt8) (first last : Bool) (how : UInt8) : List UInt8 :=
  if byDigits c first last how then [92, hx (big how) (c / 16), hx (big how) (c % 16)] else if bySlash c first last how then [92, c] else [c]

section
variable (st : Nat → UInt8)
/-- The text of a value, and how many bytes of the style are used. -/
def valText : List UInt8 → Bool → Nat → List UInt8 × Nat
  | [], _, k => ([], k)
  | c :: r, first, k =>
    if 128 ≤ c then (c :: (valText r false k).1, (valText r false k).2)
    else (escB c first r.isEmpty (st k) ++ (valText r false (k + 1)).1, (valText r false (k + 1)).2)

def hexB (c : UInt8) : List UInt8 := [hx false (c / 16), hx false (c % 16)]
def hashText (v : List UInt8) : List UInt8 := [35, 48, 52] ++ hexB v.length.toUInt8 ++ v.flatMap hexB

/-- The text of a part's value. -/
def sideText (v : List UInt8) (k : Nat) : List UInt8 × Nat :=
  if st k % 7 = 6 ∧ v.length < 128 then (hashText v, k + 1) else valText st v true (k + 1)
def partText (p : Nm.Part) (k : Nat) : List UInt8 × Nat := (p.1 ++ 61 :: (sideText st p.2 k).1, (sideText st p.2 k).2)
def partsText : List Nm.Part → Bool → Nat → List UInt8 × Nat
  | [], _, k => ([], k)
  | p :: r, started, k => ((if started then [43] else []) ++ (partText st p k).1 ++ (partsText r true (partText st p k).2).1, (partsText r true (partText st p k).2).2)
def nameText : Nm.Name → Bool → Nat → List UInt8 × Nat
  | [], _, k => ([], k)
  | ps :: r, started, k => ((if started then [44] else []) ++ (partsText st ps false k).1 ++ (nameText r true (partsText st ps false k).2).1, (nameText r true (partsText st ps false k).2).2)
end

/-! The forms of a rune. -/
def Form (r : Nat) (f : List Nat) : Prop :=
  (f = [r] ∧ Nm.refused r = false ∧ r ≠ 92) ∨ (f = [92, r] ∧ Nm.special r = true) ∨
  (∃ a b x y, f = [92, a, b] ∧ Nm.special a = false ∧ Nm.hexDigit a = some x ∧ Nm.hexDigit b = some y ∧ r = x * 16 + y ∧ r < 128)

theorem unescape_form {r : Nat} {f rest : List Nat} (h : Form r f) : Nm.unescape (f ++ rest) = (Nm.unescape rest).map (Lib.encodeRune (r : Int) ++ ·) := by
  rcases h with ⟨rfl, h1, h2⟩ | ⟨rfl, h1⟩ | ⟨a, b, x, y, rfl, h1, h2, h3, h4, h5⟩
  · show Nm.unescape (r :: rest) = _
    conv => lhs; unfold Nm.unescape
    rw [if_neg h2, h1]; simp
  · show Nm.unescape (92 :: r :: rest) = _
    conv => lhs; unfold Nm.unescape
    rw [if_pos rfl]; simp only [h1, if_true]
  · show Nm.unescape (92 :: a :: b :: rest) = _
    conv => lhs; unfold Nm.unescape
    rw [if_pos rfl]; simp only [h1, h2, h3, Bool.false_eq_true, if_false]
    rw [enc_one h5, h4]; rfl

theorem unescape_forms : ∀ fs : List (Nat × List Nat), (∀ p ∈ fs, Form p.1 p.2) → Nm.unescape (fs.map (·.2)).flatten = some (encs (fs.map (·.1)))
  | [], _ => rfl
  | p :: fs, h => by
    rw [List.map_cons, List.flatten_cons, unescape_form (h p (List.mem_cons_self ..)), unescape_forms fs (fun q hq => h q (List.mem_cons_of_mem _ hq))]
    rfl

theorem form_ok {r : Nat} {f : List Nat} (h : Form r f) (hr : OkRune r) : ∀ x ∈ f, OkRune x := by
  rcases h with ⟨rfl, _⟩ | ⟨rfl, _⟩ | ⟨a, b, x, y, rfl, _, h2, h3, _⟩
  · simpa using hr
  · intro x hx; simp at hx; rcases hx with rfl | rfl
    · left; decide
    · exact hr
  · have := (hex_of h2).2.2
    have := (hex_of h3).2.2
    intro z hz; simp at hz; left; rcases hz with rfl | rfl | rfl <;> omega

/-! Bytes below 128. -/
theorem esc_all : ∀ (n : Nat), n < 128 → ∀ (first last : Bool) (m : Nat), m < 5 → ∀ b : Bool,
    let c := n.toUInt8
    let f := if (m == 4 || c == 0 || (must c first last && !spc c)) then [92, (hx b (c / 16)).toNat, (hx b (c % 16)).toNat] else if (must c first last || (spc c && m == 3)) then [92, n] else [n]
    ((f == [n] && !Nm.refused n && n != 92) || (f == [92, n] && Nm.special n) || (match f with
      | [92, a, b] => !Nm.special a && (match Nm.hexDigit a, Nm.hexDigit b with | some x, some y => n == x * 16 + y | _, _ => false)
      | _ => false)) = true := by decide +kernel

theorem mod5 (how : UInt8) (n : Nat) (hn : n < 5) : (how % 5 == n.toUInt8) = (how.toNat % 5 == n) := by
  have e : (how % 5).toNat = how.toNat % 5 := rfl
  have en : n.toUInt8.toNat = n := toNat_u8 (by omega)
  rw [Bool.eq_iff_iff, beq_iff_eq, beq_iff_eq]
  constructor
  · intro h; rw [← e, h, en]
  · intro h; apply UInt8.toNat_inj.1; rw [e, en, h]

theorem encs_low : ∀ f : List Nat, (∀ x ∈ f, x < 128) → encs f = f.map (·.toUInt8)
  | [], _ => rfl
  | a :: f, h => by
    rw [encs_cons, enc_one (h a (List.mem_cons_self ..)), encs_low f (fun x hx => h x (List.mem_cons_of_mem _ hx))]; rfl

theorem toNat_toU8 (x : UInt8) : x.toNat.toUInt8 = x := by simp

theorem escB_form (c : UInt8) (hc : c.toNat < 128) (first last : Bool) (how : UInt8) : ∃ f, Form c.toNat f ∧ escB c first last how = encs f := by
  have h := esc_all c.toNat hc first last (how.toNat % 5) (Nat.mod_lt _ (by decide)) (big how)
  simp only [toNat_toU8] at h
  have e4 : (how.toNat % 5 == 4) = (how % 5 == 4) := (mod5 how 4 (by decide)).symm
  have e3 : (how.toNat % 5 == 3) = (how % 5 == 3) := (mod5 how 3 (by decide)).symm
  rw [e4, e3] at h
  have hd : ∀ d : UInt8, d.toNat < 16 → ∀ b, (hx b d).toNat < 128 := by
    have : ∀ n, n < 16 → ∀ b : Bool, (hx b n.toUInt8).toNat < 128 := by decide +kernel
    intro d hd b
    have := this d.toNat hd b
    rwa [toNat_toU8] at this
  have d1 : (c / 16).toNat < 16 := by rw [UInt8.toNat_div]; show c.toNat / 16 < 16; omega
  have d2 : (c % 16).toNat < 16 := by rw [UInt8.toNat_mod]; show c.toNat % 16 < 16; omega
  have hform : ∀ f : List Nat, (∀ x ∈ f, x < 128) → ((f == [c.toNat] && !Nm.refused c.toNat && c.toNat != 92) || (f == [92, c.toNat] && Nm.special c.toNat) || (match f with
      | [92, a, b] => !Nm.special a && (match Nm.hexDigit a, Nm.hexDigit b with | some x, some y => c.toNat == x * 16 + y | _, _ => false)
      | _ => false)) = true → Form c.toNat f := by
    intro f _ hf
    simp only [Bool.or_eq_true, Bool.and_eq_true, beq_iff_eq, bne_iff_ne, Bool.not_eq_true'] at hf
    rcases hf with (⟨⟨h1, h2⟩, h3⟩ | ⟨h1, h2⟩) | hf
    · exact Or.inl ⟨h1, h2, h3⟩
    · exact Or.inr (Or.inl ⟨h1, h2⟩)
    · right; right
      split at hf
      · rename_i a b _
        simp only [Bool.and_eq_true, Bool.not_eq_true'] at hf
        obtain ⟨h1, h2⟩ := hf
        split at h2
        · rename_i x y hx hy
          exact ⟨a, b, x, y, rfl, h1, hx, hy, by simpa using h2, hc⟩
        · cases h2
      · cases hf
  unfold escB byDigits bySlash
  split at h <;> rename_i hA
  · rw [if_pos hA]
    have hl : ∀ x ∈ [92, (hx (big how) (c / 16)).toNat, (hx (big how) (c % 16)).toNat], x < 128 := by
      intro x hx; simp only [List.mem_cons, List.not_mem_nil, or_false] at hx
      rcases hx with rfl | rfl | rfl
      · decide
      · exact hd _ d1 _
      · exact hd _ d2 _
    exact ⟨_, hform _ hl h, by rw [encs_low _ hl]; simp⟩
  · rw [if_neg hA]
    split at h <;> rename_i hB
    · rw [if_pos hB]
      have hl : ∀ x ∈ [92, c.toNat], x < 128 := by
        intro x hx; simp only [List.mem_cons, List.not_mem_nil, or_false] at hx
        rcases hx with rfl | rfl
        · decide
        · exact hc
      exact ⟨_, hform _ hl h, by rw [encs_low _ hl]; simp⟩
    · rw [if_neg hB]
      have hl : ∀ x ∈ [c.toNat], x < 128 := by
        intro x hx; simp only [List.mem_cons, List.not_mem_nil, or_false] at hx
        subst hx; exact hc
      exact ⟨_, hform _ hl h, by rw [encs_low _ hl]; simp⟩

section
variable (st : Nat → UInt8)
theorem le128 {c : UInt8} : 128 ≤ c ↔ 128 ≤ c.toNat := UInt8.le_iff_toNat_le
theorem valText_high : ∀ (hs rest : List UInt8) (first : Bool) (k : Nat), hs ≠ [] → (∀ c ∈ hs, 128 ≤ c.toNat) → valText st (hs ++ rest) first k = (hs ++ (valText st rest false k).1, (valText st rest false k).2)
  | [], _, _, _, h, _ => absurd rfl h
  | [c], rest, first, k, _, h => by
    show valText st (c :: rest) first k = _
    rw [valText, if_pos (le128.2 (h c (List.mem_cons_self ..)))]; rfl
  | c :: d :: hs, rest, first, k, _, h => by
    rw [List.cons_append, valText, if_pos (le128.2 (h c (List.mem_cons_self ..))), valText_high (d :: hs) rest false k (by simp) (fun x hx => h x (List.mem_cons_of_mem _ hx))]
    rfl
theorem valText_low (c : UInt8) (rest : List UInt8) (first : Bool) (k : Nat) (h : c.toNat < 128) : valText st (c :: rest) first k = (escB c first rest.isEmpty (st k) ++ (valText st rest false (k + 1)).1, (valText st rest false (k + 1)).2) := by
  rw [valText, if_neg (fun e => by have := le128.1 e; omega)]

/-- The text of a value of UTF-8 in forms of runes. -/
theorem valText_forms : ∀ (rs : List Nat), (∀ r ∈ rs, OkRune r) → ∀ (first : Bool) (k : Nat), ∃ fs : List (Nat × List Nat), fs.map (·.1) = rs ∧ (∀ p ∈ fs, Form p.1 p.2) ∧ (valText st (encs rs) first k).1 = encs (fs.map (·.2)).flatten
  | [], _, _, _ => ⟨[], rfl, by simp, rfl⟩
  | r :: rs, h, first, k => by
    have hr := h r (List.mem_cons_self ..)
    have hrs := fun x hx => h x (List.mem_cons_of_mem r hx)
    rcases Nat.lt_or_ge r 128 with hlt | hge
    · obtain ⟨fs, h1, h2, h3⟩ := valText_forms rs hrs false (k + 1)
      have hc : r.toUInt8.toNat = r := toNat_u8 (by omega)
      obtain ⟨f, hf, he⟩ := escB_form r.toUInt8 (by omega) first (encs rs).isEmpty (st k)
      rw [hc] at hf
      refine ⟨(r, f) :: fs, by rw [List.map_cons, h1], ?_, ?_⟩
      · intro p hp
        rcases List.mem_cons.1 hp with rfl | hp
        · exact hf
        · exact h2 p hp
      · rw [encs_cons, enc_one hlt, List.singleton_append, valText_low st _ _ _ _ (by omega), h3, he, List.map_cons, List.flatten_cons, encs_append]
    · obtain ⟨fs, h1, h2, h3⟩ := valText_forms rs hrs false k
      have hne : Lib.encodeRune (r : Int) ≠ [] := by have := (enc_len (r : Int)).1; intro e; rw [e] at this; simp at this
      refine ⟨(r, [r]) :: fs, by rw [List.map_cons, h1], ?_, ?_⟩
      · intro p hp
        rcases List.mem_cons.1 hp with rfl | hp
        · refine Or.inl ⟨rfl, ?_, by show r ≠ 92; omega⟩
          simp only [Nm.refused, Bool.or_eq_false_iff, beq_eq_false_iff_ne]
          refine ⟨⟨⟨⟨?_, ?_⟩, ?_⟩, ?_⟩, ?_⟩ <;> (show r ≠ _; omega)
        · exact h2 p hp
      · rw [encs_cons, valText_high st _ _ _ _ hne (Pos.enc_high hge hr), h3, List.map_cons, List.flatten_cons, encs_append, encs_cons, encs_nil, List.append_nil]

/-! The loop of ParseDN goes over it. -/
theorem hx_safe : ∀ n, n < 16 → ∀ b : Bool, let d := hx b n.toUInt8; (d != 92 && d != 44 && d != 43 && d != 59 && d != 32) = true := by decide +kernel
theorem hx_hi (b : Bool) (c : UInt8) : let d := hx b (c / 16); d ≠ 92 ∧ d ≠ 44 ∧ d ≠ 43 ∧ d ≠ 59 ∧ d ≠ 32 := by
  have h := hx_safe (c / 16).toNat (by rw [UInt8.toNat_div]; have := UInt8.toNat_lt c; show c.toNat / 16 < 16; omega) b
  rw [toNat_toU8] at h
  simpa [Bool.and_eq_true, and_assoc] using h
theorem hx_lo (b : Bool) (c : UInt8) : let d := hx b (c % 16); d ≠ 92 ∧ d ≠ 44 ∧ d ≠ 43 ∧ d ≠ 59 ∧ d ≠ 32 := by
  have h := hx_safe (c % 16).toNat (by rw [UInt8.toNat_mod]; have := UInt8.toNat_lt c; show c.toNat % 16 < 16; omega) b
  rw [toNat_toU8] at h
  simpa [Bool.and_eq_true, and_assoc] using h
theorem plain_byte {c : UInt8} {first last : Bool} {how : UInt8} (h : bySlash c first last how = false) : c ≠ 92 ∧ c ≠ 44 ∧ c ≠ 43 ∧ c ≠ 59 ∧ (c = 32 → first = false ∧ last = false) ∧ (c = 35 → first = false) := by
  simp only [bySlash, must, Bool.or_eq_false_iff, beq_eq_false_iff_ne, Bool.and_eq_false_iff] at h
  obtain ⟨⟨⟨⟨⟨⟨⟨⟨⟨⟨h1, h2⟩, h3⟩, h4⟩, h5⟩, h6⟩, h7⟩, h8⟩, h9⟩, h10⟩, h11⟩ := h
  refine ⟨h7, h3, h2, h4, fun e => ?_, fun e => ?_⟩
  · rcases h9 with h9 | h9
    · exact absurd e h9
    · simpa using h9
  · rcases h10 with h10 | h10
    · exact absurd e h10
    · exact h10

variable (val : List UInt8 → Option (List UInt8))
theorem parse_plain {c : UInt8} (h1 : c ≠ 92) (h2 : c ≠ 44) (h3 : c ≠ 43) (h4 : c ≠ 59) (r seg ty : List UInt8) (rdn : List Nm.Part) (dn : Nm.Name) (ht : ty ≠ []) : Nm.parse val (c :: r) seg false ty rdn dn = Nm.parse val r (seg ++ [c]) false ty rdn dn := by
  rw [Nm.parse, if_neg (by simp), if_neg h1, if_neg (fun e => ht e.2), if_neg (by simp [h2, h3, h4])]
theorem parse_slash (c : UInt8) (r seg ty : List UInt8) (rdn : List Nm.Part) (dn : Nm.Name) : Nm.parse val (92 :: c :: r) seg false ty rdn dn = Nm.parse val r (seg ++ [92, c]) false ty rdn dn := by
  rw [Nm.parse, if_neg (by simp), if_pos rfl, Nm.parse, if_pos rfl]; simp
theorem parse_escB (c : UInt8) (first last : Bool) (how : UInt8) (r seg ty : List UInt8) (rdn : List Nm.Part) (dn : Nm.Name) (ht : ty ≠ []) :
    Nm.parse val (escB c first last how ++ r) seg false ty rdn dn = Nm.parse val r (seg ++ escB c first last how) false ty rdn dn := by
  unfold escB
  split
  · obtain ⟨a1, a2, a3, a4, _⟩ := hx_lo (big how) c
    show Nm.parse val (92 :: _ :: _ :: r) _ _ _ _ _ = _
    rw [parse_slash, parse_plain val a1 a2 a3 a4 _ _ _ _ _ ht]; simp
  split
  · show Nm.parse val (92 :: c :: r) _ _ _ _ _ = _
    rw [parse_slash]
  · rename_i h
    obtain ⟨a1, a2, a3, a4, _⟩ := plain_byte (by simpa using h)
    show Nm.parse val (c :: r) _ _ _ _ _ = _
    rw [parse_plain val a1 a2 a3 a4 _ _ _ _ _ ht]
theorem parse_val : ∀ (v : List UInt8) (first : Bool) (k : Nat) (r seg ty : List UInt8) (rdn : List Nm.Part) (dn : Nm.Name), ty ≠ [] →
    Nm.parse val ((valText st v first k).1 ++ r) seg false ty rdn dn = Nm.parse val r (seg ++ (valText st v first k).1) false ty rdn dn
  | [], first, k, r, seg, ty, rdn, dn, _ => by simp [valText]
  | c :: v, first, k, r, seg, ty, rdn, dn, ht => by
    rcases Nat.lt_or_ge c.toNat 128 with h | h
    · rw [valText_low st _ _ _ _ h]
      simp only [List.append_assoc]
      rw [parse_escB val _ _ _ _ _ _ _ _ _ ht, parse_val v false (k + 1) r _ ty rdn dn ht]; simp
    · have hne : ∀ d : UInt8, d.toNat < 128 → c ≠ d := fun d hd e => by rw [e] at h; omega
      rw [valText, if_pos (le128.2 h), List.cons_append, parse_plain val (hne 92 (by decide)) (hne 44 (by decide)) (hne 43 (by decide)) (hne 59 (by decide)) _ _ _ _ _ ht, parse_val v false k r _ ty rdn dn ht]; simp
end

/-! strip takes nothing away. -/
theorem slashesTo_congr {a b : List UInt8} : ∀ n, (∀ j, j < n → a[j]? = b[j]?) → Nm.slashesTo a n = Nm.slashesTo b n
  | 0, _ => rfl
  | n + 1, h => by
    rw [Nm.slashesTo, Nm.slashesTo, h n (Nat.lt_succ_self n), slashesTo_congr n (fun j hj => h j (Nat.lt_succ_of_lt hj))]
theorem slashes_snoc (l : List UInt8) (c : UInt8) : Nm.slashes (l ++ [c]) = if c = 92 then Nm.slashes l + 1 else 0 := by
  unfold Nm.slashes
  rw [List.length_append, List.length_singleton, Nm.slashesTo]
  have e : (l ++ [c])[l.length]? = some c := by simp
  rw [e, slashesTo_congr (b := l) l.length (fun j hj => by rw [List.getElem?_append_left hj])]
  by_cases h : c = 92 <;> simp [h]
def Even (l : List UInt8) : Prop := Nm.slashes l % 2 = 0
theorem even_snoc {l : List UInt8} {c : UInt8} (h : c ≠ 92) : Even (l ++ [c]) := by unfold Even; rw [slashes_snoc, if_neg h]
theorem even_escB {A : List UInt8} (h : Even A) (c : UInt8) (first last : Bool) (how : UInt8) : Even (A ++ escB c first last how) := by
  unfold escB
  split
  · obtain ⟨a1, _⟩ := hx_lo (big how) c
    have : A ++ [92, hx (big how) (c / 16), hx (big how) (c % 16)] = (A ++ [92, hx (big how) (c / 16)]) ++ [hx (big how) (c % 16)] := by simp
    rw [this]; exact even_snoc a1
  split
  · have e : A ++ [92, c] = (A ++ [92]) ++ [c] := by simp
    rw [e]
    by_cases hc : c = 92
    · unfold Even at *; rw [slashes_snoc, if_pos hc, slashes_snoc, if_pos rfl]; omega
    · exact even_snoc hc
  · rename_i h1
    obtain ⟨a1, _⟩ := plain_byte (first := first) (last := last) (how := how) (c := c) (by simpa using h1)
    exact even_snoc a1

/-- How a text ends: with no blank, or with one behind an odd number of backslashes. -/
def EndOK (A t : List UInt8) : Prop := (∃ T c, t = T ++ [c] ∧ c ≠ 32) ∨ (∃ T, t = T ++ [92, 32] ∧ Even (A ++ T))
theorem endOK_cons {A a t : List UInt8} (h : EndOK (A ++ a) t) : EndOK A (a ++ t) := by
  rcases h with ⟨T, c, rfl, hc⟩ | ⟨T, rfl, he⟩
  · exact Or.inl ⟨a ++ T, c, by simp, hc⟩
  · exact Or.inr ⟨a ++ T, by simp, by rw [← List.append_assoc]; exact he⟩
theorem endOK_escB {A : List UInt8} (hA : Even A) (c : UInt8) (first : Bool) (how : UInt8) : EndOK A (escB c first true how) := by
  unfold escB
  split
  · obtain ⟨_, _, _, _, a5⟩ := hx_lo (big how) c
    exact Or.inl ⟨[92, hx (big how) (c / 16)], _, rfl, a5⟩
  split
  · by_cases hc : c = 32
    · subst hc; exact Or.inr ⟨[], rfl, by simpa using hA⟩
    · exact Or.inl ⟨[92], c, rfl, hc⟩
  · rename_i h1
    obtain ⟨_, _, _, _, a5, _⟩ := plain_byte (first := first) (last := true) (how := how) (c := c) (by simpa using h1)
    exact Or.inl ⟨[], c, rfl, fun e => by have := (a5 e).2; simp at this⟩
theorem endOK_val (st : Nat → UInt8) : ∀ (v : List UInt8) (first : Bool) (k : Nat) (A : List UInt8), v ≠ [] → Even A → EndOK A (valText st v first k).1
  | [], _, _, _, h, _ => absurd rfl h
  | [c], first, k, A, _, hA => by
    rcases Nat.lt_or_ge c.toNat 128 with h | h
    · rw [valText_low st _ _ _ _ h]
      show EndOK A (escB c first true (st k) ++ [])
      rw [List.append_nil]; exact endOK_escB hA c first (st k)
    · rw [valText, if_pos (le128.2 h)]
      exact Or.inl ⟨[], c, rfl, fun e => by rw [e] at h; revert h; decide⟩
  | c :: d :: v, first, k, A, _, hA => by
    rcases Nat.lt_or_ge c.toNat 128 with h | h
    · rw [valText_low st _ _ _ _ h]
      exact endOK_cons (endOK_val st (d :: v) false (k + 1) _ (by simp) (even_escB hA c first _ (st k)))
    · rw [valText, if_pos (le128.2 h)]
      have : Even (A ++ [c]) := even_snoc (fun e => by rw [e] at h; revert h; decide)
      exact endOK_cons (a := [c]) (endOK_val st (d :: v) false k _ (by simp) this)

/-- How a text begins. -/
theorem head_escB (c : UInt8) (last : Bool) (how : UInt8) (r : List UInt8) : (escB c true last how ++ r)[0]? ≠ some 32 ∧ (escB c true last how ++ r)[0]? ≠ some 35 := by
  unfold escB
  split
  · simp
  split
  · simp
  · rename_i h1
    obtain ⟨_, _, _, _, a5, a6⟩ := plain_byte (first := true) (last := last) (how := how) (c := c) (by simpa using h1)
    refine ⟨fun e => ?_, fun e => ?_⟩
    · have := (a5 (by simpa using e)).1; simp at this
    · have := a6 (by simpa using e); simp at this
theorem head_val (st : Nat → UInt8) (v : List UInt8) (k : Nat) : (valText st v true k).1[0]? ≠ some 32 ∧ (valText st v true k).1[0]? ≠ some 35 := by
  cases v with
  | nil => simp [valText]
  | cons c v =>
    rcases Nat.lt_or_ge c.toNat 128 with h | h
    · rw [valText_low st _ _ _ _ h]; exact head_escB c _ _ _
    · rw [valText, if_pos (le128.2 h)]
      refine ⟨fun e => ?_, fun e => ?_⟩ <;> (have := Option.some.inj (show some c = some _ from e); rw [this] at h; revert h; decide)

theorem trimL_id {t : List UInt8} (h : t[0]? ≠ some 32) : Nm.trimL t = t := by
  cases t with
  | nil => rfl
  | cons c r => unfold Nm.trimL; rw [List.dropWhile_cons]; simp only [List.getElem?_cons_zero, ne_eq, Option.some.injEq] at h; simp [h]
theorem trimR_id {T : List UInt8} {c : UInt8} (h : c ≠ 32) : Nm.trimR (T ++ [c]) = T ++ [c] := by
  unfold Nm.trimR
  have : Nm.upTo (T ++ [c]) (T ++ [c]).length = (T ++ [c]).length := by
    rw [List.length_append, List.length_singleton, Nm.upTo]
    have e : (T ++ [c])[T.length]? = some c := by simp
    rw [e, if_neg (by simpa using h)]
  rw [this, List.take_length]
theorem trimR_sp (T : List UInt8) {c : UInt8} (h : c ≠ 32) : Nm.trimR (T ++ [c, 32]) = T ++ [c] := by
  unfold Nm.trimR
  have : Nm.upTo (T ++ [c, 32]) (T ++ [c, 32]).length = T.length + 1 := by
    have e2 : (T ++ [c, 32]).length = T.length + 1 + 1 := by simp
    rw [e2, Nm.upTo]
    have e : (T ++ [c, 32])[T.length + 1]? = some 32 := by rw [List.getElem?_append_right (by omega)]; simp
    rw [e, if_pos rfl, Nm.upTo]
    have e : (T ++ [c, 32])[T.length]? = some c := by simp
    rw [e, if_neg (by simpa using h)]
  rw [this]
  have : T ++ [c, 32] = (T ++ [c]) ++ [32] := by simp
  rw [this, List.take_append_of_le_length (by simp), List.take_of_length_le (by simp)]
theorem strip_id {t : List UInt8} (h0 : t[0]? ≠ some 32) (h : t = [] ∨ EndOK [] t) : Nm.strip t = t := by
  unfold Nm.strip
  rw [trimL_id h0]
  rcases h with rfl | ⟨T, c, rfl, hc⟩ | ⟨T, rfl, he⟩
  · rfl
  · rw [trimR_id hc, if_neg]
    rintro ⟨_, h2, _⟩
    rw [List.getLast?_append] at h2
    simp at h2; exact hc h2
  · rw [trimR_sp T (by decide : (92 : UInt8) ≠ 32), if_pos]
    · simp
    · refine ⟨by simp, by simp, ?_⟩
      rw [slashes_snoc, if_pos rfl]
      unfold Even at he
      simp only [List.nil_append] at he
      omega

theorem decode_val (st : Nat → UInt8) (v : List UInt8) (hv : Utf v) (k : Nat) : Nm.decode (valText st v true k).1 = some v := by
  obtain ⟨rs, hrs, rfl⟩ := hv
  have hs : Nm.strip (valText st (encs rs) true k).1 = (valText st (encs rs) true k).1 := by
    refine strip_id (head_val st _ k).1 ?_
    by_cases hn : encs rs = []
    · left; rw [hn]; rfl
    · right; exact endOK_val st _ _ _ _ hn rfl
  obtain ⟨fs, h1, h2, h3⟩ := valText_forms st rs hrs true k
  unfold Nm.decode
  rw [hs, h3, runes_of_encs, unescape_forms fs h2, h1]
  intro r hr
  obtain ⟨f, hf, hrf⟩ := List.mem_flatten.1 hr
  obtain ⟨p, hp, rfl⟩ := List.mem_map.1 hf
  exact form_ok (h2 p hp) (hrs p.1 (h1 ▸ List.mem_map_of_mem hp)) r hrf

/-! Types. -/
theorem type_plain {n : Nat} (h : tyByte n) (hn : n < 256) : n < 128 ∧ n ≠ 92 ∧ n ≠ 44 ∧ n ≠ 43 ∧ n ≠ 59 ∧ n ≠ 61 ∧ n ≠ 32 ∧ Nm.refused n = false := by
  unfold tyByte at h
  refine ⟨by omega, by omega, by omega, by omega, by omega, by omega, by omega, ?_⟩
  simp only [Nm.refused, Bool.or_eq_false_iff, beq_eq_false_iff_ne]
  refine ⟨⟨⟨⟨?_, ?_⟩, ?_⟩, ?_⟩, ?_⟩ <;> omega
theorem unescape_type : ∀ t : List UInt8, (∀ c ∈ t, tyByte c.toNat) → Nm.unescape (t.map UInt8.toNat) = some t
  | [], _ => rfl
  | c :: t, h => by
    obtain ⟨a1, a2, _, _, _, _, _, a3⟩ := type_plain (h c (List.mem_cons_self ..)) (UInt8.toNat_lt c)
    rw [List.map_cons]
    conv => lhs; unfold Nm.unescape
    rw [if_neg a2, a3, unescape_type t (fun x hx => h x (List.mem_cons_of_mem _ hx))]
    simp [enc_one a1]
theorem decode_type (t : List UInt8) (h : TypeOK t) : Nm.decode t = some t := by
  have hs : Nm.strip t = t := by
    obtain ⟨hne, hb⟩ := h
    refine strip_id (fun e => ?_) (Or.inr (Or.inl ⟨t.dropLast, t.getLast hne, (List.dropLast_concat_getLast hne).symm, fun e => ?_⟩))
    · have := hb 32 (List.mem_of_getElem? e); revert this; unfold tyByte; decide
    · have := hb _ (List.getLast_mem hne); rw [e] at this; revert this; unfold tyByte; decide
  have he : t = encs (t.map UInt8.toNat) := by
    rw [encs_low _ (fun x hx => by
      obtain ⟨c, hc, rfl⟩ := List.mem_map.1 hx
      exact (type_plain (h.2 c hc) (UInt8.toNat_lt c)).1)]
    rw [List.map_map]
    conv => lhs; rw [← List.map_id t]
    exact List.map_congr_left (fun c _ => (toNat_toU8 c).symm)
  unfold Nm.decode
  rw [hs]
  conv => lhs; rw [he]
  rw [runes_of_encs, unescape_type t h.2]
  intro r hr
  obtain ⟨c, hc, rfl⟩ := List.mem_map.1 hr
  have := (type_plain (h.2 c hc) (UInt8.toNat_lt c)).1
  left; omega
section
variable (val : List UInt8 → Option (List UInt8))
theorem parse_type : ∀ (t r seg : List UInt8) (rdn : List Nm.Part) (dn : Nm.Name), (∀ c ∈ t, tyByte c.toNat) → Nm.parse val (t ++ r) seg false [] rdn dn = Nm.parse val r (seg ++ t) false [] rdn dn
  | [], r, seg, rdn, dn, _ => by simp
  | c :: t, r, seg, rdn, dn, h => by
    obtain ⟨_, a1, a2, a3, a4, a5, _⟩ := type_plain (h c (List.mem_cons_self ..)) (UInt8.toNat_lt c)
    have hne : ∀ d : UInt8, c.toNat ≠ d.toNat → c ≠ d := fun d hd e => hd (congrArg _ e)
    rw [List.cons_append, Nm.parse, if_neg (by simp), if_neg (hne 92 a1), if_neg (fun e => hne 61 a5 e.1), if_neg (by simp [hne 44 a2, hne 43 a3, hne 59 a4]), parse_type t r _ rdn dn (fun x hx => h x (List.mem_cons_of_mem _ hx))]
    simp
theorem parse_start (t r : List UInt8) (rdn : List Nm.Part) (dn : Nm.Name) (h : TypeOK t) : Nm.parse val (t ++ 61 :: r) [] false [] rdn dn = Nm.parse val r [] false t rdn dn := by
  rw [parse_type val t _ _ rdn dn h.2, List.nil_append, Nm.parse, if_neg (by simp), if_neg (by decide), if_pos ⟨rfl, rfl⟩, decode_type t h]

/-! A name. -/
def PartOK (p : Nm.Part) : Prop := TypeOK p.1 ∧ Utf p.2
variable (st : Nat → UInt8)
/-- What val must say. -/
structure ValOK : Prop where
  plain : ∀ t : List UInt8, t[0]? ≠ some 35 → val t = Nm.decode t
  hash : (∃ k, st k % 7 = 6) → ∀ v : List UInt8, v.length < 128 → val (hashText v) = some v

theorem parse_plains : ∀ (s r seg ty : List UInt8) (rdn : List Nm.Part) (dn : Nm.Name), (∀ c ∈ s, c ≠ 92 ∧ c ≠ 44 ∧ c ≠ 43 ∧ c ≠ 59) → ty ≠ [] → Nm.parse val (s ++ r) seg false ty rdn dn = Nm.parse val r (seg ++ s) false ty rdn dn
  | [], r, seg, ty, rdn, dn, _, _ => by simp
  | c :: s, r, seg, ty, rdn, dn, h, ht => by
    obtain ⟨a1, a2, a3, a4⟩ := h c (List.mem_cons_self ..)
    rw [List.cons_append, parse_plain val a1 a2 a3 a4 _ _ _ _ _ ht, parse_plains s r _ ty rdn dn (fun x hx => h x (List.mem_cons_of_mem _ hx)) ht]; simp
theorem hexB_plain (c : UInt8) : ∀ d ∈ hexB c, d ≠ 92 ∧ d ≠ 44 ∧ d ≠ 43 ∧ d ≠ 59 := by
  intro d hd
  simp only [hexB, List.mem_cons, List.not_mem_nil, or_false] at hd
  rcases hd with rfl | rfl
  · obtain ⟨a1, a2, a3, a4, _⟩ := hx_hi false c; exact ⟨a1, a2, a3, a4⟩
  · obtain ⟨a1, a2, a3, a4, _⟩ := hx_lo false c; exact ⟨a1, a2, a3, a4⟩
theorem hash_plain (v : List UInt8) : ∀ d ∈ hashText v, d ≠ 92 ∧ d ≠ 44 ∧ d ≠ 43 ∧ d ≠ 59 := by
  intro d hd
  simp only [hashText, List.append_assoc] at hd
  rcases List.mem_append.1 hd with hd | hd
  · simp only [List.mem_cons, List.not_mem_nil, or_false] at hd
    rcases hd with rfl | rfl | rfl <;> decide
  rcases List.mem_append.1 hd with hd | hd
  · exact hexB_plain _ d hd
  · obtain ⟨c, _, hc⟩ := List.mem_flatMap.1 hd
    exact hexB_plain c d hc

variable {val st}
theorem side_ok (hv : ValOK val st) (v : List UInt8) (hu : Utf v) (k : Nat) : val (sideText st v k).1 = some v := by
  unfold sideText
  split
  · rename_i h; exact hv.hash ⟨k, h.1⟩ v h.2
  · rw [hv.plain _ (head_val st v (k + 1)).2, decode_val st v hu]
theorem side_parse (v : List UInt8) (k : Nat) (r ty : List UInt8) (rdn : List Nm.Part) (dn : Nm.Name) (ht : ty ≠ []) :
    Nm.parse val ((sideText st v k).1 ++ r) [] false ty rdn dn = Nm.parse val r (sideText st v k).1 false ty rdn dn := by
  unfold sideText
  split
  · rw [parse_plains val _ _ _ _ _ _ (hash_plain v) ht]; rfl
  · rw [parse_val st val _ _ _ _ _ _ _ _ ht]; rfl
theorem part_parse (p : Nm.Part) (hp : PartOK p) (k : Nat) (r : List UInt8) (rdn : List Nm.Part) (dn : Nm.Name) :
    Nm.parse val ((partText st p k).1 ++ r) [] false [] rdn dn = Nm.parse val r (sideText st p.2 k).1 false p.1 rdn dn := by
  unfold partText
  simp only [List.append_assoc, List.cons_append]
  rw [parse_start val _ _ _ _ hp.1, side_parse _ _ _ _ _ _ hp.1.1]

theorem parts_parse (hv : ValOK val st) : ∀ (ps : List Nm.Part), (∀ p ∈ ps, PartOK p) → ∀ (k : Nat) (r seg ty v : List UInt8) (rdn : List Nm.Part) (dn : Nm.Name), ty ≠ [] → val seg = some v →
    ∃ seg' ty' v' rdn', ty' ≠ [] ∧ val seg' = some v' ∧ rdn' ++ [(ty', v')] = rdn ++ [(ty, v)] ++ ps ∧
      Nm.parse val ((partsText st ps true k).1 ++ r) seg false ty rdn dn = Nm.parse val r seg' false ty' rdn' dn
  | [], _, k, r, seg, ty, v, rdn, dn, ht, hs => ⟨seg, ty, v, rdn, ht, hs, by simp, rfl⟩
  | p :: ps, h, k, r, seg, ty, v, rdn, dn, ht, hs => by
    have hp := h p (List.mem_cons_self ..)
    obtain ⟨seg', ty', v', rdn', h1, h2, h3, h4⟩ := parts_parse hv ps (fun x hx => h x (List.mem_cons_of_mem _ hx)) (partText st p k).2 r (sideText st p.2 k).1 p.1 p.2 (rdn ++ [(ty, v)]) dn hp.1.1 (side_ok hv p.2 hp.2 k)
    refine ⟨seg', ty', v', rdn', h1, h2, by rw [h3]; simp, ?_⟩
    rw [partsText]
    simp only [if_true, List.append_assoc, List.singleton_append, List.cons_append]
    rw [Nm.parse, if_neg (by simp), if_neg (by decide), if_neg (fun e => ht e.2), if_pos (by simp), if_neg ht, hs]
    simp only [if_true]
    try simp only [List.nil_append]
    rw [part_parse p hp, h4]

def NameOK (n : Nm.Name) : Prop := ∀ ps ∈ n, ps ≠ [] ∧ ∀ p ∈ ps, PartOK p

theorem rdn_parse (hv : ValOK val st) (ps : List Nm.Part) (hne : ps ≠ []) (h : ∀ p ∈ ps, PartOK p) (k : Nat) (r : List UInt8) (dn : Nm.Name) :
    ∃ seg' ty' v' rdn', ty' ≠ [] ∧ val seg' = some v' ∧ rdn' ++ [(ty', v')] = ps ∧ Nm.parse val ((partsText st ps false k).1 ++ r) [] false [] [] dn = Nm.parse val r seg' false ty' rdn' dn := by
  cases ps with
  | nil => exact absurd rfl hne
  | cons p ps =>
    have hp := h p (List.mem_cons_self ..)
    obtain ⟨seg', ty', v', rdn', h1, h2, h3, h4⟩ := parts_parse hv ps (fun x hx => h x (List.mem_cons_of_mem _ hx)) (partText st p k).2 r (sideText st p.2 k).1 p.1 p.2 [] dn hp.1.1 (side_ok hv p.2 hp.2 k)
    refine ⟨seg', ty', v', rdn', h1, h2, by rw [h3]; simp, ?_⟩
    rw [partsText]
    simp only [Bool.false_eq_true, if_false, List.nil_append, List.append_assoc]
    try simp only [List.nil_append]
    rw [part_parse p hp, h4]

theorem names_parse (hv : ValOK val st) : ∀ (n : Nm.Name), NameOK n → ∀ (k : Nat) (r seg ty v : List UInt8) (rdn : List Nm.Part) (dn : Nm.Name), ty ≠ [] → val seg = some v →
    ∃ seg' ty' v' rdn' dn', ty' ≠ [] ∧ val seg' = some v' ∧ dn' ++ [rdn' ++ [(ty', v')]] = dn ++ [rdn ++ [(ty, v)]] ++ n ∧
      Nm.parse val ((nameText st n true k).1 ++ r) seg false ty rdn dn = Nm.parse val r seg' false ty' rdn' dn'
  | [], _, k, r, seg, ty, v, rdn, dn, ht, hs => ⟨seg, ty, v, rdn, dn, ht, hs, by simp, rfl⟩
  | ps :: n, h, k, r, seg, ty, v, rdn, dn, ht, hs => by
    obtain ⟨hne, hps⟩ := h ps (List.mem_cons_self ..)
    obtain ⟨seg', ty', v', rdn', h1, h2, h3, h4⟩ := rdn_parse hv ps hne hps k ((nameText st n true (partsText st ps false k).2).1 ++ r) (dn ++ [rdn ++ [(ty, v)]])
    obtain ⟨seg2, ty2, v2, rdn2, dn2, k1, k2, k3, k4⟩ := names_parse hv n (fun x hx => h x (List.mem_cons_of_mem _ hx)) (partsText st ps false k).2 r seg' ty' v' rdn' (dn ++ [rdn ++ [(ty, v)]]) h1 h2
    refine ⟨seg2, ty2, v2, rdn2, dn2, k1, k2, by rw [k3, h3]; simp, ?_⟩
    rw [nameText]
    simp only [if_true, List.append_assoc, List.singleton_append, List.cons_append]
    rw [Nm.parse, if_neg (by simp), if_neg (by decide), if_neg (fun e => ht e.2), if_pos (by simp), if_neg ht, hs]
    simp only [show ¬ ((44 : UInt8) = 43) by decide, if_false]
    try simp only [List.nil_append]
    rw [h4, k4]
theorem parse_end {seg ty v : List UInt8} {rdn : List Nm.Part} {dn : Nm.Name} (ht : ty ≠ []) (hs : val seg = some v) : Nm.parse val [] seg false ty rdn dn = some (dn ++ [rdn ++ [(ty, v)]]) := by
  rw [Nm.parse, if_neg ht, hs]; rfl
/-- A name ahead of something. -/
theorem name_ahead (hv : ValOK val st) (n : Nm.Name) (h : NameOK n) (hn : n ≠ []) (k : Nat) (r : List UInt8) :
    ∃ seg' ty' v' rdn' dn', ty' ≠ [] ∧ val seg' = some v' ∧ dn' ++ [rdn' ++ [(ty', v')]] = n ∧
      Nm.parseDN val ((nameText st n false k).1 ++ r) = Nm.parse val r seg' false ty' rdn' dn' := by
  cases n with
  | nil => exact absurd rfl hn
  | cons ps n =>
    obtain ⟨hne, hps⟩ := h ps (List.mem_cons_self ..)
    obtain ⟨seg', ty', v', rdn', h1, h2, h3, h4⟩ := rdn_parse hv ps hne hps k ((nameText st n true (partsText st ps false k).2).1 ++ r) []
    obtain ⟨seg2, ty2, v2, rdn2, dn2, k1, k2, k3, k4⟩ := names_parse hv n (fun x hx => h x (List.mem_cons_of_mem _ hx)) (partsText st ps false k).2 r seg' ty' v' rdn' [] h1 h2
    have hb : Nm.blank ((nameText st (ps :: n) false k).1 ++ r) = false := by
      cases ps with
      | nil => exact absurd rfl hne
      | cons p ps =>
        have hp := hps p (List.mem_cons_self ..)
        obtain ⟨⟨hn1, hn2⟩, _⟩ := hp
        have : ∃ r', (nameText st ((p :: ps) :: n) false k).1 ++ r = p.1 ++ r' := by
          refine ⟨61 :: (sideText st p.2 k).1 ++ (partsText st ps true (partText st p k).2).1 ++ (nameText st n true (partsText st (p :: ps) false k).2).1 ++ r, ?_⟩
          rw [nameText]
          simp [partsText, partText]
        obtain ⟨r', hr⟩ := this
        rw [hr]
        cases ht : p.1 with
        | nil => exact absurd ht hn1
        | cons c t =>
          have hc := hn2 c (by rw [ht]; exact List.mem_cons_self ..)
          unfold Nm.blank
          rw [List.cons_append, List.all_cons]
          have : (c == 32 || (9 ≤ c && c ≤ 13)) = false := by
            unfold tyByte at hc
            simp only [Bool.or_eq_false_iff, beq_eq_false_iff_ne, Bool.and_eq_false_iff, decide_eq_false_iff_not, UInt8.le_iff_toNat_le]
            refine ⟨fun e => ?_, ?_⟩
            · rw [e] at hc; revert hc; decide
            · right; show ¬ c.toNat ≤ 13; omega
          rw [this]; rfl
    refine ⟨seg2, ty2, v2, rdn2, dn2, k1, k2, by rw [k3, h3]; simp, ?_⟩
    unfold Nm.parseDN
    rw [hb]
    rw [nameText]
    simp only [Bool.false_eq_true, if_false, List.nil_append, List.append_assoc]
    rw [h4, k4]

theorem name_parse (hv : ValOK val st) (n : Nm.Name) (h : NameOK n) (k : Nat) : Nm.parseDN val (nameText st n false k).1 = some n := by
  by_cases hn : n = []
  · subst hn; rfl
  · obtain ⟨seg', ty', v', rdn', dn', h1, h2, h3, h4⟩ := name_ahead hv n h hn k []
    rw [List.append_nil] at h4
    rw [h4, parse_end h1 h2, h3]
theorem true_text (st : Nat → UInt8) (n : Nm.Name) (hn : n ≠ []) (k : Nat) : (nameText st n true k).1 = 44 :: (nameText st n false k).1 := by
  cases n with
  | nil => exact absurd rfl hn
  | cons ps n => rw [nameText, nameText]; simp
/-- Two names with a comma between. -/
theorem names_joined {st2 : Nat → UInt8} (hv : ValOK val st) (hv2 : ValOK val st2) (n m : Nm.Name) (h : NameOK n) (h2 : NameOK m) (hn : n ≠ []) (hm : m ≠ []) (k k2 : Nat) :
    Nm.parseDN val ((nameText st n false k).1 ++ 44 :: (nameText st2 m false k2).1) = some (n ++ m) := by
  obtain ⟨seg', ty', v', rdn', dn', h1, h2', h3, h4⟩ := name_ahead hv n h hn k (44 :: (nameText st2 m false k2).1)
  rw [h4, ← true_text st2 m hm]
  obtain ⟨seg2, ty2, v2, rdn2, dn2, k1, k2', k3, k4⟩ := names_parse hv2 m h2 k2 [] seg' ty' v' rdn' dn' h1 h2'
  rw [List.append_nil] at k4
  rw [k4, parse_end k1 k2', k3, h3]
end
end Go.Proofs.YtjmahgefijncaaaGreatFmt.NT

/- ParseDN as a relation: what a text may be read as; no program in sight. -/
namespace Go.Proofs.YtjmahgefijncaaaGreatFmt.Nm

/-- The loop of ParseDN. VR: what a value's text may be read as; VE: whether it may be refused. -/
def parseR (VR : List UInt8 → List UInt8 → Prop) (VE : List UInt8 → Prop) : List UInt8 → List UInt8 → Bool → List UInt8 → List Part → Name → Option Name → Prop
  | [], seg, _, ty, rdn, dn, r => if ty = [] then r = none else (VE seg ∧ r = none) ∨ ∃ v, VR seg v ∧ r = some (dn ++ [rdn ++ [(ty, v)]])
  | c :: l, seg, esc, ty, rdn, dn, r =>
    if esc then parseR VR VE l (seg ++ [c]) false ty rdn dn r
    else if c = 92 then parseR VR VE l (seg ++ [c]) true ty rdn dn r
    else if c = 61 ∧ ty = [] then (decode seg = none ∧ r = none) ∨ ∃ t, decode seg = some t ∧ parseR VR VE l [] false t rdn dn r
    else if c = 44 ∨ c = 43 ∨ c = 59 then
      if ty = [] then r = none
      else (VE seg ∧ r = none) ∨ ∃ v, VR seg v ∧ (if c = 43 then parseR VR VE l [] false [] (rdn ++ [(ty, v)]) dn r else parseR VR VE l [] false [] [] (dn ++ [rdn ++ [(ty, v)]]) r)
    else parseR VR VE l (seg ++ [c]) false ty rdn dn r
def parseDNR (VR : List UInt8 → List UInt8 → Prop) (VE : List UInt8 → Prop) (l : List UInt8) (r : Option Name) : Prop := if blank l = true then r = some [] else parseR VR VE l [] false [] [] [] r
end Go.Proofs.YtjmahgefijncaaaGreatFmt.Nm

/- Plain: what spec.NameRead makes of bytes (values); ParseDN reads them so. -/
namespace Go.Proofs.YtjmahgefijncaaaGreatFmt.Sp
open Go

/-- Left open; refused; read. -/
inductive O (α : Type) where
  | opn
  | bad
  | ok (a : α) (rest : List UInt8)

def pair : List UInt8 → Option (UInt8 × List UInt8)
  | a :: b :: s => match Nm.hexDigit a.toNat, Nm.hexDigit b.toNat with
    | some x, some y => some (UInt8.ofNat (x * 16 + y), s)
    | _, _ => none
  | _ => none

/-- A value up to a comma or a plus sign. -/
def value : Nat → List UInt8 → List UInt8 → Bool → O (List UInt8)
  | 0, _, _, _ => .opn
  | _ + 1, [], out, blank => if blank then .opn else .ok out []
  | f + 1, c :: s, out, blank =>
    if c = 44 ∨ c = 43 then (if blank then .opn else .ok out (c :: s))
    else if c = 59 ∨ c = 34 ∨ c = 60 ∨ c = 62 ∨ c = 0 then .opn
    else if c = 92 then
      match s with
      | [] => .bad
      | e :: s1 => if Nm.special e.toNat then value f s1 (out ++ [e]) false
        else match pair (e :: s1) with
          | none => .bad
          | some (b, s2) => value f s2 (out ++ [b]) false
    else value f s (out ++ [c]) (c == 32)

/-- The parser runs through A and holds no end of a value in it. -/
def Run (A : List UInt8) : Prop := ∀ (VR : List UInt8 → List UInt8 → Prop) (VE : List UInt8 → Prop) (l seg ty : List UInt8) (rdn : List Nm.Part) (dn : Nm.Name) (r : Option Nm.Name), ty ≠ [] → (Nm.parseR VR VE (A ++ l) seg false ty rdn dn r ↔ Nm.parseR VR VE l (seg ++ A) false ty rdn dn r)
theorem Run.nil : Run [] := fun _ _ l seg _ _ _ _ _ => by simp
theorem Run.app {A B : List UInt8} (h : Run A) (k : Run B) : Run (A ++ B) := fun VR VE l seg ty rdn dn r ht => by
  rw [List.append_assoc, h VR VE (B ++ l) seg ty rdn dn r ht, k VR VE l (seg ++ A) ty rdn dn r ht, List.append_assoc]
theorem Run.plain {c : UInt8} (h1 : c ≠ 92) (h2 : c ≠ 44) (h3 : c ≠ 43) (h4 : c ≠ 59) : Run [c] := fun VR VE l seg ty rdn dn r ht => by
  show Nm.parseR VR VE (c :: l) seg false ty rdn dn r ↔ _
  conv => lhs; unfold Nm.parseR
  rw [if_neg (by simp), if_neg h1, if_neg (by rintro ⟨_, h⟩; exact ht h), if_neg (by rintro (h | h | h); exact h2 h; exact h3 h; exact h4 h)]
theorem Run.slash (c : UInt8) : Run [92, c] := fun VR VE l seg ty rdn dn r ht => by
  show Nm.parseR VR VE (92 :: c :: l) seg false ty rdn dn r ↔ _
  conv => lhs; unfold Nm.parseR
  rw [if_neg (by simp), if_pos rfl]
  conv => lhs; unfold Nm.parseR
  rw [if_pos rfl, List.append_assoc]
  rfl
theorem Run.all : ∀ {A : List UInt8}, (∀ c ∈ A, c ≠ 92 ∧ c ≠ 44 ∧ c ≠ 43 ∧ c ≠ 59) → Run A
  | [], _ => Run.nil
  | c :: A, h => by
    obtain ⟨h1, h2, h3, h4⟩ := h c (List.mem_cons_self ..)
    exact Run.app (A := [c]) (Run.plain h1 h2 h3 h4) (Run.all fun d hd => h d (List.mem_cons_of_mem _ hd))

/-- What has been read of a value. -/
structure Acc (rs0 : List Nat) (A out : List UInt8) (b : Bool) : Prop where
  run : ∀ more, Nm.unescape (rs0 ++ more) = (Nm.unescape more).map (out ++ ·)
  enc : A = encs rs0
  okr : ∀ r ∈ rs0, OkRune r
  even : NT.Even A
  fin : b = false → A = [] ∨ NT.EndOK [] A
  sep : Run A
theorem Acc.nil : Acc [] [] [] false := ⟨fun more => by simp, rfl, by simp, rfl, fun _ => Or.inl rfl, Run.nil⟩

theorem encs_snoc (rs0 : List Nat) (r : Nat) : encs (rs0 ++ [r]) = encs rs0 ++ Lib.encodeRune (r : Int) := by simp [encs]
theorem encs_cons (r : Nat) (rs : List Nat) : encs (r :: rs) = Lib.encodeRune (r : Int) ++ encs rs := rfl
theorem map_map_app (o : Option (List UInt8)) (x y : List UInt8) : (o.map (x ++ ·)).map (y ++ ·) = o.map ((y ++ x) ++ ·) := by cases o <;> simp

theorem Acc.step {rs0 : List Nat} {A out : List UInt8} {b : Bool} (h : Acc rs0 A out b) {xs : List Nat} {X o : List UInt8} {b' : Bool} (hrun : ∀ more, Nm.unescape (xs ++ more) = (Nm.unescape more).map (o ++ ·)) (henc : X = encs xs) (hok : ∀ r ∈ xs, OkRune r)
    (heven : NT.Even (A ++ X)) (hfin : b' = false → NT.EndOK A X) (hsep : Run X) : Acc (rs0 ++ xs) (A ++ X) (out ++ o) b' :=
  ⟨fun more => by rw [List.append_assoc, h.run, hrun, map_map_app], by rw [h.enc, henc]; simp [encs], fun r hr => by rcases List.mem_append.1 hr with hr | hr; exact h.okr r hr; exact hok r hr, heven,
    fun hb => Or.inr (by have := hfin hb; exact NT.endOK_cons (A := []) (by simpa using this)), h.sep.app hsep⟩

theorem Acc.plain {rs0 : List Nat} {A out : List UInt8} {b : Bool} (h : Acc rs0 A out b) {c : UInt8} (hc : c.toNat < 128) (h1 : c ≠ 92) (h2 : c ≠ 44) (h3 : c ≠ 43) (h4 : c ≠ 59) (hr : Nm.refused c.toNat = false) : Acc (rs0 ++ [c.toNat]) (A ++ [c]) (out ++ [c]) (c == 32) := by
  have he : Lib.encodeRune (c.toNat : Int) = [c] := by rw [enc_one hc]; simp
  refine h.step (xs := [c.toNat]) (fun more => ?_) (by simp [encs, he]) (fun r hr => ?_) (NT.even_snoc h1) (fun hb => Or.inl ⟨[], c, rfl, by simpa using hb⟩) (Run.plain h1 h2 h3 h4)
  · show Nm.unescape (c.toNat :: more) = _
    conv => lhs; unfold Nm.unescape
    rw [if_neg (fun e => h1 (UInt8.toNat_inj.1 (by rw [e]; rfl))), hr, he]
    simp
  · simp only [List.mem_singleton] at hr
    subst hr
    left; omega
theorem Acc.high {rs0 : List Nat} {A out : List UInt8} {b : Bool} (h : Acc rs0 A out b) {r : Nat} (hr : OkRune r) (h8 : 128 ≤ r) (hall : ∀ c ∈ Lib.encodeRune (r : Int), 128 ≤ c.toNat) : Acc (rs0 ++ [r]) (A ++ Lib.encodeRune (r : Int)) (out ++ Lib.encodeRune (r : Int)) false := by
  have hne : Lib.encodeRune (r : Int) ≠ [] := fun e => by have := (enc_len (r : Int)).1; rw [e] at this; simp at this
  obtain ⟨T, c, hT⟩ : ∃ T c, Lib.encodeRune (r : Int) = T ++ [c] := ⟨_, _, (List.dropLast_concat_getLast hne).symm⟩
  have hcm : c ∈ Lib.encodeRune (r : Int) := by rw [hT]; simp
  have hc := hall c hcm
  have hlow : ∀ d : UInt8, d.toNat < 128 → c ≠ d := fun d hd e => by rw [e] at hc; omega
  refine h.step (xs := [r]) (fun more => ?_) (by simp [encs]) (fun x hx => by simp only [List.mem_singleton] at hx; rw [hx]; exact hr) ?_ (fun _ => Or.inl ⟨T, c, hT, hlow 32 (by decide)⟩) (Run.all fun d hd => ?_)
  · show Nm.unescape (r :: more) = _
    conv => lhs; unfold Nm.unescape
    rw [if_neg (by omega)]
    have : Nm.refused r = false := by
      simp only [Nm.refused, Bool.or_eq_false_iff, beq_eq_false_iff_ne]
      refine ⟨⟨⟨⟨?_, ?_⟩, ?_⟩, ?_⟩, ?_⟩ <;> omega
    rw [this]; simp
  · rw [hT, ← List.append_assoc]; exact NT.even_snoc (hlow 92 (by decide))
  · have h9 := hall d hd
    exact ⟨fun e => by rw [e] at h9; exact absurd h9 (by decide), fun e => by rw [e] at h9; exact absurd h9 (by decide), fun e => by rw [e] at h9; exact absurd h9 (by decide), fun e => by rw [e] at h9; exact absurd h9 (by decide)⟩
theorem Acc.spec {rs0 : List Nat} {A out : List UInt8} {b : Bool} (h : Acc rs0 A out b) {e : UInt8} (he : e.toNat < 128) (hs : Nm.special e.toNat = true) : Acc (rs0 ++ [92, e.toNat]) (A ++ [92, e]) (out ++ [e]) false := by
  have hen : Lib.encodeRune (e.toNat : Int) = [e] := by rw [enc_one he]; simp
  refine h.step (xs := [92, e.toNat]) (fun more => ?_) ?_ (fun r hr => ?_) ?_ (fun _ => ?_) (Run.slash e)
  · have := NT.unescape_form (r := e.toNat) (f := [92, e.toNat]) (rest := more) (Or.inr (Or.inl ⟨rfl, hs⟩))
    rw [this, hen]
  · simp [encs, hen]; rfl
  · simp only [List.mem_cons, List.not_mem_nil, or_false] at hr
    rcases hr with rfl | rfl <;> (left; omega)
  · have e1 : A ++ [92, e] = (A ++ [92]) ++ [e] := by simp
    rw [e1]
    by_cases hc : e = 92
    · have h0 := h.even
      unfold NT.Even at *; rw [NT.slashes_snoc, if_pos hc, NT.slashes_snoc, if_pos rfl]; omega
    · exact NT.even_snoc hc
  · by_cases hc : e = 32
    · subst hc; exact Or.inr ⟨[], rfl, by simpa using h.even⟩
    · exact Or.inl ⟨[92], e, rfl, hc⟩
theorem hex_low {n x : Nat} (h : Nm.hexDigit n = some x) : n < 128 ∧ n ≠ 92 ∧ n ≠ 32 ∧ n ≠ 44 ∧ n ≠ 43 ∧ n ≠ 59 ∧ Nm.special n = false := by
  unfold Nm.hexDigit at h
  have hb : (48 ≤ n ∧ n ≤ 57) ∨ (97 ≤ n ∧ n ≤ 102) ∨ (65 ≤ n ∧ n ≤ 70) := by
    split at h
    · left; assumption
    · split at h
      · right; left; assumption
      · split at h
        · right; right; assumption
        · cases h
  refine ⟨by omega, by omega, by omega, by omega, by omega, by omega, ?_⟩
  simp only [Nm.special, Bool.or_eq_false_iff, beq_eq_false_iff_ne]
  refine ⟨⟨⟨⟨⟨⟨⟨⟨⟨?_, ?_⟩, ?_⟩, ?_⟩, ?_⟩, ?_⟩, ?_⟩, ?_⟩, ?_⟩, ?_⟩ <;> omega
theorem Acc.hex {rs0 : List Nat} {A out : List UInt8} {b : Bool} (h : Acc rs0 A out b) {p q : UInt8} {x y : Nat} (hp : Nm.hexDigit p.toNat = some x) (hq : Nm.hexDigit q.toNat = some y) : Acc (rs0 ++ [92, p.toNat, q.toNat]) (A ++ [92, p, q]) (out ++ [UInt8.ofNat (x * 16 + y)]) false := by
  obtain ⟨p1, p2, p3, p4, p5, p6, p7⟩ := hex_low hp
  obtain ⟨q1, q2, q3, q4, q5, q6, q7⟩ := hex_low hq
  have ne : ∀ {c d : UInt8}, c.toNat ≠ d.toNat → c ≠ d := fun h e => h (by rw [e])
  refine h.step (xs := [92, p.toNat, q.toNat]) (fun more => ?_) ?_ (fun r hr => ?_) ?_ (fun _ => Or.inl ⟨[92, p], q, rfl, ne (by simpa using q3)⟩) ?_
  · show Nm.unescape (92 :: p.toNat :: q.toNat :: more) = _
    conv => lhs; unfold Nm.unescape
    rw [if_pos rfl]
    simp only [p7, hp, hq, Bool.false_eq_true, if_false]
    rfl
  · have e1 : Lib.encodeRune (p.toNat : Int) = [p] := by rw [enc_one p1]; simp
    have e2 : Lib.encodeRune (q.toNat : Int) = [q] := by rw [enc_one q1]; simp
    simp [encs, e1, e2]; rfl
  · simp only [List.mem_cons, List.not_mem_nil, or_false] at hr
    rcases hr with rfl | rfl | rfl <;> (left; omega)
  · have e1 : A ++ [92, p, q] = (A ++ [92, p]) ++ [q] := by simp
    rw [e1]; exact NT.even_snoc (ne (by simpa using q2))
  · exact Run.app (A := [92, p]) (Run.slash p) (Run.plain (ne (by simpa using q2)) (ne (by simpa using q4)) (ne (by simpa using q5)) (ne (by simpa using q6)))
end Go.Proofs.YtjmahgefijncaaaGreatFmt.Sp

