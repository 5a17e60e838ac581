/- Functions with rounds: from some number of them on they answer. -/
set_option linter.unusedVariables false
set_option linter.unusedSimpArgs false
namespace Go.Proofs.YtdfehaonngccjaaGreatDoor

/-- From some number of rounds on it is so. -/
def Ev {α : Type} (f : Nat → Option α) (r : α) : Prop := ∃ K, ∀ k, K ≤ k → f k = some r
theorem Ev.succ {α : Type} {f g : Nat → Option α} {r : α} (h : Ev g r) (e : ∀ k, f (k + 1) = g k) : Ev f r := by
  obtain ⟨K, h⟩ := h
  refine ⟨K + 1, fun k hk => ?_⟩
  obtain ⟨k, rfl⟩ : ∃ k', k = k' + 1 := ⟨k - 1, by omega⟩
  rw [e]; exact h k (by omega)
theorem Ev.done {α : Type} {f : Nat → Option α} {r : α} (e : ∀ k, f (k + 1) = some r) : Ev f r := by
  refine ⟨1, fun k hk => ?_⟩
  obtain ⟨k, rfl⟩ : ∃ k', k = k' + 1 := ⟨k - 1, by omega⟩
  exact e k
theorem Ev.two {α β : Type} {f : Nat → Option α} {g : Nat → Option β} {h : Nat → Option α} {r : α} {s : β} (h1 : Ev g s) (h2 : Ev h r) (e : ∀ k, g k = some s → f (k + 1) = h k) : Ev f r := by
  obtain ⟨K1, h1⟩ := h1
  obtain ⟨K2, h2⟩ := h2
  refine ⟨K1 + K2 + 1, fun k hk => ?_⟩
  obtain ⟨k, rfl⟩ : ∃ k', k = k' + 1 := ⟨k - 1, by omega⟩
  rw [e k (h1 k (by omega))]; exact h2 k (by omega)
theorem Ev.at_ {α : Type} {f : Nat → Option α} {r : α} (h : Ev f r) : ∃ k, f k = some r := ⟨h.choose, h.choose_spec _ (Nat.le_refl _)⟩
theorem Ev.both {α β : Type} {f : Nat → Option α} {g : Nat → Option β} {r : α} {s : β} (h1 : Ev f r) (h2 : Ev g s) : ∃ k, f k = some r ∧ g k = some s := by
  obtain ⟨K1, h1⟩ := h1
  obtain ⟨K2, h2⟩ := h2
  exact ⟨K1 + K2, h1 _ (by omega), h2 _ (by omega)⟩
end Go.Proofs.YtdfehaonngccjaaGreatDoor

/- What readPacket makes of bytes, as a plain function; no program in sight. -/
namespace Go.Proofs.YtdfehaonngccjaaGreatDoor.Ber

/-- A packet: its class (0 to 3), whether it is constructed, its tag, its bytes, its packets. -/
inductive Pk where
  | mk (cls : Nat) (built : Bool) (tag : Nat) (data : List UInt8) (items : List Pk)

/-- The tag behind an identifier byte that ends in 31: k bytes were read, acc is what they say. -/
def high : List UInt8 → Nat → Nat → Option (Nat × List UInt8)
  | [], _, _ => none
  | b :: s, acc, k =>
    if k = 0 ∧ b.toNat % 128 = 0 then none
    else if 9 ≤ k then none
    else if b.toNat < 128 then some (acc * 128 + b.toNat % 128, s) else high s (acc * 128 + b.toNat % 128) (k + 1)

def ident : List UInt8 → Option (Nat × Bool × Nat × List UInt8)
  | [] => none
  | b :: s =>
    if b.toNat % 32 = 31 then (high s 0 0).map fun r => (b.toNat / 64, decide (b.toNat / 32 % 2 = 1), r.1, r.2)
    else some (b.toNat / 64, decide (b.toNat / 32 % 2 = 1), b.toNat % 32, s)

def be (l : List UInt8) : Nat := l.foldl (fun a b => a * 256 + b.toNat) 0

/-- A length: none within: indefinite. -/
def lenOf : List UInt8 → Option (Option Nat × List UInt8)
  | [] => none
  | b :: s =>
    if b.toNat = 255 then none
    else if b.toNat = 128 then some (none, s)
    else if b.toNat < 128 then some (some b.toNat, s)
    else if 8 < b.toNat - 128 then none
    else if s.length < b.toNat - 128 then none
    else if 2 ^ 63 ≤ be (s.take (b.toNat - 128)) then none
    else some (some (be (s.take (b.toNat - 128))), s.drop (b.toNat - 128))

def header (s : List UInt8) : Option (Nat × Bool × Nat × Option Nat × List UInt8) :=
  match ident s with
  | none => none
  | some (c, b, t, s1) =>
    match lenOf s1 with
    | none => none
    | some (len, s2) => if len = none ∧ b = false then none else some (c, b, t, len, s2)

/-- The sevens of bits of a tag, the high ones first, all but the last marked. -/
def tagMore : Nat → Nat → List UInt8
  | 0, _ => []
  | f + 1, n => if n = 0 then [] else tagMore f (n / 128) ++ [UInt8.ofNat (n % 128 + 128)]
def tagBytes (n : Nat) : List UInt8 := if n = 0 then [] else tagMore 10 (n / 128) ++ [UInt8.ofNat (n % 128)]
def identBytes (c : Nat) (b : Bool) (t : Nat) : List UInt8 :=
  if t < 31 then [UInt8.ofNat (c * 64 + (if b then 32 else 0) + t)] else UInt8.ofNat (c * 64 + (if b then 32 else 0) + 31) :: tagBytes t
def digits : Nat → Nat → List UInt8
  | 0, _ => []
  | f + 1, n => if n < 256 then [UInt8.ofNat n] else digits f (n / 256) ++ [UInt8.ofNat (n % 256)]
def lenBytes (n : Nat) : List UInt8 := if n < 128 then [UInt8.ofNat n] else UInt8.ofNat (128 + (digits 8 n).length) :: digits 8 n

mutual
def body : Pk → List UInt8
  | .mk _ b _ data items => if b then bodies items else data
def bodies : List Pk → List UInt8
  | [] => []
  | .mk c b t data items :: r => (identBytes c b t ++ (lenBytes (body (.mk c b t data items)).length ++ body (.mk c b t data items))) ++ bodies r
end
def enc : Pk → List UInt8
  | .mk c b t data items => identBytes c b t ++ (lenBytes (body (.mk c b t data items)).length ++ body (.mk c b t data items))

/-- bad: nothing is said; err: refused; ok: a packet and the rest. -/
inductive Res where
  | bad
  | err
  | ok (p : Pk) (rest : List UInt8)

/-- Primitive ones of whose values something is said. -/
def known (c t : Nat) : Bool := !decide (c = 0) || decide (t = 0) || decide (t = 1) || decide (t = 2) || decide (t = 4) || decide (t = 5) || decide (t = 10)

def prim (c t n : Nat) (s : List UInt8) : Res :=
  if n = 0 then (if known c t then .ok (.mk c false t [] []) s else .bad)
  else if 480 < n ∧ 480 < s.length then .bad
  else if s.length < n then .err
  else if known c t then .ok (.mk c false t (s.take n) []) (s.drop n) else .bad

def isEOC : Pk → Bool
  | .mk c b t data _ => decide (c = 0) && !b && decide (t = 0) && data.isEmpty

mutual
def readP : Nat → Nat → List UInt8 → Res
  | 0, _, _ => .bad
  | f + 1, d, s =>
    if 1000 ≤ d then .err else
    match header s with
    | none => .err
    | some (_, false, _, none, _) => .err
    | some (c, true, t, none, s1) => kids f d c t none 0 [] s1
    | some (c, b, t, some n, s1) => if 2147483647 < n then .err else if b then kids f d c t (some n) 0 [] s1 else prim c t n s1
def kids : Nat → Nat → Nat → Nat → Option Nat → Nat → List Pk → List UInt8 → Res
  | 0, _, _, _, _, _, _, _ => .bad
  | f + 1, d, c, t, len, got, items, s =>
    if len = some got then .ok (.mk c true t [] items) s
    else if len.any (fun n => decide (n < got)) then .err
    else match readP f (d + 1) s with
      | .bad => .bad
      | .err => .err
      | .ok p rest =>
        if 2147483647 < got + (s.length - rest.length) then .err
        else if isEOC p then (if len = none then .ok (.mk c true t [] items) rest else .err)
        else kids f d c t len (got + (s.length - rest.length)) (items ++ [p]) rest
end
end Go.Proofs.YtdfehaonngccjaaGreatDoor.Ber

/- How many values stand in one, what berIs asks, what is known. -/
namespace Go.Proofs.YtdfehaonngccjaaGreatDoor

namespace Ber
mutual
def count : Pk → Nat
  | .mk _ _ _ _ items => counts items + 1
def counts : List Pk → Nat
  | [] => 0
  | x :: r => count x + counts r
end
theorem counts_append : ∀ (l m : List Pk), counts (l ++ m) = counts l + counts m
  | [], m => by simp [counts]
  | x :: l, m => by simp [counts, counts_append l m, Nat.add_assoc]
theorem counts_take (l : List Pk) (j : Nat) (hj : j < l.length) : counts (l.take (j + 1)) = counts (l.take j) + count l[j] := by
  rw [List.take_succ_eq_append_getElem hj, counts_append]; simp [counts]
end Ber

namespace Ber
mutual
/-- What berIs says of a value, at most so deep. -/
def IsOK : Nat → Pk → Prop
  | dd, .mk c b t data items => c ≤ 3 ∧ t < 2 ^ 31 ∧ ¬ (c = 0 ∧ t = 0) ∧ 1 ≤ dd ∧ data.length ≤ 400 ∧ (b = true → data = []) ∧ (b = false → items = []) ∧ IsOKs (dd - 1) items
def IsOKs : Nat → List Pk → Prop
  | _, [] => True
  | dd, x :: r => IsOK dd x ∧ IsOKs dd r
end
theorem IsOKs.append : ∀ {dd : Nat} {l m : List Pk}, IsOKs dd l → IsOKs dd m → IsOKs dd (l ++ m)
  | _, [], _, _, h => h
  | _, _ :: _, _, h, h2 => ⟨h.1, IsOKs.append h.2 h2⟩
end Ber

namespace Ber
mutual
/-- Its primitive ones are known. -/
def Known : Pk → Prop
  | .mk c b t _ items => (b = false → known c t = true) ∧ Knowns items
def Knowns : List Pk → Prop
  | [] => True
  | x :: r => Known x ∧ Knowns r
end
theorem Knowns.append : ∀ {l m : List Pk}, Knowns l → Knowns m → Knowns (l ++ m)
  | [], _, _, h => h
  | _ :: _, _, h, h2 => ⟨h.1, Knowns.append h.2 h2⟩
end Ber
end Go.Proofs.YtdfehaonngccjaaGreatDoor

