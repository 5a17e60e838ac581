/- The frame of a call that may write to one block of old memory: every other block below a bound stays as it was. -/
import Derived.WalkKit
import Derived.Handy
import Derived.Lib.BufferKept
import Derived.Lib.Hide
import Derived.Laws.CopyOwn
import Derived.Lib.RuneBytes
import GoSem.Core.Utf8
import Derived.Test.YtjmahgefijncaaaGreatFmtProg
import Derived.Maps.AppendAt
import Derived.Deep.QuietTactic
import Derived.BigQuiet
import Derived.RegionTactic
import Derived.Deep.RegionLaw
import Derived.Outline
import Derived.Deep.RegionWith
import Derived.Lib.OthersKept
set_option linter.unusedVariables false
set_option linter.unusedSimpArgs false
namespace Go.Proofs.YtjmahgefijncaaaGreatFmt
open Go Go.RowKit

/-- Below block number B, but for block R, the world w' is as w was; the streams are as they were; no block has gone. -/
structure Keep (B R : Nat) (w w' : World) : Prop where
  os : w'.os = w.os
  tape : w'.tape = w.tape
  output : w'.output = w.output
  size : w.heap.size ≤ w'.heap.size
  block : ∀ k, k < B → k ≠ R → w'.heap[k]? = w.heap[k]?

namespace Keep
variable {B R : Nat} {a b w w' : World}
theorem refl (B R : Nat) (w : World) : Keep B R w w := ⟨rfl, rfl, rfl, Nat.le_refl _, fun _ _ _ => rfl⟩
theorem trans (h : Keep B R a b) (k : Keep B R b w) : Keep B R a w :=
  ⟨k.os.trans h.os, k.tape.trans h.tape, k.output.trans h.output, Nat.le_trans h.size k.size, fun i hi hr => (k.block i hi hr).trans (h.block i hi hr)⟩
theorem mono (h : Keep B R w w') {B' : Nat} (hB : B' ≤ B) : Keep B' R w w' := ⟨h.os, h.tape, h.output, h.size, fun k hk => h.block k (Nat.lt_of_lt_of_le hk hB)⟩
theorem ofBelow (h : Below B w w') : Keep B R w w' := ⟨h.os, h.tape, h.output, h.size, fun k hk _ => h.block k hk⟩
theorem toBelow (h : Keep B R w w') (hR : B ≤ R) : Below B w w' := ⟨h.os, h.tape, h.output, h.size, fun k hk => h.block k hk (by omega)⟩
theorem drew (h : Keep B R a w) : Keep B R a w.drew := ⟨h.os, h.tape, h.output, h.size, h.block⟩
theorem drewN (h : Keep B R a w) (n : Nat) : Keep B R a (w.drewN n) := ⟨h.os, h.tape, h.output, h.size, h.block⟩
theorem alloc (h : Keep B R a w) (hB : B ≤ w.heap.size) (o : Obj) : Keep B R a (w.alloc o) :=
  h.trans (ofBelow ((Below.refl B w).alloc hB o))
theorem setCell (h : Keep B R a w) {p : Addr} (hp : B ≤ p.block ∨ p.block = R) (u : Value) : Keep B R a (w.setCell p u) :=
  h.trans ⟨rfl, rfl, rfl, by simp [World.setCell], fun k hk hr => Below.heap_setCell _ _ _ _ (by rcases hp with hp | hp <;> omega)⟩
theorem setRow (h : Keep B R a w) {g : Nat} (hp : B ≤ g ∨ g = R) (cs : Array Value) : Keep B R a (w.setRow g cs) :=
  h.trans ⟨rfl, rfl, rfl, by simp [World.setRow], fun k hk hr => setRow_other w g k cs (by rcases hp with hp | hp <;> omega)⟩
theorem grown {row : Option Nat} (h : Keep B R a w) (hg : w.grownBy w' row) (hB : B ≤ w.heap.size) (hr : ∀ k, row = some k → B ≤ k ∨ k = R) : Keep B R a w' :=
  h.trans ⟨hg.os, hg.tape, hg.output, hg.size, fun k hk hkr => hg.block k (by omega) (fun e => by rcases hr k e.symm with h | h <;> omega)⟩
theorem cell (h : Keep B R w w') {p : Addr} (hp : p.block < B) (hr : p.block ≠ R) : w'.cell? p = w.cell? p := World.cell?_of_block (w := w) (h.block p.block hp hr)
theorem frozen (h : Keep B R w w') {p : Addr} (hp : p.block < B) (hr : p.block ≠ R) : w'.frozen? p = w.frozen? p := World.frozen?_of_block (w := w) (h.block p.block hp hr)
end Keep

/-- The cells of a block that is known whole. -/
theorem blockCell {w : World} {g : Nat} {c : Array Value} {t : TypeId} {fr : Nat × Nat} (h : w.heap[g]? = some (.cells c t fr)) (j : Nat) : w.cell? ⟨g, j, none⟩ = c[j]? := by
  simp [World.cell?, h]
theorem blockFrozen {w : World} {g : Nat} {c : Array Value} {t : TypeId} (h : w.heap[g]? = some (.cells c t (0, 0))) (j : Nat) : w.frozen? ⟨g, j, none⟩ = false := by
  simp [World.frozen?, h]
theorem blockSet {w : World} {g : Nat} {c : Array Value} {t : TypeId} {fr : Nat × Nat} (h : w.heap[g]? = some (.cells c t fr)) (j : Nat) (v : Value) :
    (w.setCell ⟨g, j, none⟩ v).heap[g]? = some (.cells (c.setIfInBounds j v) t fr) := by
  simp [World.setCell, Array.getElem?_modify, h]
theorem three_set {w : World} {g : Nat} {x0 x1 x2 : Value} {t : TypeId} {fr : Nat × Nat} (h : w.heap[g]? = some (.cells #[x0, x1, x2] t fr)) (a b c : Value) :
    (((w.setCell ⟨g, 0, none⟩ a).setCell ⟨g, 1, none⟩ b).setCell ⟨g, 2, none⟩ c).heap[g]? = some (.cells #[a, b, c] t fr) := by
  have e := blockSet (blockSet (blockSet h 0 a) 1 b) 2 c
  simpa using e
theorem blockLt {w : World} {g : Nat} {o : Obj} (h : w.heap[g]? = some o) : g < w.heap.size := (Array.getElem?_eq_some_iff.1 h).1

/-- copy of at least one cell onto a row: the world written out. -/
theorem step_copy_set {P : Program} {ops : Array Oper} {o : Oper} {a : Act} {w : World} {K : Act → World → Prop} {Q : Exit → Act → World → Prop} {E : Prop} (hgd : o.guard = none) (d s : Operand) (dT sT : TypeId)
    (ho : o.op = .call { callee := .builtin .copy, args := #[d, s], argTypes := #[dT, sT] }) (elem : TypeId) (hu : P.underlying dT = some (.slice elem)) (hsz : (P.info? elem).map (·.size) = some 1)
    (dLen dCap sLen sCap : Nat) (g off : Nat) (ad : Addr) (hd : a.eval d = .slice (some ⟨g, off, none⟩) dLen dCap) (hs : a.eval s = .slice (some ad) sLen sCap)
    (cur : List Value) (t : TypeId) (cs : List Value) (hg : w.heap[g]? = some (.cells cur.toArray t (0, 0))) (hn : cs.length = Nat.min sLen dLen)
    (hsrc : ∀ j v, cs[j]? = some v → w.cell? (ad.add j) = some v)
    (hfit : off + cs.length ≤ cur.length) (h1 : ∀ v ∈ cs, v.oneCell' = true)
    (h : K (a.put o.dst (goInt cs.length)) (w.setRow g (splice cur off cs).toArray)) :
    if Region.wanted o (yielded ops a.tmps) = true then Oper.wp P o a w K Q else E := by
  have hw : Region.wanted o (yielded ops a.tmps) = true := by simp [Region.wanted, hgd]
  rw [if_pos hw]
  have hrun := run_copy_row (P := P) w dT sT o.type elem g off dLen dCap ad sLen sCap cur.toArray t cs hu hsz hg hn hsrc (by simpa using hfit) h1
  unfold Oper.wp
  simp [execOp, ho, resolve, invoke, builtin, hd, hs, hrun, Result.andThen]
  simp only [splice] at h
  simpa using (show Oper.upon P o a K Q (Result.ok (Next.value (goInt cs.length)) _) from h)

theorem cell_setRow {w : World} {g : Nat} (X : Array Value) {p : Addr} (h : p.block ≠ g) : (w.setRow g X).cell? p = w.cell? p :=
  World.cell?_of_block (w := w) (setRow_other w g p.block X (by omega))
theorem frozen_setRow {w : World} {g : Nat} (X : Array Value) {p : Addr} (h : p.block ≠ g) : (w.setRow g X).frozen? p = w.frozen? p :=
  World.frozen?_of_block (w := w) (setRow_other w g p.block X (by omega))

theorem cell_alloc {w : World} {p : Addr} {v : Value} (h : w.cell? p = some v) (o : Obj) : (w.alloc o).cell? p = some v :=
  (World.cell?_of_block (w := w) (Below.heap_alloc w o p.block (World.block_lt_of_cell? w p h))).trans h

/-- Two worlds alike but for the count of draws. -/
structure Same (w w' : World) : Prop where
  os : w'.os = w.os
  tape : w'.tape = w.tape
  output : w'.output = w.output
  heap : w'.heap = w.heap
theorem Same.refl (w : World) : Same w w := ⟨rfl, rfl, rfl, rfl⟩
theorem Same.trans {a b c : World} (h : Same a b) (k : Same b c) : Same a c := ⟨k.os.trans h.os, k.tape.trans h.tape, k.output.trans h.output, k.heap.trans h.heap⟩
theorem Same.drewN {a b : World} (h : Same a b) (n : Nat) : Same a (b.drewN n) := ⟨h.os, h.tape, h.output, h.heap⟩
theorem Same.drew {a b : World} (h : Same a b) : Same a b.drew := ⟨h.os, h.tape, h.output, h.heap⟩
theorem Same.keep {w w' : World} (h : Same w w') (B R : Nat) : Keep B R w w' := ⟨h.os, h.tape, h.output, by rw [h.heap]; exact Nat.le_refl _, fun k _ _ => by rw [h.heap]⟩
theorem Same.cell {w w' : World} (h : Same w w') (p : Addr) : w'.cell? p = w.cell? p := World.cell?_of_block (w := w) (by rw [h.heap])
theorem Same.frozen {w w' : World} (h : Same w w') (p : Addr) : w'.frozen? p = w.frozen? p := World.frozen?_of_block (w := w) (by rw [h.heap])
end Go.Proofs.YtjmahgefijncaaaGreatFmt

/- The frame of a call that may write to some blocks of old memory. -/
namespace Go.Proofs.YtjmahgefijncaaaGreatFmt
open Go Go.RowKit

/-- Old blocks stand but for those of S. -/
structure Only (S : Nat → Prop) (w w' : World) : Prop where
  os : w'.os = w.os
  tape : w'.tape = w.tape
  output : w'.output = w.output
  size : w.heap.size ≤ w'.heap.size
  block : ∀ k, k < w.heap.size → ¬ S k → w'.heap[k]? = w.heap[k]?

namespace Only
variable {S : Nat → Prop} {a w w' : World}
theorem refl (S : Nat → Prop) (w : World) : Only S w w := ⟨rfl, rfl, rfl, Nat.le_refl _, fun _ _ _ => rfl⟩
theorem trans (h : Only S a w) (k : Only S w w') : Only S a w' :=
  ⟨k.os.trans h.os, k.tape.trans h.tape, k.output.trans h.output, Nat.le_trans h.size k.size, fun i hi hs => (k.block i (Nat.lt_of_lt_of_le hi h.size) hs).trans (h.block i hi hs)⟩
theorem weaken (h : Only S w w') {T : Nat → Prop} (hT : ∀ k, k < w.heap.size → S k → T k) : Only T w w' :=
  ⟨h.os, h.tape, h.output, h.size, fun k hk hs => h.block k hk (fun e => hs (hT k hk e))⟩
theorem trans2 {T : Nat → Prop} (h : Only S a w) (k : Only T w w') (hT : ∀ i, i < a.heap.size → T i → S i) : Only S a w' :=
  ⟨k.os.trans h.os, k.tape.trans h.tape, k.output.trans h.output, Nat.le_trans h.size k.size, fun i hi hs => (k.block i (Nat.lt_of_lt_of_le hi h.size) (fun e => hs (hT i hi e))).trans (h.block i hi hs)⟩
theorem ofKeep {D : Nat} (h : Keep w.heap.size D w w') : Only (· = D) w w' := ⟨h.os, h.tape, h.output, h.size, fun k hk hr => h.block k hk hr⟩
theorem toKeep {B D : Nat} (h : Only S w w') (hS : ∀ k, S k → B ≤ k ∨ k = D) (hB : B ≤ w.heap.size) : Keep B D w w' :=
  ⟨h.os, h.tape, h.output, h.size, fun k hk hr => h.block k (by omega) (fun e => by rcases hS k e with h1 | h1 <;> omega)⟩
theorem drew (h : Only S a w) : Only S a w.drew := ⟨h.os, h.tape, h.output, h.size, h.block⟩
theorem drewN (h : Only S a w) (n : Nat) : Only S a (w.drewN n) := ⟨h.os, h.tape, h.output, h.size, h.block⟩
theorem alloc (h : Only S a w) (o : Obj) : Only S a (w.alloc o) :=
  ⟨h.os, h.tape, h.output, by have := (Below.refl w.heap.size w).alloc (Nat.le_refl _) o; exact Nat.le_trans h.size this.size, fun k hk hs => (Below.heap_alloc w o k (Nat.lt_of_lt_of_le hk h.size)).trans (h.block k hk hs)⟩
theorem setCell (h : Only S a w) {p : Addr} (hp : a.heap.size ≤ p.block ∨ S p.block) (u : Value) : Only S a (w.setCell p u) :=
  ⟨h.os, h.tape, h.output, by simp [World.setCell]; exact h.size, fun k hk hs => (Below.heap_setCell _ _ _ _ (fun e => by rcases hp with hp | hp; omega; exact hs (e ▸ hp))).trans (h.block k hk hs)⟩
theorem setRow (h : Only S a w) {g : Nat} (hp : a.heap.size ≤ g ∨ S g) (cs : Array Value) : Only S a (w.setRow g cs) :=
  ⟨h.os, h.tape, h.output, by simp [World.setRow]; exact h.size, fun k hk hs => (setRow_other w g k cs (fun e => by rcases hp with hp | hp; omega; exact hs (e ▸ hp))).trans (h.block k hk hs)⟩
theorem same {b : World} (h : Only S a w) (k : Same w b) : Only S a b := ⟨k.os.trans h.os, k.tape.trans h.tape, k.output.trans h.output, by rw [k.heap]; exact h.size, fun i hi hs => by rw [k.heap]; exact h.block i hi hs⟩
theorem ofSame (k : Same w w') : Only S w w' := (refl S w).same k
theorem cell (h : Only S w w') {p : Addr} (hp : p.block < w.heap.size) (hr : ¬ S p.block) : w'.cell? p = w.cell? p := World.cell?_of_block (w := w) (h.block p.block hp hr)
end Only
end Go.Proofs.YtjmahgefijncaaaGreatFmt

/- What ParseDN makes of bytes, as plain functions; no program in sight. -/
namespace Go.Proofs.YtjmahgefijncaaaGreatFmt.Nm
open Go

def bs (l : List UInt8) : ByteArray := ⟨l.toArray⟩

def trimL (l : List UInt8) : List UInt8 := l.dropWhile (· == 32)
/-- Where the blanks at the end of the first n bytes begin. -/
def upTo (l : List UInt8) : Nat → Nat
  | 0 => 0
  | n + 1 => if l[n]? = some 32 then upTo l n else n + 1
def trimR (l : List UInt8) : List UInt8 := l.take (upTo l l.length)
/-- How many backslashes stand at the end of the first n bytes. -/
def slashesTo (l : List UInt8) : Nat → Nat
  | 0 => 0
  | n + 1 => if l[n]? = some 92 then slashesTo l n + 1 else 0
def slashes (l : List UInt8) : Nat := slashesTo l l.length
def strip (l : List UInt8) : List UInt8 :=
  if trimR (trimL l) ≠ [] ∧ l.getLast? = some 32 ∧ slashes (trimR (trimL l)) % 2 = 1 then trimR (trimL l) ++ [32] else trimR (trimL l)

/-- The runes of a text from place pos on. -/
def runes (s : ByteArray) : Nat → Nat → List Nat
  | 0, _ => []
  | f + 1, pos => if pos < s.size then (Utf8.decode s pos).1 :: runes s f (pos + (Utf8.decode s pos).2) else []

def special (c : Nat) : Bool := c == 32 || c == 34 || c == 35 || c == 43 || c == 44 || c == 59 || c == 60 || c == 61 || c == 62 || c == 92
def refused (c : Nat) : Bool := c == 34 || c == 59 || c == 60 || c == 62 || c == 0
def hexDigit (c : Nat) : Option Nat :=
  if 48 ≤ c ∧ c ≤ 57 then some (c - 48) else if 97 ≤ c ∧ c ≤ 102 then some (c - 87) else if 65 ≤ c ∧ c ≤ 70 then some (c - 55) else none

/-- What the escapes of runes say. -/
def unescape : List Nat → Option (List UInt8)
  | [] => some []
  | c :: r =>
    if c = 92 then
      match r with
      | [] => none
      | d :: r1 =>
        if special d then (unescape r1).map (Lib.encodeRune d ++ ·)
        else match r1 with
          | [] => none
          | e :: r2 =>
            match hexDigit d, hexDigit e with
            | some x, some y => (unescape r2).map (UInt8.ofNat (x * 16 + y) :: ·)
            | _, _ => none
    else if refused c then none else (unescape r).map (Lib.encodeRune c ++ ·)

def decode (l : List UInt8) : Option (List UInt8) := unescape (runes (bs (strip l)) (strip l).length 0)

/-- An attribute: its type, its value. -/
abbrev Part := List UInt8 × List UInt8
/-- A name: its relative names. -/
abbrev Name := List (List Part)

/-- The loop of ParseDN: the bytes to come, those since the last start, whether a backslash stands ahead, the type that was read, the relative name and the name so far. val: what a value's text says. -/
def parse (val : List UInt8 → Option (List UInt8)) : List UInt8 → List UInt8 → Bool → List UInt8 → List Part → Name → Option Name
  | [], seg, _, ty, rdn, dn => if ty = [] then none else (val seg).map fun v => dn ++ [rdn ++ [(ty, v)]]
  | c :: r, seg, esc, ty, rdn, dn =>
    if esc then parse val r (seg ++ [c]) false ty rdn dn
    else if c = 92 then parse val r (seg ++ [c]) true ty rdn dn
    else if c = 61 ∧ ty = [] then
      match decode seg with
      | none => none
      | some t => parse val r [] false t rdn dn
    else if c = 44 ∨ c = 43 ∨ c = 59 then
      if ty = [] then none
      else match val seg with
        | none => none
        | some v => if c = 43 then parse val r [] false [] (rdn ++ [(ty, v)]) dn else parse val r [] false [] [] (dn ++ [rdn ++ [(ty, v)]])
    else parse val r (seg ++ [c]) false ty rdn dn

def blank (l : List UInt8) : Bool := l.all fun c => c == 32 || (9 ≤ c && c ≤ 13)
def parseDN (val : List UInt8 → Option (List UInt8)) (l : List UInt8) : Option Name := if blank l then some [] else parse val l [] false [] [] []

end Go.Proofs.YtjmahgefijncaaaGreatFmt.Nm

/- Names in memory: attributes, relative names, names; what stands as long as their blocks stand. -/
namespace Go.Proofs.YtjmahgefijncaaaGreatFmt
open Go Go.RowKit

theorem owns_stays {w w' : World} {B : Nat} {e : TypeId} {sz : Nat} {v : Value} {n : Nat} {xs : List Value} (h : w.ownsRow B e sz v n xs) (k : ∀ g, v.ownBlock = some g → w'.heap[g]? = w.heap[g]?) : w'.ownsRow B e sz v n xs := by
  refine ⟨h.1, h.2.imp id ?_⟩
  rintro ⟨g, cap, cur, e1, e2, e3, e4⟩
  exact ⟨g, cap, cur, e1, e2, (k g (by rw [e1]; rfl)).trans e3, e4⟩
theorem owns_lt {w : World} {B : Nat} {e : TypeId} {sz : Nat} {v : Value} {n : Nat} {xs : List Value} (h : w.ownsRow B e sz v n xs) : ∀ g, v.ownBlock = some g → g < w.heap.size := by
  rcases h.2 with ⟨hv, _⟩ | ⟨g, cap, cur, hv, _, hg, _⟩
  · intro g hg; rw [hv] at hg; simp [Value.ownBlock] at hg
  · intro k hk; rw [hv] at hk; simp only [Value.ownBlock, Option.some.injEq] at hk; subst hk; exact blockLt hg
theorem owns_form {w : World} {B : Nat} {e : TypeId} {sz : Nat} {v : Value} {n : Nat} {xs : List Value} (h : w.ownsRow B e sz v n xs) : ∃ o c, v = .slice o n c := by
  rcases h.2 with ⟨hv, h0⟩ | ⟨g, cap, cur, hv, _⟩
  · exact ⟨none, 0, by rw [hv, h0]⟩
  · exact ⟨_, _, hv⟩
theorem owns_cell {w : World} {B : Nat} {e : TypeId} {v : Value} {n : Nat} {xs : List Value} (h : w.ownsRow B e 1 v n xs) {j : Nat} {u : Value} (hj : xs[j]? = some u) : ∃ g c, v = .slice (some ⟨g, 0, none⟩) n c ∧ w.cell? ⟨g, j, none⟩ = some u := by
  have hl := h.1
  rcases h.2 with ⟨hv, h0⟩ | ⟨g, cap, cur, hv, _, hg, h2, h3, h4, h5⟩
  · rw [List.getElem?_eq_none (by omega)] at hj; cases hj
  · refine ⟨g, cap, hv, ?_⟩
    rw [blockCell hg j]
    rw [← h5] at hj
    simp only [List.getElem?_take] at hj
    split at hj
    · simpa using hj
    · cases hj

/-- The block of an attribute. -/
def PartAt (w : World) (a : Nat) (p : Nm.Part) : Prop := w.heap[a]? = some (.cells #[.string (Nm.bs p.1), .string (Nm.bs p.2)] 120 (0, 0))

/-- Pointers to attributes, all in blocks of S. -/
def PartsAt (w : World) (S : Nat → Prop) (xs : List Value) : List Nm.Part → Prop
  | [] => xs = []
  | p :: r => ∃ a vs, xs = .pointer (some ⟨a, 0, none⟩) :: vs ∧ S a ∧ PartAt w a p ∧ PartsAt w S vs r

/-- The block of a relative name. -/
def RdnAt (w : World) (S : Nat → Prop) (r : Nat) (ps : List Nm.Part) : Prop :=
  S r ∧ ∃ v xs, w.heap[r]? = some (.cells #[v] 118 (0, 0)) ∧ w.ownsRow 0 119 1 v xs.length xs ∧ (∀ k, v.ownBlock = some k → S k) ∧ PartsAt w S xs ps

/-- Pointers to relative names. -/
def RdnsAt (w : World) (S : Nat → Prop) (xs : List Value) : Nm.Name → Prop
  | [] => xs = []
  | p :: r => ∃ a vs, xs = .pointer (some ⟨a, 0, none⟩) :: vs ∧ RdnAt w S a p ∧ RdnsAt w S vs r

/-- The block of a name. -/
def DnAt (w : World) (S : Nat → Prop) (d : Nat) (n : Nm.Name) : Prop :=
  S d ∧ ∃ v xs, w.heap[d]? = some (.cells #[v] 114 (0, 0)) ∧ w.ownsRow 0 115 1 v xs.length xs ∧ (∀ k, v.ownBlock = some k → S k) ∧ RdnsAt w S xs n

section
variable {w w' : World} {S T : Nat → Prop}
theorem PartsAt.len : ∀ {ps : List Nm.Part} {xs : List Value}, PartsAt w S xs ps → xs.length = ps.length
  | [], _, h => by rw [show _ = _ from h]; rfl
  | _ :: _, _, ⟨_, _, e, _, _, h⟩ => by rw [e, List.length_cons, List.length_cons, PartsAt.len h]
theorem RdnsAt.len : ∀ {ps : Nm.Name} {xs : List Value}, RdnsAt w S xs ps → xs.length = ps.length
  | [], _, h => by rw [show _ = _ from h]; rfl
  | _ :: _, _, ⟨_, _, e, _, h⟩ => by rw [e, List.length_cons, List.length_cons, RdnsAt.len h]

theorem PartsAt.stays (k : ∀ i, S i → w'.heap[i]? = w.heap[i]?) (hT : ∀ i, S i → T i) : ∀ {ps : List Nm.Part} {xs : List Value}, PartsAt w S xs ps → PartsAt w' T xs ps
  | [], _, h => h
  | _ :: _, _, ⟨a, vs, e, ha, hp, h⟩ => ⟨a, vs, e, hT a ha, (k a ha).trans hp, PartsAt.stays k hT h⟩
theorem RdnAt.stays (k : ∀ i, S i → w'.heap[i]? = w.heap[i]?) (hT : ∀ i, S i → T i) {r : Nat} {ps : List Nm.Part} : RdnAt w S r ps → RdnAt w' T r ps
  | ⟨hr, v, xs, h1, h2, h3, h4⟩ => ⟨hT r hr, v, xs, (k r hr).trans h1, owns_stays h2 (fun g hg => k g (h3 g hg)), fun g hg => hT g (h3 g hg), h4.stays k hT⟩
theorem RdnsAt.stays (k : ∀ i, S i → w'.heap[i]? = w.heap[i]?) (hT : ∀ i, S i → T i) : ∀ {ps : Nm.Name} {xs : List Value}, RdnsAt w S xs ps → RdnsAt w' T xs ps
  | [], _, h => h
  | _ :: _, _, ⟨a, vs, e, hp, h⟩ => ⟨a, vs, e, hp.stays k hT, RdnsAt.stays k hT h⟩
theorem DnAt.stays (k : ∀ i, S i → w'.heap[i]? = w.heap[i]?) (hT : ∀ i, S i → T i) {d : Nat} {n : Nm.Name} : DnAt w S d n → DnAt w' T d n
  | ⟨hr, v, xs, h1, h2, h3, h4⟩ => ⟨hT d hr, v, xs, (k d hr).trans h1, owns_stays h2 (fun g hg => k g (h3 g hg)), fun g hg => hT g (h3 g hg), h4.stays k hT⟩

theorem PartsAt.snoc {p : Nm.Part} {a : Nat} (ha : S a) (hp : PartAt w a p) : ∀ {ps : List Nm.Part} {xs : List Value}, PartsAt w S xs ps → PartsAt w S (xs ++ [.pointer (some ⟨a, 0, none⟩)]) (ps ++ [p])
  | [], _, h => by rw [show _ = _ from h]; exact ⟨a, [], rfl, ha, hp, rfl⟩
  | _ :: _, _, ⟨b, vs, e, hb, hq, h⟩ => by rw [e]; exact ⟨b, _, rfl, hb, hq, PartsAt.snoc ha hp h⟩
theorem RdnsAt.snoc {p : List Nm.Part} {a : Nat} (hp : RdnAt w S a p) : ∀ {ps : Nm.Name} {xs : List Value}, RdnsAt w S xs ps → RdnsAt w S (xs ++ [.pointer (some ⟨a, 0, none⟩)]) (ps ++ [p])
  | [], _, h => by rw [show _ = _ from h]; exact ⟨a, [], rfl, hp, rfl⟩
  | _ :: _, _, ⟨b, vs, e, hq, h⟩ => by rw [e]; exact ⟨b, _, rfl, hq, RdnsAt.snoc hp h⟩
theorem PartsAt.nth : ∀ {ps : List Nm.Part} {xs : List Value}, PartsAt w S xs ps → ∀ {i : Nat} {p : Nm.Part}, ps[i]? = some p → ∃ a, xs[i]? = some (.pointer (some ⟨a, 0, none⟩)) ∧ S a ∧ PartAt w a p
  | [], _, _, i, p, h => by simp at h
  | _ :: _, _, ⟨a, vs, e, ha, hp, h⟩, 0, p, hi => by simp only [List.getElem?_cons_zero, Option.some.injEq] at hi; subst hi; exact ⟨a, by rw [e]; rfl, ha, hp⟩
  | _ :: _, _, ⟨a, vs, e, ha, hp, h⟩, i + 1, p, hi => by
    obtain ⟨b, h1, h2⟩ := PartsAt.nth h (i := i) (p := p) (by simpa using hi)
    exact ⟨b, by rw [e]; simpa using h1, h2⟩
theorem RdnsAt.nth : ∀ {ps : Nm.Name} {xs : List Value}, RdnsAt w S xs ps → ∀ {i : Nat} {p : List Nm.Part}, ps[i]? = some p → ∃ a, xs[i]? = some (.pointer (some ⟨a, 0, none⟩)) ∧ RdnAt w S a p
  | [], _, _, i, p, h => by simp at h
  | _ :: _, _, ⟨a, vs, e, hp, h⟩, 0, p, hi => by simp only [List.getElem?_cons_zero, Option.some.injEq] at hi; subst hi; exact ⟨a, by rw [e]; rfl, hp⟩
  | _ :: _, _, ⟨a, vs, e, hp, h⟩, i + 1, p, hi => by
    obtain ⟨b, h1, h2⟩ := RdnsAt.nth h (i := i) (p := p) (by simpa using hi)
    exact ⟨b, by rw [e]; simpa using h1, h2⟩
end
end Go.Proofs.YtjmahgefijncaaaGreatFmt

/- ParseDN's memory: what its blocks hold; how a name grows in it. -/
namespace Go.Proofs.YtjmahgefijncaaaGreatFmt
open Go Go.RowKit

/-- Blocks of other types are other blocks. -/
theorem ne_of_types {w : World} {a b : Nat} {x y : Array Value} {t u : TypeId} {f g : Nat × Nat} (ha : w.heap[a]? = some (.cells x t f)) (hb : w.heap[b]? = some (.cells y u g)) (h : t ≠ u) : a ≠ b := by
  rintro rfl
  rw [ha] at hb
  injection hb with hb
  injection hb with _ h2 _
  exact h h2
theorem own_ne {w : World} {B : Nat} {e : TypeId} {sz : Nat} {v : Value} {n : Nat} {xs : List Value} (h : w.ownsRow B e sz v n xs) {b : Nat} {y : Array Value} {u : TypeId} {g : Nat × Nat} (hb : w.heap[b]? = some (.cells y u g)) (hne : e ≠ u) : v.ownBlock ≠ some b := by
  rcases h.2 with ⟨hv, _⟩ | ⟨k, cap, cur, hv, _, hg, _⟩
  · rw [hv]; simp [Value.ownBlock]
  · rw [hv]
    simp only [Value.ownBlock, ne_eq, Option.some.injEq]
    exact ne_of_types hg hb hne

/-- A row has been lengthened by a pointer: in place, or in a new block. -/
structure Longer (e t : TypeId) (R : Nat) (v : Value) (xs : List Value) (u : Value) (w w' : World) (v' : Value) : Prop where
  block : w'.heap[R]? = some (.cells #[v'] t (0, 0))
  own : w'.ownsRow 0 e 1 v' (xs.length + 1) (xs ++ [u])
  at' : v'.ownBlock = v.ownBlock ∨ ∃ g, v'.ownBlock = some g ∧ w.heap.size ≤ g
  only : Only (fun k => k = R ∨ v.ownBlock = some k) w w'
def LongerSome (e t : TypeId) (R : Nat) (v : Value) (xs : List Value) (u : Value) (w w' : World) : Prop := ∃ v', Longer e t R v xs u w w' v'

theorem longer_end {e t : TypeId} {R : Nat} {v : Value} {xs : List Value} {u : Value} {w w4 : World} {o : Obj} {g cap : Nat} (hR : w.heap[R]? = some (.cells #[v] t (0, 0))) (hvR : v.ownBlock ≠ some R)
    (hown : w4.ownsRow 0 e 1 (.slice (some ⟨g, 0, none⟩) (xs.length + 1) cap) (xs.length + 1) (xs ++ [u])) (hgr : ((w.alloc o).drew).grownBy w4 v.ownBlock) (hat : v.ownBlock = some g ∨ g = w.heap.size + 1) :
    LongerSome e t R v xs u w (w4.setCell ⟨R, 0, none⟩ (.slice (some ⟨g, 0, none⟩) (xs.length + 1) cap)) := by
  have hRlt := blockLt hR
  have hgR : g ≠ R := by
    rcases hat with h | h
    · rintro rfl; exact hvR h
    · omega
  have hR4 : w4.heap[R]? = some (.cells #[v] t (0, 0)) := (hgr.block R (by simp; omega) (fun h => hvR h.symm)).trans ((Below.heap_alloc w o R hRlt).trans hR)
  refine ⟨_, by simpa using blockSet hR4 0 (.slice (some ⟨g, 0, none⟩) (xs.length + 1) cap), owns_stays hown (fun k hk => Below.heap_setCell _ _ _ _ (by simp only [Value.ownBlock, Option.some.injEq] at hk; subst hk; exact hgR)), ?_, ?_⟩
  · rcases hat with h | h
    · exact Or.inl h.symm
    · exact Or.inr ⟨g, rfl, by omega⟩
  · have h1 : Only (fun k => k = R ∨ v.ownBlock = some k) w (w.alloc o).drew := ((Only.refl _ w).alloc o).drew
    have h2 : Only (fun k => v.ownBlock = some k) (w.alloc o).drew w4 := ⟨hgr.os, hgr.tape, hgr.output, hgr.size, fun k hk hs => hgr.block k hk (fun e => hs e.symm)⟩
    exact (h1.trans2 h2 (fun i _ h => Or.inr h)).setCell (p := ⟨R, 0, none⟩) (Or.inr (Or.inl rfl)) _

/-- The parser's blocks: X holds the relative name at hand, Y the attribute at hand, Z the name. -/
structure PInv (B X Y Z D Rb A : Nat) (v : Value) (xs : List Value) (vd : Value) (ds : List Value) (S : Nat → Prop) (ty val : List UInt8) (rdn : List Nm.Part) (dn : Nm.Name) (w : World) : Prop where
  hX : w.heap[X]? = some (.cells #[.pointer (some ⟨Rb, 0, none⟩)] 115 (0, 0))
  hY : w.heap[Y]? = some (.cells #[.pointer (some ⟨A, 0, none⟩)] 119 (0, 0))
  hZ : w.heap[Z]? = some (.cells #[.pointer (some ⟨D, 0, none⟩)] 81 (0, 0))
  hR : w.heap[Rb]? = some (.cells #[v] 118 (0, 0))
  hD : w.heap[D]? = some (.cells #[vd] 114 (0, 0))
  hA : PartAt w A (ty, val)
  own : w.ownsRow 0 119 1 v xs.length xs
  ownD : w.ownsRow 0 115 1 vd ds.length ds
  vY : v.ownBlock ≠ some Y
  dX : vd.ownBlock ≠ some X
  parts : PartsAt w S xs rdn
  rdns : RdnsAt w S ds dn
  avoid : ∀ k, S k → k < w.heap.size ∧ k ≠ X ∧ k ≠ Y ∧ k ≠ A ∧ k ≠ Rb ∧ k ≠ D ∧ v.ownBlock ≠ some k ∧ vd.ownBlock ≠ some k
  low : B ≤ X ∧ B ≤ Y ∧ B ≤ Z ∧ B ≤ D ∧ B ≤ A ∧ B ≤ Rb
  lowv : ∀ k, v.ownBlock = some k ∨ vd.ownBlock = some k → B ≤ k

section
variable {B X Y Z D Rb A : Nat} {v : Value} {xs : List Value} {vd : Value} {ds : List Value} {S : Nat → Prop} {ty val : List UInt8} {rdn : List Nm.Part} {dn : Nm.Name} {w w' wc : World}

/-- It stands where old blocks stand but for the attribute at hand. -/
theorem PInv.keep (h : PInv B X Y Z D Rb A v xs vd ds S ty val rdn dn w) (k : Keep w.heap.size A w w') {ty' val' : List UInt8} (hA : PartAt w' A (ty', val')) : PInv B X Y Z D Rb A v xs vd ds S ty' val' rdn dn w' := by
  have hb : ∀ i, i < w.heap.size → i ≠ A → w'.heap[i]? = w.heap[i]? := k.block
  have hAX := ne_of_types h.hA h.hX (by decide)
  have hAY := ne_of_types h.hA h.hY (by decide)
  have hAZ := ne_of_types h.hA h.hZ (by decide)
  have hAR := ne_of_types h.hA h.hR (by decide)
  have hAD := ne_of_types h.hA h.hD (by decide)
  have hAv := own_ne h.own h.hA (by decide)
  have hAd := own_ne h.ownD h.hA (by decide)
  have hS : ∀ i, S i → w'.heap[i]? = w.heap[i]? := fun i hi => hb i (h.avoid i hi).1 (h.avoid i hi).2.2.2.1
  exact ⟨(hb _ (blockLt h.hX) hAX.symm).trans h.hX, (hb _ (blockLt h.hY) hAY.symm).trans h.hY, (hb _ (blockLt h.hZ) hAZ.symm).trans h.hZ, (hb _ (blockLt h.hR) hAR.symm).trans h.hR, (hb _ (blockLt h.hD) hAD.symm).trans h.hD, hA,
    owns_stays h.own (fun g hg => hb g (owns_lt h.own g hg) (fun e => hAv (by rw [hg, e]))), owns_stays h.ownD (fun g hg => hb g (owns_lt h.ownD g hg) (fun e => hAd (by rw [hg, e]))), h.vY, h.dX,
    h.parts.stays hS (fun _ h => h), h.rdns.stays hS (fun _ h => h), fun i hi => ⟨Nat.lt_of_lt_of_le (h.avoid i hi).1 k.size, (h.avoid i hi).2⟩, h.low, h.lowv⟩

/-- The attribute at hand is added; a new one is at hand. -/
theorem PInv.part (h : PInv B X Y Z D Rb A v xs vd ds S ty val rdn dn w) {v' : Value} (k : Longer 119 118 Rb v xs (.pointer (some ⟨A, 0, none⟩)) w wc v')
    (hw : w' = (wc.setCell ⟨Y, 0, none⟩ (.pointer (some ⟨wc.heap.size, 0, none⟩))).alloc (.cells #[.string (Nm.bs []), .string (Nm.bs [])] 120 (0, 0))) :
    PInv B X Y Z D Rb wc.heap.size v' (xs ++ [.pointer (some ⟨A, 0, none⟩)]) vd ds (fun i => S i ∨ i = A) [] [] (rdn ++ [(ty, val)]) dn w' ∧ Below B w w' := by
  have hAX := ne_of_types h.hA h.hX (by decide)
  have hAY := ne_of_types h.hA h.hY (by decide)
  have hAR := ne_of_types h.hA h.hR (by decide)
  have hAD := ne_of_types h.hA h.hD (by decide)
  have hRX := ne_of_types h.hR h.hX (by decide)
  have hRY := ne_of_types h.hR h.hY (by decide)
  have hRZ := ne_of_types h.hR h.hZ (by decide)
  have hRD := ne_of_types h.hR h.hD (by decide)
  have hYX := ne_of_types h.hY h.hX (by decide)
  have hYZ := ne_of_types h.hY h.hZ (by decide)
  have hYD := ne_of_types h.hY h.hD (by decide)
  have vX := own_ne h.own h.hX (by decide)
  have vZ := own_ne h.own h.hZ (by decide)
  have vD := own_ne h.own h.hD (by decide)
  have vA := own_ne h.own h.hA (by decide)
  have vR := own_ne h.own h.hR (by decide)
  have dY := own_ne h.ownD h.hY (by decide)
  have dA := own_ne h.ownD h.hA (by decide)
  have dR := own_ne h.ownD h.hR (by decide)
  have hsz := k.only.size
  have lX := blockLt h.hX
  have lY := blockLt h.hY
  have lZ := blockLt h.hZ
  have lR := blockLt h.hR
  have lD := blockLt h.hD
  have lA := blockLt h.hA
  have hsz2 : w'.heap.size = wc.heap.size + 1 := by rw [hw]; simp [World.setCell]
  -- what stands
  have st : ∀ i, i < w.heap.size → i ≠ Rb → v.ownBlock ≠ some i → i ≠ Y → w'.heap[i]? = w.heap[i]? := fun i hi h1 h2 h3 => by
    rw [hw, Below.heap_alloc _ _ _ (by simp [World.setCell]; omega), Below.heap_setCell _ _ _ _ (by simpa using h3)]
    exact k.only.block i hi (by rintro (e | e); exact h1 e; exact h2 e)
  have st2 : ∀ i, i < wc.heap.size → i ≠ Y → w'.heap[i]? = wc.heap[i]? := fun i hi h3 => by
    rw [hw, Below.heap_alloc _ _ _ (by simp [World.setCell]; omega), Below.heap_setCell _ _ _ _ (by simpa using h3)]
  have hYc : wc.heap[Y]? = w.heap[Y]? := k.only.block Y lY (by rintro (e | e); exact hRY e.symm; exact h.vY e)
  have hY' := blockSet (hYc.trans h.hY) 0 (.pointer (some ⟨wc.heap.size, 0, none⟩))
  rw [← Below.heap_alloc _ (.cells #[.string (Nm.bs []), .string (Nm.bs [])] 120 (0, 0)) _ (by simp [World.setCell]; omega), ← hw] at hY'
  have hA' : w'.heap[wc.heap.size]? = some (.cells #[.string (Nm.bs []), .string (Nm.bs [])] 120 (0, 0)) := by
    have := heap_alloc_new (wc.setCell ⟨Y, 0, none⟩ (.pointer (some ⟨wc.heap.size, 0, none⟩))) (.cells #[.string (Nm.bs []), .string (Nm.bs [])] 120 (0, 0))
    rw [← hw] at this
    simpa [World.setCell] using this
  have hv' : ∀ g, v'.ownBlock = some g → g < wc.heap.size := owns_lt k.own
  have v'Y : v'.ownBlock ≠ some Y := by
    rcases k.at' with e | ⟨g, e, hg⟩
    · rw [e]; exact h.vY
    · rw [e]; intro e2; injection e2 with e2; omega
  have hS : ∀ i, S i → w'.heap[i]? = w.heap[i]? := fun i hi => by
    obtain ⟨a1, a2, a3, a4, a5, a6, a7, a8⟩ := h.avoid i hi
    exact st i a1 a5 a7 a3
  refine ⟨⟨?_, by simpa using hY', ?_, ?_, ?_, hA', ?_, ?_, v'Y, h.dX, ?_, ?_, ?_, ?_, ?_⟩, ?_⟩
  · exact (st X lX hRX.symm vX hYX.symm).trans h.hX
  · exact (st Z lZ hRZ.symm vZ hYZ.symm).trans h.hZ
  · exact (st2 Rb (by omega) hRY).trans k.block
  · exact (st D lD hRD.symm vD hYD.symm).trans h.hD
  · have := owns_stays k.own (w' := w') (fun g hg => st2 g (hv' g hg) (fun e => v'Y (by rw [hg, e])))
    simpa using this
  · refine owns_stays h.ownD (fun g hg => st g (owns_lt h.ownD g hg) (fun e => dR (by rw [hg, e])) ?_ (fun e => dY (by rw [hg, e])))
    intro e
    rcases h.own.2 with ⟨e1, _⟩ | ⟨a, c1, u1, e1, _, e3, _⟩
    · rw [e1] at e; simp [Value.ownBlock] at e
    · rcases h.ownD.2 with ⟨e5, _⟩ | ⟨b, c2, u2, e5, _, e7, _⟩
      · rw [e5] at hg; simp [Value.ownBlock] at hg
      · rw [e1] at e; rw [e5] at hg
        simp only [Value.ownBlock, Option.some.injEq] at e hg
        exact ne_of_types e3 e7 (by decide) (by omega)
  · refine PartsAt.snoc (Or.inr rfl) ((st A lA hAR vA hAY).trans h.hA) (h.parts.stays hS (fun _ h => Or.inl h))
  · exact h.rdns.stays hS (fun _ h => Or.inl h)
  · intro i hi
    rcases hi with hi | rfl
    · obtain ⟨a1, a2, a3, a4, a5, a6, a7, a8⟩ := h.avoid i hi
      refine ⟨by omega, a2, a3, by omega, a5, a6, ?_, a8⟩
      rcases k.at' with e | ⟨g, e, hg⟩
      · rw [e]; exact a7
      · rw [e]; intro e2; injection e2 with e2; omega
    · refine ⟨by omega, hAX, hAY, by omega, hAR, hAD, ?_, dA⟩
      rcases k.at' with e | ⟨g, e, hg⟩
      · rw [e]; exact vA
      · rw [e]; intro e2; injection e2 with e2; omega
  · obtain ⟨b1, b2, b3, b4, b5, b6⟩ := h.low
    exact ⟨b1, b2, b3, b4, by omega, b6⟩
  · intro i hi
    rcases hi with hi | hi
    · rcases k.at' with e | ⟨g, e, hg⟩
      · exact h.lowv i (Or.inl (by rw [← e]; exact hi))
      · rw [e] at hi; injection hi with hi; obtain ⟨b1, _⟩ := h.low; omega
    · exact h.lowv i (Or.inr hi)
  · obtain ⟨b1, b2, b3, b4, b5, b6⟩ := h.low
    have hb : Below B w wc := ⟨k.only.os, k.only.tape, k.only.output, k.only.size, fun i hi => k.only.block i (by omega) (by
      rintro (e | e)
      · omega
      · have := h.lowv i (Or.inl e); omega)⟩
    rw [hw]
    exact (hb.setCell (p := ⟨Y, 0, none⟩) b2 _).alloc (by simp [World.setCell]; omega) _

/-- The relative name at hand is added; a new one is at hand. -/
theorem PInv.last (h : PInv B X Y Z D Rb A v xs vd ds S ty val rdn dn w) {vd' : Value} (k : Longer 115 114 D vd ds (.pointer (some ⟨Rb, 0, none⟩)) w wc vd')
    (hw : w' = (wc.setCell ⟨X, 0, none⟩ (.pointer (some ⟨wc.heap.size, 0, none⟩))).alloc (.cells #[.slice none 0 0] 118 (0, 0))) :
    PInv B X Y Z D wc.heap.size A (.slice none 0 0) [] vd' (ds ++ [.pointer (some ⟨Rb, 0, none⟩)]) (fun i => S i ∨ i = Rb ∨ v.ownBlock = some i) ty val [] (dn ++ [rdn]) w' ∧ Below B w w' := by
  have hAX := ne_of_types h.hA h.hX (by decide)
  have hAD := ne_of_types h.hA h.hD (by decide)
  have hRX := ne_of_types h.hR h.hX (by decide)
  have hRY := ne_of_types h.hR h.hY (by decide)
  have hRA := ne_of_types h.hR h.hA (by decide)
  have hRD := ne_of_types h.hR h.hD (by decide)
  have hYX := ne_of_types h.hY h.hX (by decide)
  have hYD := ne_of_types h.hY h.hD (by decide)
  have hZX := ne_of_types h.hZ h.hX (by decide)
  have hZD := ne_of_types h.hZ h.hD (by decide)
  have hXD := ne_of_types h.hX h.hD (by decide)
  have vX := own_ne h.own h.hX (by decide)
  have vZ := own_ne h.own h.hZ (by decide)
  have vD := own_ne h.own h.hD (by decide)
  have vA := own_ne h.own h.hA (by decide)
  have vR := own_ne h.own h.hR (by decide)
  have dY := own_ne h.ownD h.hY (by decide)
  have dZ := own_ne h.ownD h.hZ (by decide)
  have dA := own_ne h.ownD h.hA (by decide)
  have dR := own_ne h.ownD h.hR (by decide)
  have dv : ∀ g, v.ownBlock = some g → vd.ownBlock ≠ some g := by
    intro g e hg
    rcases h.own.2 with ⟨e1, _⟩ | ⟨a, c1, u1, e1, _, e3, _⟩
    · rw [e1] at e; simp [Value.ownBlock] at e
    · rcases h.ownD.2 with ⟨e5, _⟩ | ⟨b, c2, u2, e5, _, e7, _⟩
      · rw [e5] at hg; simp [Value.ownBlock] at hg
      · rw [e1] at e; rw [e5] at hg
        simp only [Value.ownBlock, Option.some.injEq] at e hg
        exact ne_of_types e3 e7 (by decide) (by omega)
  have hsz := k.only.size
  have lX := blockLt h.hX
  have lY := blockLt h.hY
  have lZ := blockLt h.hZ
  have lR := blockLt h.hR
  have lD := blockLt h.hD
  have lA := blockLt h.hA
  have lv := owns_lt h.own
  have hsz2 : w'.heap.size = wc.heap.size + 1 := by rw [hw]; simp [World.setCell]
  have st : ∀ i, i < w.heap.size → i ≠ D → vd.ownBlock ≠ some i → i ≠ X → w'.heap[i]? = w.heap[i]? := fun i hi h1 h2 h3 => by
    rw [hw, Below.heap_alloc _ _ _ (by simp [World.setCell]; omega), Below.heap_setCell _ _ _ _ (by simpa using h3)]
    exact k.only.block i hi (by rintro (e | e); exact h1 e; exact h2 e)
  have st2 : ∀ i, i < wc.heap.size → i ≠ X → w'.heap[i]? = wc.heap[i]? := fun i hi h3 => by
    rw [hw, Below.heap_alloc _ _ _ (by simp [World.setCell]; omega), Below.heap_setCell _ _ _ _ (by simpa using h3)]
  have hXc : wc.heap[X]? = w.heap[X]? := k.only.block X lX (by rintro (e | e); exact hXD e; exact h.dX e)
  have hX' := blockSet (hXc.trans h.hX) 0 (.pointer (some ⟨wc.heap.size, 0, none⟩))
  rw [← Below.heap_alloc _ (.cells #[.slice none 0 0] 118 (0, 0)) _ (by simp [World.setCell]; omega), ← hw] at hX'
  have hR' : w'.heap[wc.heap.size]? = some (.cells #[.slice none 0 0] 118 (0, 0)) := by
    have := heap_alloc_new (wc.setCell ⟨X, 0, none⟩ (.pointer (some ⟨wc.heap.size, 0, none⟩))) (.cells #[.slice none 0 0] 118 (0, 0))
    rw [← hw] at this
    simpa [World.setCell] using this
  have hv' : ∀ g, vd'.ownBlock = some g → g < wc.heap.size := owns_lt k.own
  have d'X : vd'.ownBlock ≠ some X := by
    rcases k.at' with e | ⟨g, e, hg⟩
    · rw [e]; exact h.dX
    · rw [e]; intro e2; injection e2 with e2; omega
  have d'old : ∀ i, i < w.heap.size → vd.ownBlock ≠ some i → vd'.ownBlock ≠ some i := fun i hi hn => by
    rcases k.at' with e | ⟨g, e, hg⟩
    · rw [e]; exact hn
    · rw [e]; intro e2; injection e2 with e2; omega
  have hS : ∀ i, S i → w'.heap[i]? = w.heap[i]? := fun i hi => by
    obtain ⟨a1, a2, a3, a4, a5, a6, a7, a8⟩ := h.avoid i hi
    exact st i a1 a6 a8 a2
  have hvs : ∀ g, v.ownBlock = some g → w'.heap[g]? = w.heap[g]? := fun g hg => st g (lv g hg) (fun e => vD (by rw [hg, e])) (dv g hg) (fun e => vX (by rw [hg, e]))
  refine ⟨⟨by simpa using hX', ?_, ?_, hR', ?_, ?_, ⟨rfl, Or.inl ⟨rfl, rfl⟩⟩, ?_, by simp [Value.ownBlock], d'X, rfl, ?_, ?_, ?_, ?_⟩, ?_⟩
  · exact (st Y lY hYD dY hYX).trans h.hY
  · exact (st Z lZ hZD dZ hZX).trans h.hZ
  · exact (st2 D (by omega) hXD.symm).trans k.block
  · exact (st A lA hAD dA hAX).trans h.hA
  · have := owns_stays k.own (w' := w') (fun g hg => st2 g (hv' g hg) (fun e => d'X (by rw [hg, e])))
    simpa using this
  · refine RdnsAt.snoc ⟨Or.inr (Or.inl rfl), v, xs, (st Rb lR hRD dR hRX).trans h.hR, owns_stays h.own hvs, fun g hg => Or.inr (Or.inr hg), h.parts.stays hS (fun _ h => Or.inl h)⟩ (h.rdns.stays hS (fun _ h => Or.inl h))
  · intro i hi
    rcases hi with hi | rfl | hi
    · obtain ⟨a1, a2, a3, a4, a5, a6, a7, a8⟩ := h.avoid i hi
      exact ⟨by omega, a2, a3, a4, by omega, a6, by simp [Value.ownBlock], d'old i a1 a8⟩
    · exact ⟨by omega, hRX, hRY, hRA, by omega, hRD, by simp [Value.ownBlock], d'old i lR dR⟩
    · have hl := lv i hi
      exact ⟨by omega, fun e => vX (by rw [← e]; exact hi), fun e => h.vY (by rw [← e]; exact hi), fun e => vA (by rw [← e]; exact hi), by omega, fun e => vD (by rw [← e]; exact hi), by simp [Value.ownBlock], d'old i hl (dv i hi)⟩
  · obtain ⟨b1, b2, b3, b4, b5, b6⟩ := h.low
    exact ⟨b1, b2, b3, b4, b5, by omega⟩
  · intro i hi
    rcases hi with hi | hi
    · simp [Value.ownBlock] at hi
    · rcases k.at' with e | ⟨g, e, hg⟩
      · exact h.lowv i (Or.inr (by rw [← e]; exact hi))
      · rw [e] at hi; injection hi with hi; obtain ⟨b1, _⟩ := h.low; omega
  · obtain ⟨b1, b2, b3, b4, b5, b6⟩ := h.low
    have hb : Below B w wc := ⟨k.only.os, k.only.tape, k.only.output, k.only.size, fun i hi => k.only.block i (by omega) (by
      rintro (e | e)
      · omega
      · have := h.lowv i (Or.inr e); omega)⟩
    rw [hw]
    exact (hb.setCell (p := ⟨X, 0, none⟩) b1 _).alloc (by simp [World.setCell]; omega) _
end
end Go.Proofs.YtjmahgefijncaaaGreatFmt

/- Names as plain data in memory: rows of parts, rows of such rows. -/
namespace Go.Proofs.YtjmahgefijncaaaGreatFmt
open Go Go.RowKit

def cellsOf (ps : List Nm.Part) : List Value := ps.flatMap fun p => [Value.string (Nm.bs p.1), .string (Nm.bs p.2)]
theorem cellsOf_snoc (ps : List Nm.Part) (p : Nm.Part) : cellsOf (ps ++ [p]) = cellsOf ps ++ [.string (Nm.bs p.1), .string (Nm.bs p.2)] := by simp [cellsOf]
theorem cellsOf_cons (ps : List Nm.Part) (p : Nm.Part) : cellsOf (p :: ps) = .string (Nm.bs p.1) :: .string (Nm.bs p.2) :: cellsOf ps := by simp [cellsOf]
theorem cellsOf_len : ∀ ps : List Nm.Part, (cellsOf ps).length = ps.length * 2
  | [] => rfl
  | p :: ps => by rw [cellsOf_cons]; simp only [List.length_cons, cellsOf_len ps]; omega
theorem cellsOf_get : ∀ (ps : List Nm.Part) (j : Nat) (p : Nm.Part), ps[j]? = some p → (cellsOf ps)[j * 2]? = some (.string (Nm.bs p.1)) ∧ (cellsOf ps)[j * 2 + 1]? = some (.string (Nm.bs p.2))
  | [], j, p, h => by simp at h
  | q :: ps, 0, p, h => by simp only [List.getElem?_cons_zero, Option.some.injEq] at h; subst h; rw [cellsOf_cons]; exact ⟨rfl, rfl⟩
  | q :: ps, j + 1, p, h => by
    have := cellsOf_get ps j p (by simpa using h)
    rw [cellsOf_cons, show (j + 1) * 2 = j * 2 + 1 + 1 by omega]
    simpa using this

/-- The slice v holds parts, in a row of the call's own. -/
def PartsOwn (e : TypeId) (B : Nat) (w : World) (v : Value) (ps : List Nm.Part) : Prop := w.ownsRow B e 2 v ps.length (cellsOf ps)
def RowsOwn (e : TypeId) (B : Nat) (w : World) : List Value → Nm.Name → Prop
  | vs, [] => vs = []
  | vs, ps :: r => ∃ v us, vs = v :: us ∧ PartsOwn e B w v ps ∧ RowsOwn e B w us r
def NameOwn (e1 e2 : TypeId) (B : Nat) (w : World) (v : Value) (n : Nm.Name) : Prop := ∃ vs, w.ownsRow B e1 1 v n.length vs ∧ RowsOwn e2 B w vs n

/-- The slice v holds parts. -/
def PartsIn (w : World) (v : Value) (ps : List Nm.Part) : Prop :=
  ∃ o cap, v = .slice o ps.length cap ∧ ∀ (j : Nat) (p : Nm.Part), ps[j]? = some p → ∃ b off, o = some ⟨b, off, none⟩ ∧ w.cell? ⟨b, off + j * 2, none⟩ = some (.string (Nm.bs p.1)) ∧ w.cell? ⟨b, off + j * 2 + 1, none⟩ = some (.string (Nm.bs p.2))
/-- The slice v holds a name. -/
def NameIn (w : World) (v : Value) (n : Nm.Name) : Prop :=
  ∃ o cap, v = .slice o n.length cap ∧ ∀ (j : Nat) (ps : List Nm.Part), n[j]? = some ps → ∃ b off u, o = some ⟨b, off, none⟩ ∧ w.cell? ⟨b, off + j, none⟩ = some u ∧ PartsIn w u ps

section
variable {e e1 e2 : TypeId} {B : Nat} {w w' : World}
theorem PartsOwn.stays {v : Value} {ps : List Nm.Part} (h : PartsOwn e B w v ps) (k : ∀ (g : Nat) (c : Array Value), w.heap[g]? = some (Obj.cells c e (0, 0)) → w'.heap[g]? = w.heap[g]?) : PartsOwn e B w' v ps := by
  refine ⟨h.1, h.2.imp id ?_⟩
  rintro ⟨g, cap, cur, e1, e2, e3, e4⟩
  exact ⟨g, cap, cur, e1, e2, (k g _ e3).trans e3, e4⟩
theorem PartsOwn.lower {v : Value} {ps : List Nm.Part} {B' : Nat} (h : PartsOwn e B w v ps) (hB : B' ≤ B) : PartsOwn e B' w v ps := by
  refine ⟨h.1, h.2.imp id ?_⟩
  rintro ⟨g, cap, cur, e1, e2, e3, e4⟩
  exact ⟨g, cap, cur, e1, Nat.le_trans hB e2, e3, e4⟩
theorem RowsOwn.stays (k : ∀ (g : Nat) (c : Array Value), w.heap[g]? = some (Obj.cells c e (0, 0)) → w'.heap[g]? = w.heap[g]?) : ∀ {n : Nm.Name} {vs : List Value}, RowsOwn e B w vs n → RowsOwn e B w' vs n
  | [], _, h => h
  | _ :: _, _, ⟨v, us, e, hp, h⟩ => ⟨v, us, e, hp.stays k, RowsOwn.stays k h⟩
theorem RowsOwn.snoc {v : Value} {ps : List Nm.Part} (hp : PartsOwn e B w v ps) : ∀ {n : Nm.Name} {vs : List Value}, RowsOwn e B w vs n → RowsOwn e B w (vs ++ [v]) (n ++ [ps])
  | [], _, h => by rw [show _ = _ from h]; exact ⟨v, [], rfl, hp, rfl⟩
  | _ :: _, _, ⟨u, us, e, hq, h⟩ => by rw [e]; exact ⟨u, _, rfl, hq, RowsOwn.snoc hp h⟩
theorem RowsOwn.nth : ∀ {n : Nm.Name} {vs : List Value}, RowsOwn e B w vs n → ∀ {j : Nat} {ps : List Nm.Part}, n[j]? = some ps → ∃ v, vs[j]? = some v ∧ PartsOwn e B w v ps
  | [], _, _, j, p, h => by simp at h
  | _ :: _, _, ⟨a, vs, e, hp, h⟩, 0, p, hi => by simp only [List.getElem?_cons_zero, Option.some.injEq] at hi; subst hi; exact ⟨a, by rw [e]; rfl, hp⟩
  | _ :: _, _, ⟨a, vs, e, hp, h⟩, j + 1, p, hi => by
    obtain ⟨b, h1, h2⟩ := RowsOwn.nth h (j := j) (ps := p) (by simpa using hi)
    exact ⟨b, by rw [e]; simpa using h1, h2⟩
theorem RowsOwn.len : ∀ {n : Nm.Name} {vs : List Value}, RowsOwn e B w vs n → vs.length = n.length
  | [], _, h => by rw [show _ = _ from h]; rfl
  | _ :: _, _, ⟨_, _, e, _, h⟩ => by rw [e, List.length_cons, List.length_cons, RowsOwn.len h]
theorem rowsOwn_lower {B' : Nat} (hB : B' ≤ B) : ∀ {n : Nm.Name} {vs : List Value}, RowsOwn e B w vs n → RowsOwn e B' w vs n
  | [], _, h => h
  | _ :: _, _, ⟨v, us, e, hp, h⟩ => ⟨v, us, e, hp.lower hB, rowsOwn_lower hB h⟩
theorem PartsOwn.lt {v : Value} {ps : List Nm.Part} (h : PartsOwn e B w v ps) : ∀ g, v.ownBlock = some g → g < w.heap.size := owns_lt h

theorem owns_cell2 {sz : Nat} {v : Value} {n : Nat} {xs : List Value} (h : w.ownsRow B e sz v n xs) {j : Nat} {u : Value} (hj : xs[j]? = some u) : ∃ g c, v = .slice (some ⟨g, 0, none⟩) n c ∧ w.cell? ⟨g, j, none⟩ = some u := by
  have hl := h.1
  rcases h.2 with ⟨hv, h0⟩ | ⟨g, cap, cur, hv, _, hg, h2, h3, h4, h5⟩
  · subst h0; rw [Nat.zero_mul] at hl; rw [List.getElem?_eq_none (by omega)] at hj; cases hj
  · refine ⟨g, cap, hv, ?_⟩
    rw [blockCell hg j]
    rw [← h5] at hj
    simp only [List.getElem?_take] at hj
    split at hj
    · simpa using hj
    · cases hj
theorem PartsOwn.in' {v : Value} {ps : List Nm.Part} (h : PartsOwn e B w v ps) : PartsIn w v ps := by
  obtain ⟨o, c, hv⟩ : ∃ o c, v = .slice o ps.length c := by
    rcases h.2 with ⟨hv, h0⟩ | ⟨g, cap, cur, hv, _⟩
    · exact ⟨none, 0, by rw [hv, h0]⟩
    · exact ⟨_, _, hv⟩
  refine ⟨o, c, hv, fun j p hj => ?_⟩
  obtain ⟨h1, h2⟩ := cellsOf_get ps j p hj
  obtain ⟨g, c2, e1, e2⟩ := owns_cell2 h h1
  obtain ⟨g', c3, e3, e4⟩ := owns_cell2 h h2
  rw [hv] at e1 e3
  injection e1 with a1 _ a2
  injection e3 with a3 _ _
  rw [a1] at a3
  injection a3 with a3
  injection a3 with a3 _ _
  subst a3
  exact ⟨g, 0, a1, by rw [Nat.zero_add]; exact e2, by rw [Nat.zero_add]; exact e4⟩
theorem NameOwn.in' {v : Value} {n : Nm.Name} (h : NameOwn e1 e2 B w v n) : NameIn w v n := by
  obtain ⟨vs, h1, h2⟩ := h
  obtain ⟨o, c, hv⟩ : ∃ o c, v = .slice o n.length c := by
    rcases h1.2 with ⟨hv, h0⟩ | ⟨g, cap, cur, hv, _⟩
    · exact ⟨none, 0, by rw [hv, h0]⟩
    · exact ⟨_, _, hv⟩
  refine ⟨o, c, hv, fun j p hj => ?_⟩
  obtain ⟨u, hu, hp⟩ := h2.nth hj
  obtain ⟨g, c2, e1, e2⟩ := owns_cell2 h1 hu
  rw [hv] at e1
  injection e1 with a1 _ _
  exact ⟨g, 0, u, a1, by rw [Nat.zero_add]; exact e2, hp.in'⟩
theorem PartsIn.stays {v : Value} {ps : List Nm.Part} (h : PartsIn w v ps) (k : Below w.heap.size w w') : PartsIn w' v ps := by
  obtain ⟨o, c, hv, h1⟩ := h
  refine ⟨o, c, hv, fun j p hj => ?_⟩
  obtain ⟨b, off, e, c0, c1⟩ := h1 j p hj
  exact ⟨b, off, e, (k.cell (World.block_lt_of_cell? w ⟨b, off + j * 2, none⟩ c0)).trans c0, (k.cell (World.block_lt_of_cell? w ⟨b, off + j * 2 + 1, none⟩ c1)).trans c1⟩
theorem NameIn.stays {v : Value} {n : Nm.Name} (h : NameIn w v n) (k : Below w.heap.size w w') : NameIn w' v n := by
  obtain ⟨o, c, hv, h1⟩ := h
  refine ⟨o, c, hv, fun j p hj => ?_⟩
  obtain ⟨b, off, u, e, c0, c1⟩ := h1 j p hj
  exact ⟨b, off, u, e, (k.cell (World.block_lt_of_cell? w ⟨b, off + j, none⟩ c0)).trans c0, c1.stays k⟩

/-- A row of the name grows: the rows in it stand. -/
theorem RowsOwn.grown {n : Nm.Name} {vs : List Value} (h : RowsOwn e2 B w vs n) {v : Value} {k : Nat} {xs : List Value} (hv : w.ownsRow B e1 1 v k xs) (hne : e1 ≠ e2) {o : Obj} (hg : (w.alloc o).grownBy w' v.ownBlock) : RowsOwn e2 B w' vs n := by
  refine h.stays fun g c hc => ?_
  have hlt := blockLt hc
  rw [hg.block g (by simp; omega) (fun e => own_ne hv hc hne e.symm), Below.heap_alloc _ _ _ hlt]
end
end Go.Proofs.YtjmahgefijncaaaGreatFmt

/- The trims: zzInSet, zzTrimLeft, zzTrimRight, zzTrim at a blank. -/
namespace Go.Proofs.YtjmahgefijncaaaGreatFmt
open Go Go.RowKit

theorem width_pos (s : ByteArray) (pos : Nat) (h : pos < s.size) : 1 ≤ (Utf8.decode s pos).2 := by
  by_cases ha : (s[pos]'h).toNat < 128
  · rw [decode_ascii s pos h ha]; exact Nat.le_refl _
  · exact (decode_high s pos h (by omega)).2

def sp : ByteArray := ⟨#[32]⟩

set_option maxRecDepth 100000 in
set_option maxHeartbeats 4000000 in
theorem inset_sp (c : Int) (w : World) :
    Calls Tryz.prog 133 #[.int .i32 c, .string ⟨#[32]⟩] w fun e w' => e = .returned (.bool (c == 32)) ∧ Below w.heap.size w w' := by
  go_enter Tryz.func133, Tryz.ntmps133
  go_wp2_with fail
  go_loopw [4] (fun t4 wr => t4 = .bool false ∧ ∃ pos, wr.heap[w.heap.size]? = some (.stringIter ⟨#[32]⟩ pos) ∧ Below w.heap.size w wr ∧ (pos = 0 ∨ pos = 1 ∧ (c == 32) = false)) (fun _ wr => 1 - wr.iterPos w.heap.size)
  case atStart =>
    refine ⟨rfl, 0, ?_, (Below.refl _ w).alloc (Nat.le_refl _) _, Or.inl rfl⟩
    have := World.iter_heap w ⟨#[32]⟩ 0
    simpa using this
  case round =>
    obtain ⟨rfl, pos, hit, hbw, hpos⟩ := hrel
    rcases hpos with rfl | ⟨rfl, hc⟩
    · have hnx : ∀ ty, (Instr.next (.pointer (some ⟨w.heap.size, 0, none⟩)) true ty).run Tryz.prog wr = _ := fun ty => Lib.run_next_any_at wr w.heap.size ⟨#[32]⟩ 0 ty hit (by decide)
      rw [show Utf8.decode ⟨#[32]⟩ 0 = (32, 1) by decide] at hnx
      simp only [] at hnx
      have hit2 := Lib.iterAt_heap wr w.heap.size ⟨#[32]⟩ 0 1 hit
      have hbw2 := Lib.below_iterAt hbw (k := w.heap.size) (by omega) ⟨#[32]⟩ 1
      have HB := Lib.hid hbw2
      have hcc : (c == 32) = true ∨ (c == 32) = false := by cases (c == 32) <;> simp
      rcases hcc with hc | hc
      · go_wp2_with fail
        go_ret
        exact ⟨by rw [hc]; rfl, HB.out⟩
      · have HC := Lib.hid hc
        go_wp2_with fail
        refine ⟨⟨rfl, 1, hit2, HB.out, Or.inr ⟨rfl, HC.out⟩⟩, ?_⟩
        simp only [World.iterPos, hit2, hit]; decide
    · have hnx : ∀ ty, (Instr.next (.pointer (some ⟨w.heap.size, 0, none⟩)) true ty).run Tryz.prog wr = _ := fun ty => Lib.run_next_end_at wr w.heap.size ⟨#[32]⟩ 1 ty hit (by decide)
      go_wp2_with fail
      go_ret
      exact ⟨by rw [hc]; rfl, hbw⟩

def isBlank (l : List UInt8) (k : Nat) : Prop := ∀ j, j < k → l[j]? = some 32

theorem trimL_step {l : List UInt8} {pos : Nat} (h : pos < l.length) (hb : l[pos] = 32) : Nm.trimL (l.drop pos) = Nm.trimL (l.drop (pos + 1)) := by
  rw [List.drop_eq_getElem_cons h]
  unfold Nm.trimL
  rw [List.dropWhile_cons, hb]
  simp
theorem trimL_stop {l : List UInt8} {pos : Nat} (h : pos < l.length) (hb : l[pos] ≠ 32) : Nm.trimL (l.drop pos) = l.drop pos := by
  rw [List.drop_eq_getElem_cons h]
  unfold Nm.trimL
  rw [List.dropWhile_cons]
  simp [hb]

theorem bs_size (l : List UInt8) : (Nm.bs l).size = l.length := by simp [Nm.bs, ByteArray.size]
theorem bs_get (l : List UInt8) (i : Nat) (h : i < (Nm.bs l).size) : (Nm.bs l)[i]'h = l[i]'(by rw [bs_size] at h; exact h) := by
  simp [Nm.bs]
  rfl
theorem bs_from (l : List UInt8) (k : Nat) : (Nm.bs l).extract k l.length = Nm.bs (l.drop k) := by
  apply ByteArray.ext
  rw [ByteArray.data_extract]
  show l.toArray.extract _ _ = (l.drop k).toArray
  simp [List.take_of_length_le]
theorem bs_to (l : List UInt8) (k : Nat) : (Nm.bs l).extract 0 k = Nm.bs (l.take k) := by
  apply ByteArray.ext
  rw [ByteArray.data_extract]
  show l.toArray.extract _ _ = (l.take k).toArray
  simp

set_option maxRecDepth 100000 in
set_option maxHeartbeats 4000000 in
theorem triml_sp (l : List UInt8) (w : World) :
    Calls Tryz.prog 116 #[.string (Nm.bs l), .string ⟨#[32]⟩] w fun e w' => e = .returned (.string (Nm.bs (Nm.trimL l))) ∧ Below w.heap.size w w' := by
  have hsz := bs_size l
  go_enter Tryz.func116, Tryz.ntmps116
  go_wp2_with fail
  go_loopw [] (fun wr => ∃ pos, wr.heap[w.heap.size]? = some (.stringIter (Nm.bs l) pos) ∧ Below w.heap.size w wr ∧ pos ≤ l.length ∧ Nm.trimL l = Nm.trimL (l.drop pos)) (fun wr => l.length - wr.iterPos w.heap.size)
  case atStart =>
    refine ⟨0, ?_, (Below.refl _ w).alloc (Nat.le_refl _) _, Nat.zero_le _, rfl⟩
    have := World.iter_heap w (Nm.bs l) 0
    simpa using this
  case round =>
    obtain ⟨pos, hit, hbw, hpos, htr⟩ := hrel
    by_cases hp : pos < l.length
    · have hp2 : pos < (Nm.bs l).size := by rw [hsz]; exact hp
      have hnx : ∀ ty, (Instr.next (.pointer (some ⟨w.heap.size, 0, none⟩)) true ty).run Tryz.prog wr = _ := fun ty => Lib.run_next_any_at wr w.heap.size (Nm.bs l) pos ty hit hp2
      have hget : ((Nm.bs l)[pos]'hp2).toNat = (l[pos]).toNat := by rw [bs_get]; rfl
      by_cases h32 : l[pos] = 32
      · have h32n : (l[pos]).toNat = 32 := by rw [h32]; rfl
        rw [decode_ascii (Nm.bs l) pos hp2 (by rw [hget, h32n]; decide), hget, h32n] at hnx
        have hit2 := Lib.iterAt_heap wr w.heap.size (Nm.bs l) pos (pos + 1) hit
        have hbw2 := Lib.below_iterAt hbw (k := w.heap.size) (by omega) (Nm.bs l) (pos + 1)
        have HB := Lib.hid hbw2
        have hms : l.length - (wr.iterAt w.heap.size (Nm.bs l) (pos + 1)).iterPos w.heap.size < l.length - wr.iterPos w.heap.size := by simp only [World.iterPos, hit2, hit]; omega
        have HMS := Lib.hid hms
        have HIT := Lib.hid hit2
        clear hms hit2 hit hbw hbw2
        generalize hW : wr.iterAt w.heap.size (Nm.bs l) (pos + 1) = W at *
        go_wp2_with fail
        refine (inset_sp _ _).mono ?_
        rintro e w2 ⟨rfl, hb2⟩
        have HB2 := Lib.hid (HB.out.trans (hb2.mono HB.out.size))
        have hblk : w2.heap[w.heap.size]? = W.heap[w.heap.size]? := hb2.block _ (by have := blockLt (show W.heap[w.heap.size]? = _ from HIT.out); omega)
        have HBLK := Lib.hid hblk
        clear hb2 hblk
        go_wp2_with fail
        refine ⟨⟨pos + 1, HBLK.out.trans HIT.out, HB2.out, by omega, by rw [htr, trimL_step hp h32]⟩, ?_⟩
        have := HMS.out
        simp only [World.iterPos, HBLK.out] at this ⊢
        exact this
      · have hne : ((((Utf8.decode (Nm.bs l) pos).1 : Nat) : Int) == 32) = false := by
          rw [beq_eq_false_iff_ne]
          by_cases ha : (l[pos]).toNat < 128
          · rw [decode_ascii (Nm.bs l) pos hp2 (by rw [hget]; exact ha), hget]
            intro h
            exact h32 (UInt8.toNat_inj.1 (by have : (l[pos]).toNat = 32 := by omega
                                             rw [this]; rfl))
          · have := (decode_high (Nm.bs l) pos hp2 (by rw [hget]; omega)).1
            omega
        have hbw2 := Lib.below_iterAt hbw (k := w.heap.size) (by omega) (Nm.bs l) (pos + (Utf8.decode (Nm.bs l) pos).2)
        have HB := Lib.hid hbw2
        clear hbw2 hbw hit
        generalize hW : wr.iterAt w.heap.size (Nm.bs l) (pos + (Utf8.decode (Nm.bs l) pos).2) = W at *
        generalize (Utf8.decode (Nm.bs l) pos).1 = r at *
        go_wp2_with fail
        refine (inset_sp _ _).mono ?_
        rintro e w2 ⟨rfl, hb2⟩
        have HB2 := Lib.hid (HB.out.trans (hb2.mono HB.out.size))
        clear hb2
        rw [hne]
        go_wp2_with fail
        go_ret
        exact ⟨by rw [htr, trimL_stop hp h32, ← bs_from]; rfl, HB2.out⟩
    · have hnx : ∀ ty, (Instr.next (.pointer (some ⟨w.heap.size, 0, none⟩)) true ty).run Tryz.prog wr = _ := fun ty => Lib.run_next_end_at wr w.heap.size (Nm.bs l) pos ty hit (by rw [hsz]; exact hp)
      go_wp2_with fail
      go_ret
      refine ⟨?_, hbw⟩
      rw [htr, List.drop_of_length_le (by omega)]
      rfl

theorem upTo_le (l : List UInt8) : ∀ n, Nm.upTo l n ≤ n
  | 0 => Nat.le_refl _
  | n + 1 => by
    unfold Nm.upTo
    split
    · have := upTo_le l n; omega
    · exact Nat.le_refl _

set_option maxRecDepth 100000 in
set_option maxHeartbeats 4000000 in
theorem trimr_sp (l : List UInt8) (hl : l.length < 1000000000) (w : World) :
    Calls Tryz.prog 115 #[.string (Nm.bs l), .string ⟨#[32]⟩] w fun e w' => e = .returned (.string (Nm.bs (Nm.trimR l))) ∧ Below w.heap.size w w' := by
  have hsz := bs_size l
  have hs1 : (⟨#[32]⟩ : ByteArray).size = 1 := rfl
  have hs0 : ((⟨#[32]⟩ : ByteArray)[0]'(by decide)).toNat = 32 := rfl
  go_enter Tryz.func115, Tryz.ntmps115
  go_wp2_with fail
  go_loopw [5] (fun t5 wr => ∃ n : Nat, t5 = .int .i64 n ∧ n ≤ l.length ∧ Nm.upTo l l.length = Nm.upTo l n ∧ Hid (Below w.heap.size w wr)) (fun t5 _ => (intOf t5).toNat)
  case atStart => exact ⟨l.length, rfl, Nat.le_refl _, rfl, Lib.hid (Below.refl _ _)⟩
  case round =>
    obtain ⟨n, rfl, hn, hup, HB⟩ := hrel
    cases n with
    | zero =>
      go_wp2_with fail
      go_ret
      refine ⟨?_, HB.out⟩
      unfold Nm.trimR
      rw [hup]
      rfl
    | succ n =>
      have hlt : n < l.length := by omega
      have hlt2 : n < (Nm.bs l).size := by rw [hsz]; exact hlt
      obtain ⟨b, hb, hget⟩ : ∃ b : UInt8, l[n]? = some b ∧ ((Nm.bs l)[n]'hlt2).toNat = b.toNat := ⟨_, List.getElem?_eq_getElem hlt, by rw [bs_get]⟩
      have t1 : decide (((n + 1 : Nat) : Int) > 0) = true := by simp
      by_cases h32 : b = 32
      · have hb32 : b.toNat = 32 := by rw [h32]; rfl
        rw [hb32] at hget
        go_wp2_with fail
        go_loopw [6, 7] (fun t6 t7 wr => (t6 = .bool false ∧ t7 = .int .i64 0 ∨ t6 = .bool true ∧ t7 = .int .i64 1) ∧ Hid (Below w.heap.size w wr)) (fun _ t7 _ => 1 - (intOf t7).toNat)
        case atStart => exact ⟨Or.inl ⟨rfl, rfl⟩, HB⟩
        case round =>
          clear HB
          obtain ⟨⟨rfl, rfl⟩ | ⟨rfl, rfl⟩, HB⟩ := hrel
          · go_wp2_with fail
            go_region
            go_wp2_with fail
            all_goals first
              | exact ⟨⟨Or.inr ⟨rfl, rfl⟩, Lib.hid HB.out.drew⟩, by simp [intOf]⟩
              | (exfalso; rename_i h; rw [hs0] at h; exact absurd h (by decide))
          · go_wp2_with fail
            refine ⟨⟨n, rfl, by omega, ?_, HB⟩, by simp [intOf]⟩
            rw [hup]
            show (if l[n]? = some 32 then _ else _) = _
            rw [if_pos (by rw [hb, h32])]
      · have hb32 : ¬ b.toNat = 32 := fun h => h32 (UInt8.toNat_inj.1 (by rw [h]; rfl))
        have hb33 : ((32 : Int) == (b.toNat : Int)) = false := by rw [beq_eq_false_iff_ne]; omega
        go_wp2_with fail
        go_loopw [6, 7] (fun t6 t7 wr => (t6 = .bool false ∧ t7 = .int .i64 0 ∨ t6 = .bool false ∧ t7 = .int .i64 1) ∧ Hid (Below w.heap.size w wr)) (fun _ t7 _ => 1 - (intOf t7).toNat)
        case atStart => exact ⟨Or.inl ⟨rfl, rfl⟩, HB⟩
        case round =>
          clear HB
          obtain ⟨⟨rfl, rfl⟩ | ⟨rfl, rfl⟩, HB⟩ := hrel
          · go_wp2_with fail
            go_region
            go_wp2_with fail
            all_goals first
              | (exfalso; rename_i h; rw [hs0] at h; have h' := of_decide_eq_true (show decide (((32 : Nat) : Int) = (b.toNat : Int)) = true by simpa using h); omega)
              | exact ⟨⟨Or.inr ⟨rfl, rfl⟩, Lib.hid HB.out.drew⟩, by simp [intOf]⟩
          · go_wp2_with fail
            go_ret
            refine ⟨?_, HB.out⟩
            unfold Nm.trimR
            rw [hup]
            show _ = Ending.returned (.string (Nm.bs (l.take (if l[n]? = some 32 then _ else _))))
            rw [if_neg (by rw [hb]; intro h; exact h32 (Option.some.inj h)), ← bs_to]; rfl
end Go.Proofs.YtjmahgefijncaaaGreatFmt

