/- The frame of a call that may write to one block of old memory: every other block below a bound stays as it was. -/
import Derived.WalkKit
import Derived.Handy
import Derived.Lib.BufferKept
import Derived.Lib.Hide
import Derived.Laws.CopyOwn
namespace Go.Proofs.YtjmahgefijncaaaGreatFmt
open Go Go.RowKit

/-- Below block number B, but for block R, the world w' is as w was; the streams are as they were; no block has gone. -/
structure Keep (B R : Nat) (w w' : World) : Prop where
  os : w'.os = w.os
  tape : w'.tape = w.tape
  output : w'.output = w.output
  size : w.heap.size ≤ w'.heap.size
  block : ∀ k, k < B → k ≠ R → w'.heap[k]? = w.heap[k]?

namespace Keep
variable {B R : Nat} {a b w w' : World}
theorem refl (B R : Nat) (w : World) : Keep B R w w := ⟨rfl, rfl, rfl, Nat.le_refl _, fun _ _ _ => rfl⟩
theorem trans (h : Keep B R a b) (k : Keep B R b w) : Keep B R a w :=
  ⟨k.os.trans h.os, k.tape.trans h.tape, k.output.trans h.output, Nat.le_trans h.size k.size, fun i hi hr => (k.block i hi hr).trans (h.block i hi hr)⟩
theorem mono (h : Keep B R w w') {B' : Nat} (hB : B' ≤ B) : Keep B' R w w' := ⟨h.os, h.tape, h.output, h.size, fun k hk => h.block k (Nat.lt_of_lt_of_le hk hB)⟩
theorem ofBelow (h : Below B w w') : Keep B R w w' := ⟨h.os, h.tape, h.output, h.size, fun k hk _ => h.block k hk⟩
theorem toBelow (h : Keep B R w w') (hR : B ≤ R) : Below B w w' := ⟨h.os, h.tape, h.output, h.size, fun k hk => h.block k hk (by omega)⟩
theorem drew (h : Keep B R a w) : Keep B R a w.drew := ⟨h.os, h.tape, h.output, h.size, h.block⟩
theorem drewN (h : Keep B R a w) (n : Nat) : Keep B R a (w.drewN n) := ⟨h.os, h.tape, h.output, h.size, h.block⟩
theorem alloc (h : Keep B R a w) (hB : B ≤ w.heap.size) (o : Obj) : Keep B R a (w.alloc o) :=
  h.trans (ofBelow ((Below.refl B w).alloc hB o))
theorem setCell (h : Keep B R a w) {p : Addr} (hp : B ≤ p.block ∨ p.block = R) (u : Value) : Keep B R a (w.setCell p u) :=
  h.trans ⟨rfl, rfl, rfl, by simp [World.setCell], fun k hk hr => Below.heap_setCell _ _ _ _ (by rcases hp with hp | hp <;> omega)⟩
theorem setRow (h : Keep B R a w) {g : Nat} (hp : B ≤ g ∨ g = R) (cs : Array Value) : Keep B R a (w.setRow g cs) :=
  h.trans ⟨rfl, rfl, rfl, by simp [World.setRow], fun k hk hr => setRow_other w g k cs (by rcases hp with hp | hp <;> omega)⟩
theorem grown {row : Option Nat} (h : Keep B R a w) (hg : w.grownBy w' row) (hB : B ≤ w.heap.size) (hr : ∀ k, row = some k → B ≤ k ∨ k = R) : Keep B R a w' :=
  h.trans ⟨hg.os, hg.tape, hg.output, hg.size, fun k hk hkr => hg.block k (by omega) (fun e => by rcases hr k e.symm with h | h <;> omega)⟩
theorem cell (h : Keep B R w w') {p : Addr} (hp : p.block < B) (hr : p.block ≠ R) : w'.cell? p = w.cell? p := World.cell?_of_block (w := w) (h.block p.block hp hr)
theorem frozen (h : Keep B R w w') {p : Addr} (hp : p.block < B) (hr : p.block ≠ R) : w'.frozen? p = w.frozen? p := World.frozen?_of_block (w := w) (h.block p.block hp hr)
end Keep

/-- The cells of a block that is known whole. -/
theorem blockCell {w : World} {g : Nat} {c : Array Value} {t : TypeId} {fr : Nat × Nat} (h : w.heap[g]? = some (.cells c t fr)) (j : Nat) : w.cell? ⟨g, j, none⟩ = c[j]? := by
  simp [World.cell?, h]
theorem blockFrozen {w : World} {g : Nat} {c : Array Value} {t : TypeId} (h : w.heap[g]? = some (.cells c t (0, 0))) (j : Nat) : w.frozen? ⟨g, j, none⟩ = false := by
  simp [World.frozen?, h]
theorem blockSet {w : World} {g : Nat} {c : Array Value} {t : TypeId} {fr : Nat × Nat} (h : w.heap[g]? = some (.cells c t fr)) (j : Nat) (v : Value) :
    (w.setCell ⟨g, j, none⟩ v).heap[g]? = some (.cells (c.setIfInBounds j v) t fr) := by
  simp [World.setCell, Array.getElem?_modify, h]
theorem three_set {w : World} {g : Nat} {x0 x1 x2 : Value} {t : TypeId} {fr : Nat × Nat} (h : w.heap[g]? = some (.cells #[x0, x1, x2] t fr)) (a b c : Value) :
    (((w.setCell ⟨g, 0, none⟩ a).setCell ⟨g, 1, none⟩ b).setCell ⟨g, 2, none⟩ c).heap[g]? = some (.cells #[a, b, c] t fr) := by
  have e := blockSet (blockSet (blockSet h 0 a) 1 b) 2 c
  simpa using e
theorem blockLt {w : World} {g : Nat} {o : Obj} (h : w.heap[g]? = some o) : g < w.heap.size := (Array.getElem?_eq_some_iff.1 h).1

/-- copy of at least one cell onto a row: the world written out. -/
theorem step_copy_set {P : Program} {ops : Array Oper} {o : Oper} {a : Act} {w : World} {K : Act → World → Prop} {Q : Exit → Act → World → Prop} {E : Prop} (hgd : o.guard = none) (d s : Operand) (dT sT : TypeId)
    (ho : o.op = .call { callee := .builtin .copy, args := #[d, s], argTypes := #[dT, sT] }) (elem : TypeId) (hu : P.underlying dT = some (.slice elem)) (hsz : (P.info? elem).map (·.size) = some 1)
    (dLen dCap sLen sCap : Nat) (g off : Nat) (ad : Addr) (hd : a.eval d = .slice (some ⟨g, off, none⟩) dLen dCap) (hs : a.eval s = .slice (some ad) sLen sCap)
    (cur : List Value) (t : TypeId) (cs : List Value) (hg : w.heap[g]? = some (.cells cur.toArray t (0, 0))) (hn : cs.length = Nat.min sLen dLen)
    (hsrc : ∀ j v, cs[j]? = some v → w.cell? (ad.add j) = some v)
    (hfit : off + cs.length ≤ cur.length) (h1 : ∀ v ∈ cs, v.oneCell' = true)
    (h : K (a.put o.dst (goInt cs.length)) (w.setRow g (splice cur off cs).toArray)) :
    if Region.wanted o (yielded ops a.tmps) = true then Oper.wp P o a w K Q else E := by
  have hw : Region.wanted o (yielded ops a.tmps) = true := by simp [Region.wanted, hgd]
  rw [if_pos hw]
  have hrun := run_copy_row (P := P) w dT sT o.type elem g off dLen dCap ad sLen sCap cur.toArray t cs hu hsz hg hn hsrc (by simpa using hfit) h1
  unfold Oper.wp
  simp [execOp, ho, resolve, invoke, builtin, hd, hs, hrun, Result.andThen]
  simp only [splice] at h
  simpa using (show Oper.upon P o a K Q (Result.ok (Next.value (goInt cs.length)) _) from h)

theorem cell_setRow {w : World} {g : Nat} (X : Array Value) {p : Addr} (h : p.block ≠ g) : (w.setRow g X).cell? p = w.cell? p :=
  World.cell?_of_block (w := w) (setRow_other w g p.block X (by omega))
theorem frozen_setRow {w : World} {g : Nat} (X : Array Value) {p : Addr} (h : p.block ≠ g) : (w.setRow g X).frozen? p = w.frozen? p :=
  World.frozen?_of_block (w := w) (setRow_other w g p.block X (by omega))

theorem cell_alloc {w : World} {p : Addr} {v : Value} (h : w.cell? p = some v) (o : Obj) : (w.alloc o).cell? p = some v :=
  (World.cell?_of_block (w := w) (Below.heap_alloc w o p.block (World.block_lt_of_cell? w p h))).trans h

/-- Two worlds alike but for the count of draws. -/
structure Same (w w' : World) : Prop where
  os : w'.os = w.os
  tape : w'.tape = w.tape
  output : w'.output = w.output
  heap : w'.heap = w.heap
theorem Same.refl (w : World) : Same w w := ⟨rfl, rfl, rfl, rfl⟩
theorem Same.trans {a b c : World} (h : Same a b) (k : Same b c) : Same a c := ⟨k.os.trans h.os, k.tape.trans h.tape, k.output.trans h.output, k.heap.trans h.heap⟩
theorem Same.drewN {a b : World} (h : Same a b) (n : Nat) : Same a (b.drewN n) := ⟨h.os, h.tape, h.output, h.heap⟩
theorem Same.drew {a b : World} (h : Same a b) : Same a b.drew := ⟨h.os, h.tape, h.output, h.heap⟩
theorem Same.keep {w w' : World} (h : Same w w') (B R : Nat) : Keep B R w w' := ⟨h.os, h.tape, h.output, by rw [h.heap]; exact Nat.le_refl _, fun k _ _ => by rw [h.heap]⟩
theorem Same.cell {w w' : World} (h : Same w w') (p : Addr) : w'.cell? p = w.cell? p := World.cell?_of_block (w := w) (by rw [h.heap])
theorem Same.frozen {w w' : World} (h : Same w w') (p : Addr) : w'.frozen? p = w.frozen? p := World.frozen?_of_block (w := w) (by rw [h.heap])
end Go.Proofs.YtjmahgefijncaaaGreatFmt
