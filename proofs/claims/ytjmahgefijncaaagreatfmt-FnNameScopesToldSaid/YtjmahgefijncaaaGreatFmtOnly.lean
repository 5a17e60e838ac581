/- The frame of a call that may write to some blocks of old memory. -/
import Derived.Test.YtjmahgefijncaaaGreatFmtKeep
namespace Go.Proofs.YtjmahgefijncaaaGreatFmt
open Go Go.RowKit

/-- Old blocks stand but for those of S. -/
structure Only (S : Nat → Prop) (w w' : World) : Prop where
  os : w'.os = w.os
  tape : w'.tape = w.tape
  output : w'.output = w.output
  size : w.heap.size ≤ w'.heap.size
  block : ∀ k, k < w.heap.size → ¬ S k → w'.heap[k]? = w.heap[k]?

namespace Only
variable {S : Nat → Prop} {a w w' : World}
theorem refl (S : Nat → Prop) (w : World) : Only S w w := ⟨rfl, rfl, rfl, Nat.le_refl _, fun _ _ _ => rfl⟩
theorem trans (h : Only S a w) (k : Only S w w') : Only S a w' :=
  ⟨k.os.trans h.os, k.tape.trans h.tape, k.output.trans h.output, Nat.le_trans h.size k.size, fun i hi hs => (k.block i (Nat.lt_of_lt_of_le hi h.size) hs).trans (h.block i hi hs)⟩
theorem weaken (h : Only S w w') {T : Nat → Prop} (hT : ∀ k, k < w.heap.size → S k → T k) : Only T w w' :=
  ⟨h.os, h.tape, h.output, h.size, fun k hk hs => h.block k hk (fun e => hs (hT k hk e))⟩
theorem trans2 {T : Nat → Prop} (h : Only S a w) (k : Only T w w') (hT : ∀ i, i < a.heap.size → T i → S i) : Only S a w' :=
  ⟨k.os.trans h.os, k.tape.trans h.tape, k.output.trans h.output, Nat.le_trans h.size k.size, fun i hi hs => (k.block i (Nat.lt_of_lt_of_le hi h.size) (fun e => hs (hT i hi e))).trans (h.block i hi hs)⟩
theorem ofKeep {D : Nat} (h : Keep w.heap.size D w w') : Only (· = D) w w' := ⟨h.os, h.tape, h.output, h.size, fun k hk hr => h.block k hk hr⟩
theorem toKeep {B D : Nat} (h : Only S w w') (hS : ∀ k, S k → B ≤ k ∨ k = D) (hB : B ≤ w.heap.size) : Keep B D w w' :=
  ⟨h.os, h.tape, h.output, h.size, fun k hk hr => h.block k (by omega) (fun e => by rcases hS k e with h1 | h1 <;> omega)⟩
theorem drew (h : Only S a w) : Only S a w.drew := ⟨h.os, h.tape, h.output, h.size, h.block⟩
theorem drewN (h : Only S a w) (n : Nat) : Only S a (w.drewN n) := ⟨h.os, h.tape, h.output, h.size, h.block⟩
theorem alloc (h : Only S a w) (o : Obj) : Only S a (w.alloc o) :=
  ⟨h.os, h.tape, h.output, by have := (Below.refl w.heap.size w).alloc (Nat.le_refl _) o; exact Nat.le_trans h.size this.size, fun k hk hs => (Below.heap_alloc w o k (Nat.lt_of_lt_of_le hk h.size)).trans (h.block k hk hs)⟩
theorem setCell (h : Only S a w) {p : Addr} (hp : a.heap.size ≤ p.block ∨ S p.block) (u : Value) : Only S a (w.setCell p u) :=
  ⟨h.os, h.tape, h.output, by simp [World.setCell]; exact h.size, fun k hk hs => (Below.heap_setCell _ _ _ _ (fun e => by rcases hp with hp | hp; omega; exact hs (e ▸ hp))).trans (h.block k hk hs)⟩
theorem setRow (h : Only S a w) {g : Nat} (hp : a.heap.size ≤ g ∨ S g) (cs : Array Value) : Only S a (w.setRow g cs) :=
  ⟨h.os, h.tape, h.output, by simp [World.setRow]; exact h.size, fun k hk hs => (setRow_other w g k cs (fun e => by rcases hp with hp | hp; omega; exact hs (e ▸ hp))).trans (h.block k hk hs)⟩
theorem same {b : World} (h : Only S a w) (k : Same w b) : Only S a b := ⟨k.os.trans h.os, k.tape.trans h.tape, k.output.trans h.output, by rw [k.heap]; exact h.size, fun i hi hs => by rw [k.heap]; exact h.block i hi hs⟩
theorem ofSame (k : Same w w') : Only S w w' := (refl S w).same k
theorem cell (h : Only S w w') {p : Addr} (hp : p.block < w.heap.size) (hr : ¬ S p.block) : w'.cell? p = w.cell? p := World.cell?_of_block (w := w) (h.block p.block hp hr)
end Only
end Go.Proofs.YtjmahgefijncaaaGreatFmt
