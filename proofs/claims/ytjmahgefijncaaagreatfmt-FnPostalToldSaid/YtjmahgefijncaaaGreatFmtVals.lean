/- ValuesOf, FirstOf: entries in memory. -/
import Derived.Test.YtjmahgefijncaaaGreatFmtCopyS
import Derived.Deep.RegionHeld3
import Derived.Deep.DeepCutAuto
namespace Go.Proofs.YtjmahgefijncaaaGreatFmt
open Go Go.RowKit

theorem info_pea : ∃ i, Tryz.prog.info? 93 = some i ∧ i.zero = some (.pointer none) ∧ i.size = 1 ∧ i.bytes = 8 := info_parts (by kernel_rfl)

/-- An attribute of an entry in memory. -/
def EA (w : World) (p : Nat) (a : Attr) : Prop := ∃ u x, w.heap[p]? = some (.cells #[.string (Nm.bs a.1), u, x] 125 (0, 0)) ∧ StrsOwn w u a.2
def EAs (w : World) : List Value → List Attr → Prop
  | xs, [] => xs = []
  | xs, a :: r => ∃ p ys, xs = .pointer (some ⟨p, 0, none⟩) :: ys ∧ EA w p a ∧ EAs w ys r
section
variable {w w' : World}
theorem EA.stays {p : Nat} {a : Attr} (h : EA w p a) (k : ∀ (g : Nat) (c : Array Value) (t : TypeId), w.heap[g]? = some (Obj.cells c t (0, 0)) → t = 125 ∨ t = 9 → w'.heap[g]? = w.heap[g]?) : EA w' p a := by
  obtain ⟨u, x, h1, h2⟩ := h
  exact ⟨u, x, (k p _ _ h1 (Or.inl rfl)).trans h1, h2.stays fun g c hc => k g c _ hc (Or.inr rfl)⟩
theorem EAs.stays (k : ∀ (g : Nat) (c : Array Value) (t : TypeId), w.heap[g]? = some (Obj.cells c t (0, 0)) → t = 125 ∨ t = 9 → w'.heap[g]? = w.heap[g]?) : ∀ {l : List Attr} {xs : List Value}, EAs w xs l → EAs w' xs l
  | [], _, h => h
  | _ :: _, _, ⟨p, ys, e, hp, h⟩ => ⟨p, ys, e, hp.stays k, EAs.stays k h⟩
theorem EAs.snoc {p : Nat} {a : Attr} (hp : EA w p a) : ∀ {l : List Attr} {xs : List Value}, EAs w xs l → EAs w (xs ++ [.pointer (some ⟨p, 0, none⟩)]) (l ++ [a])
  | [], _, h => by rw [show _ = _ from h]; exact ⟨p, [], rfl, hp, rfl⟩
  | _ :: _, _, ⟨q, ys, e, hq, h⟩ => by rw [e]; exact ⟨q, _, rfl, hq, EAs.snoc hp h⟩
theorem EAs.len : ∀ {l : List Attr} {xs : List Value}, EAs w xs l → xs.length = l.length
  | [], _, h => by rw [show _ = _ from h]; rfl
  | _ :: _, _, ⟨_, _, e, _, h⟩ => by rw [e, List.length_cons, List.length_cons, EAs.len h]
theorem EAs.nth : ∀ {l : List Attr} {xs : List Value}, EAs w xs l → ∀ {i : Nat} {a : Attr}, l[i]? = some a → ∃ p, xs[i]? = some (.pointer (some ⟨p, 0, none⟩)) ∧ EA w p a
  | [], _, _, i, p, h => by simp at h
  | _ :: _, _, ⟨q, vs, e, hp, h⟩, 0, p, hi => by simp only [List.getElem?_cons_zero, Option.some.injEq] at hi; subst hi; exact ⟨q, by rw [e]; rfl, hp⟩
  | _ :: _, _, ⟨q, vs, e, hp, h⟩, i + 1, p, hi => by
    obtain ⟨b, h1, h2⟩ := EAs.nth h (i := i) (a := p) (by simpa using hi)
    exact ⟨b, by rw [e]; simpa using h1, h2⟩
end

/-- The entry in block E has i attributes. -/
structure VInv (dn : Value) (al : List Attr) (w : World) (E i : Nat) (v : Value) (xs : List Value) (wr : World) : Prop where
  low : w.heap.size ≤ E
  ent : wr.heap[E]? = some (.cells #[dn, v] 92 (0, 0))
  own : wr.ownsRow w.heap.size 93 1 v i xs
  eas : EAs wr xs (al.take i)
  bel : Below w.heap.size w wr
def VE (dn : Value) (al : List Attr) (w : World) (E i : Nat) (wr : World) : Prop := ∃ v xs, VInv dn al w E i v xs wr

theorem vinv_step {dn : Value} {al : List Attr} {w : World} {E i : Nat} {xs : List Value} {wr w3 w4 : World} {o : Option Addr} {c p g cap : Nat} {a : Attr} {ob : Obj} (h : VInv dn al w E i (.slice o i c) xs wr) (ha : al[i]? = some a)
    (h3 : Below wr.heap.size wr w3) (hp : EA w3 p a) (hown : w4.ownsRow w.heap.size 93 1 (.slice (some ⟨g, 0, none⟩) (i + 1) cap) (i + 1) (xs ++ [.pointer (some ⟨p, 0, none⟩)]))
    (hgr : (w3.alloc ob).grownBy w4 (Value.slice o i c).ownBlock) (hat : (Value.slice o i c).ownBlock = some g ∨ g = w3.heap.size + 1) :
    VE dn al w E (i + 1) (w4.setCell ⟨E, 1, none⟩ (.slice (some ⟨g, 0, none⟩) (i + 1) cap)) := by
  have hElt := blockLt h.ent
  have hsz := h3.size
  have hEv : (Value.slice o i c).ownBlock ≠ some E := own_ne h.own h.ent (by decide)
  have hgE : g ≠ E := by
    rcases hat with e | e
    · rintro rfl; exact hEv e
    · omega
  have hE4 : w4.heap[E]? = some (.cells #[dn, .slice o i c] 92 (0, 0)) :=
    (hgr.block E (by simp; omega) (fun e => hEv e.symm)).trans ((Below.heap_alloc w3 ob E (by omega)).trans ((h3.block E hElt).trans h.ent))
  have hvl := owns_lt h.own
  -- other blocks stand
  have st : ∀ (k : Nat) (cc : Array Value) (t : TypeId), w3.heap[k]? = some (Obj.cells cc t (0, 0)) → t = 125 ∨ t = 9 → (w4.setCell ⟨E, 1, none⟩ (.slice (some ⟨g, 0, none⟩) (i + 1) cap)).heap[k]? = w3.heap[k]? := by
    intro k cc t hk ht
    have hkl := blockLt hk
    have hE3 := (h3.block E hElt).trans h.ent
    have hkE : k ≠ E := ne_of_types hk hE3 (by rcases ht with rfl | rfl <;> decide)
    have hkv : (Value.slice o i c).ownBlock ≠ some k := by
      intro e
      have hl := hvl k e
      have h0 := (h3.block k hl).symm.trans hk
      exact own_ne h.own h0 (by rcases ht with rfl | rfl <;> decide) e
    rw [Below.heap_setCell _ _ _ _ (by simpa using hkE), hgr.block k (by simp; omega) (fun e => hkv e.symm), Below.heap_alloc _ _ _ hkl]
  refine ⟨_, _, h.low, by simpa using blockSet hE4 1 (.slice (some ⟨g, 0, none⟩) (i + 1) cap), owns_stays hown (fun k hk => Below.heap_setCell _ _ _ _ (by simp only [Value.ownBlock, Option.some.injEq] at hk; subst hk; exact hgE)), ?_, ?_⟩
  · rw [take_snoc ha]
    refine EAs.snoc (hp.stays st) ?_
    have h1 : EAs w3 xs (al.take i) := h.eas.stays fun k cc t hk _ => h3.block k (blockLt hk)
    exact h1.stays st
  · have hb0 := h.bel.size
    have hb : Below w.heap.size w w3 := h.bel.trans (h3.mono h.bel.size)
    exact ((hb.alloc (by omega) ob).grown hgr (by simp; omega) (fun k hk => h.own.lt k hk |>.1)).setCell (p := ⟨E, 1, none⟩) h.low _
end Go.Proofs.YtjmahgefijncaaaGreatFmt
