/- Names with pointers in memory, as they are read; the comparison of two parts. -/
import Derived.Test.YtjmahgefijncaaaGreatFmtNCmp
import Derived.Test.YtjmahgefijncaaaGreatFmtEnt0
import Derived.Deep.OwnRows
namespace Go.Proofs.YtjmahgefijncaaaGreatFmt
open Go Go.RowKit

/-- The slice v holds pointers to parts. -/
def PtrParts (w : World) (v : Value) (ps : List Nm.Part) : Prop :=
  ∃ o cap, v = .slice o ps.length cap ∧ ∀ (j : Nat) (p : Nm.Part), ps[j]? = some p → ∃ b off a, o = some ⟨b, off, none⟩ ∧ w.cell? ⟨b, off + j, none⟩ = some (.pointer (some ⟨a, 0, none⟩)) ∧ PartAt w a p
/-- The block r is a relative name. -/
def RdnIn (w : World) (r : Nat) (ps : List Nm.Part) : Prop := ∃ v, w.heap[r]? = some (.cells #[v] 118 (0, 0)) ∧ PtrParts w v ps
def PtrRdns (w : World) (v : Value) (n : Nm.Name) : Prop :=
  ∃ o cap, v = .slice o n.length cap ∧ n.length ≤ cap ∧ ∀ (j : Nat) (ps : List Nm.Part), n[j]? = some ps → ∃ b off a, o = some ⟨b, off, none⟩ ∧ w.cell? ⟨b, off + j, none⟩ = some (.pointer (some ⟨a, 0, none⟩)) ∧ RdnIn w a ps
def DnIn (w : World) (d : Nat) (n : Nm.Name) : Prop := ∃ v, w.heap[d]? = some (.cells #[v] 114 (0, 0)) ∧ PtrRdns w v n

section
variable {w w' : World}
theorem partAt_stays {a : Nat} {p : Nm.Part} (h : PartAt w a p) (k : Below w.heap.size w w') : PartAt w' a p := (k.block a (blockLt h)).trans h
theorem PtrParts.stays {v : Value} {ps : List Nm.Part} (h : PtrParts w v ps) (k : Below w.heap.size w w') : PtrParts w' v ps := by
  obtain ⟨o, c, hv, h1⟩ := h
  refine ⟨o, c, hv, fun j p hj => ?_⟩
  obtain ⟨b, off, a, e, c0, hp⟩ := h1 j p hj
  exact ⟨b, off, a, e, (k.cell (World.block_lt_of_cell? w ⟨b, off + j, none⟩ c0)).trans c0, partAt_stays hp k⟩
theorem RdnIn.stays {r : Nat} {ps : List Nm.Part} (h : RdnIn w r ps) (k : Below w.heap.size w w') : RdnIn w' r ps := by
  obtain ⟨v, h1, h2⟩ := h
  exact ⟨v, (k.block r (blockLt h1)).trans h1, h2.stays k⟩
theorem PtrRdns.stays {v : Value} {n : Nm.Name} (h : PtrRdns w v n) (k : Below w.heap.size w w') : PtrRdns w' v n := by
  obtain ⟨o, c, hv, hc, h1⟩ := h
  refine ⟨o, c, hv, hc, fun j p hj => ?_⟩
  obtain ⟨b, off, a, e, c0, hp⟩ := h1 j p hj
  exact ⟨b, off, a, e, (k.cell (World.block_lt_of_cell? w ⟨b, off + j, none⟩ c0)).trans c0, hp.stays k⟩
theorem DnIn.stays {d : Nat} {n : Nm.Name} (h : DnIn w d n) (k : Below w.heap.size w w') : DnIn w' d n := by
  obtain ⟨v, h1, h2⟩ := h
  exact ⟨v, (k.block d (blockLt h1)).trans h1, h2.stays k⟩
theorem RdnAt.in' {S : Nat → Prop} {r : Nat} {ps : List Nm.Part} (h : RdnAt w S r ps) : RdnIn w r ps := by
  obtain ⟨_, v, xs, h1, h2, _, h3⟩ := h
  obtain ⟨o, c, hv⟩ := owns_form h2
  refine ⟨v, h1, o, c, by rw [hv, h3.len], fun j p hj => ?_⟩
  obtain ⟨a, e1, _, e2⟩ := h3.nth hj
  obtain ⟨g, c2, e3, e4⟩ := owns_cell h2 e1
  rw [hv] at e3
  injection e3 with e3 _ _
  exact ⟨g, 0, a, e3, by rw [Nat.zero_add]; exact e4, e2⟩
theorem DnAt.in' {S : Nat → Prop} {d : Nat} {n : Nm.Name} (h : DnAt w S d n) : DnIn w d n := by
  obtain ⟨_, v, xs, h1, h2, _, h3⟩ := h
  obtain ⟨o, c, hv⟩ := owns_form h2
  have hcap : n.length ≤ c := by
    rw [← h3.len]
    rcases h2.2 with ⟨e, h0⟩ | ⟨g, c2, cur, e, _, _, hle, _⟩
    · omega
    · rw [hv] at e; injection e with _ _ e3; omega
  refine ⟨v, h1, o, c, by rw [hv, h3.len], hcap, fun j p hj => ?_⟩
  obtain ⟨a, e1, e2⟩ := h3.nth hj
  obtain ⟨g, c2, e3, e4⟩ := owns_cell h2 e1
  rw [hv] at e3
  injection e3 with e3 _ _
  exact ⟨g, 0, a, e3, by rw [Nat.zero_add]; exact e4, e2.in'⟩
end

def partEq (fold : Bool) (p q : Nm.Part) : Bool := foldSame p.1 q.1 && (if fold then foldSame p.2 q.2 else decide (p.2 = q.2))
theorem partEq_key (fold : Bool) (p q : Nm.Part) : partEq fold p q = decide (NC.key fold p = NC.key fold q) := by
  unfold partEq NC.key foldSame
  rw [Bool.eq_iff_iff]
  cases fold <;> simp

/-- Texts of a sane length. -/
def PartFits (p : Nm.Part) : Prop := p.1.length < 1000000000 ∧ p.2.length < 1000000000

end Go.Proofs.YtjmahgefijncaaaGreatFmt
