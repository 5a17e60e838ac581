/- Names as plain data in memory: rows of parts, rows of such rows. -/
import Derived.Test.YtjmahgefijncaaaGreatFmtPInv
namespace Go.Proofs.YtjmahgefijncaaaGreatFmt
open Go Go.RowKit

def cellsOf (ps : List Nm.Part) : List Value := ps.flatMap fun p => [Value.string (Nm.bs p.1), .string (Nm.bs p.2)]
theorem cellsOf_snoc (ps : List Nm.Part) (p : Nm.Part) : cellsOf (ps ++ [p]) = cellsOf ps ++ [.string (Nm.bs p.1), .string (Nm.bs p.2)] := by simp [cellsOf]
theorem cellsOf_cons (ps : List Nm.Part) (p : Nm.Part) : cellsOf (p :: ps) = .string (Nm.bs p.1) :: .string (Nm.bs p.2) :: cellsOf ps := by simp [cellsOf]
theorem cellsOf_len : ∀ ps : List Nm.Part, (cellsOf ps).length = ps.length * 2
  | [] => rfl
  | p :: ps => by rw [cellsOf_cons]; simp only [List.length_cons, cellsOf_len ps]; omega
theorem cellsOf_get : ∀ (ps : List Nm.Part) (j : Nat) (p : Nm.Part), ps[j]? = some p → (cellsOf ps)[j * 2]? = some (.string (Nm.bs p.1)) ∧ (cellsOf ps)[j * 2 + 1]? = some (.string (Nm.bs p.2))
  | [], j, p, h => by simp at h
  | q :: ps, 0, p, h => by simp only [List.getElem?_cons_zero, Option.some.injEq] at h; subst h; rw [cellsOf_cons]; exact ⟨rfl, rfl⟩
  | q :: ps, j + 1, p, h => by
    have := cellsOf_get ps j p (by simpa using h)
    rw [cellsOf_cons, show (j + 1) * 2 = j * 2 + 1 + 1 by omega]
    simpa using this

/-- The slice v holds parts, in a row of the call's own. -/
def PartsOwn (e : TypeId) (B : Nat) (w : World) (v : Value) (ps : List Nm.Part) : Prop := w.ownsRow B e 2 v ps.length (cellsOf ps)
def RowsOwn (e : TypeId) (B : Nat) (w : World) : List Value → Nm.Name → Prop
  | vs, [] => vs = []
  | vs, ps :: r => ∃ v us, vs = v :: us ∧ PartsOwn e B w v ps ∧ RowsOwn e B w us r
def NameOwn (e1 e2 : TypeId) (B : Nat) (w : World) (v : Value) (n : Nm.Name) : Prop := ∃ vs, w.ownsRow B e1 1 v n.length vs ∧ RowsOwn e2 B w vs n

/-- The slice v holds parts. -/
def PartsIn (w : World) (v : Value) (ps : List Nm.Part) : Prop :=
  ∃ o cap, v = .slice o ps.length cap ∧ ∀ (j : Nat) (p : Nm.Part), ps[j]? = some p → ∃ b off, o = some ⟨b, off, none⟩ ∧ w.cell? ⟨b, off + j * 2, none⟩ = some (.string (Nm.bs p.1)) ∧ w.cell? ⟨b, off + j * 2 + 1, none⟩ = some (.string (Nm.bs p.2))
/-- The slice v holds a name. -/
def NameIn (w : World) (v : Value) (n : Nm.Name) : Prop :=
  ∃ o cap, v = .slice o n.length cap ∧ ∀ (j : Nat) (ps : List Nm.Part), n[j]? = some ps → ∃ b off u, o = some ⟨b, off, none⟩ ∧ w.cell? ⟨b, off + j, none⟩ = some u ∧ PartsIn w u ps

section
variable {e e1 e2 : TypeId} {B : Nat} {w w' : World}
theorem PartsOwn.stays {v : Value} {ps : List Nm.Part} (h : PartsOwn e B w v ps) (k : ∀ (g : Nat) (c : Array Value), w.heap[g]? = some (Obj.cells c e (0, 0)) → w'.heap[g]? = w.heap[g]?) : PartsOwn e B w' v ps := by
  refine ⟨h.1, h.2.imp id ?_⟩
  rintro ⟨g, cap, cur, e1, e2, e3, e4⟩
  exact ⟨g, cap, cur, e1, e2, (k g _ e3).trans e3, e4⟩
theorem PartsOwn.lower {v : Value} {ps : List Nm.Part} {B' : Nat} (h : PartsOwn e B w v ps) (hB : B' ≤ B) : PartsOwn e B' w v ps := by
  refine ⟨h.1, h.2.imp id ?_⟩
  rintro ⟨g, cap, cur, e1, e2, e3, e4⟩
  exact ⟨g, cap, cur, e1, Nat.le_trans hB e2, e3, e4⟩
theorem RowsOwn.stays (k : ∀ (g : Nat) (c : Array Value), w.heap[g]? = some (Obj.cells c e (0, 0)) → w'.heap[g]? = w.heap[g]?) : ∀ {n : Nm.Name} {vs : List Value}, RowsOwn e B w vs n → RowsOwn e B w' vs n
  | [], _, h => h
  | _ :: _, _, ⟨v, us, e, hp, h⟩ => ⟨v, us, e, hp.stays k, RowsOwn.stays k h⟩
theorem RowsOwn.snoc {v : Value} {ps : List Nm.Part} (hp : PartsOwn e B w v ps) : ∀ {n : Nm.Name} {vs : List Value}, RowsOwn e B w vs n → RowsOwn e B w (vs ++ [v]) (n ++ [ps])
  | [], _, h => by rw [show _ = _ from h]; exact ⟨v, [], rfl, hp, rfl⟩
  | _ :: _, _, ⟨u, us, e, hq, h⟩ => by rw [e]; exact ⟨u, _, rfl, hq, RowsOwn.snoc hp h⟩
theorem RowsOwn.nth : ∀ {n : Nm.Name} {vs : List Value}, RowsOwn e B w vs n → ∀ {j : Nat} {ps : List Nm.Part}, n[j]? = some ps → ∃ v, vs[j]? = some v ∧ PartsOwn e B w v ps
  | [], _, _, j, p, h => by simp at h
  | _ :: _, _, ⟨a, vs, e, hp, h⟩, 0, p, hi => by simp only [List.getElem?_cons_zero, Option.some.injEq] at hi; subst hi; exact ⟨a, by rw [e]; rfl, hp⟩
  | _ :: _, _, ⟨a, vs, e, hp, h⟩, j + 1, p, hi => by
    obtain ⟨b, h1, h2⟩ := RowsOwn.nth h (j := j) (ps := p) (by simpa using hi)
    exact ⟨b, by rw [e]; simpa using h1, h2⟩
theorem RowsOwn.len : ∀ {n : Nm.Name} {vs : List Value}, RowsOwn e B w vs n → vs.length = n.length
  | [], _, h => by rw [show _ = _ from h]; rfl
  | _ :: _, _, ⟨_, _, e, _, h⟩ => by rw [e, List.length_cons, List.length_cons, RowsOwn.len h]
theorem rowsOwn_lower {B' : Nat} (hB : B' ≤ B) : ∀ {n : Nm.Name} {vs : List Value}, RowsOwn e B w vs n → RowsOwn e B' w vs n
  | [], _, h => h
  | _ :: _, _, ⟨v, us, e, hp, h⟩ => ⟨v, us, e, hp.lower hB, rowsOwn_lower hB h⟩
theorem PartsOwn.lt {v : Value} {ps : List Nm.Part} (h : PartsOwn e B w v ps) : ∀ g, v.ownBlock = some g → g < w.heap.size := owns_lt h

theorem owns_cell2 {sz : Nat} {v : Value} {n : Nat} {xs : List Value} (h : w.ownsRow B e sz v n xs) {j : Nat} {u : Value} (hj : xs[j]? = some u) : ∃ g c, v = .slice (some ⟨g, 0, none⟩) n c ∧ w.cell? ⟨g, j, none⟩ = some u := by
  have hl := h.1
  rcases h.2 with ⟨hv, h0⟩ | ⟨g, cap, cur, hv, _, hg, h2, h3, h4, h5⟩
  · subst h0; rw [Nat.zero_mul] at hl; rw [List.getElem?_eq_none (by omega)] at hj; cases hj
  · refine ⟨g, cap, hv, ?_⟩
    rw [blockCell hg j]
    rw [← h5] at hj
    simp only [List.getElem?_take] at hj
    split at hj
    · simpa using hj
    · cases hj
theorem PartsOwn.in' {v : Value} {ps : List Nm.Part} (h : PartsOwn e B w v ps) : PartsIn w v ps := by
  obtain ⟨o, c, hv⟩ : ∃ o c, v = .slice o ps.length c := by
    rcases h.2 with ⟨hv, h0⟩ | ⟨g, cap, cur, hv, _⟩
    · exact ⟨none, 0, by rw [hv, h0]⟩
    · exact ⟨_, _, hv⟩
  refine ⟨o, c, hv, fun j p hj => ?_⟩
  obtain ⟨h1, h2⟩ := cellsOf_get ps j p hj
  obtain ⟨g, c2, e1, e2⟩ := owns_cell2 h h1
  obtain ⟨g', c3, e3, e4⟩ := owns_cell2 h h2
  rw [hv] at e1 e3
  injection e1 with a1 _ a2
  injection e3 with a3 _ _
  rw [a1] at a3
  injection a3 with a3
  injection a3 with a3 _ _
  subst a3
  exact ⟨g, 0, a1, by rw [Nat.zero_add]; exact e2, by rw [Nat.zero_add]; exact e4⟩
theorem NameOwn.in' {v : Value} {n : Nm.Name} (h : NameOwn e1 e2 B w v n) : NameIn w v n := by
  obtain ⟨vs, h1, h2⟩ := h
  obtain ⟨o, c, hv⟩ : ∃ o c, v = .slice o n.length c := by
    rcases h1.2 with ⟨hv, h0⟩ | ⟨g, cap, cur, hv, _⟩
    · exact ⟨none, 0, by rw [hv, h0]⟩
    · exact ⟨_, _, hv⟩
  refine ⟨o, c, hv, fun j p hj => ?_⟩
  obtain ⟨u, hu, hp⟩ := h2.nth hj
  obtain ⟨g, c2, e1, e2⟩ := owns_cell2 h1 hu
  rw [hv] at e1
  injection e1 with a1 _ _
  exact ⟨g, 0, u, a1, by rw [Nat.zero_add]; exact e2, hp.in'⟩
theorem PartsIn.stays {v : Value} {ps : List Nm.Part} (h : PartsIn w v ps) (k : Below w.heap.size w w') : PartsIn w' v ps := by
  obtain ⟨o, c, hv, h1⟩ := h
  refine ⟨o, c, hv, fun j p hj => ?_⟩
  obtain ⟨b, off, e, c0, c1⟩ := h1 j p hj
  exact ⟨b, off, e, (k.cell (World.block_lt_of_cell? w ⟨b, off + j * 2, none⟩ c0)).trans c0, (k.cell (World.block_lt_of_cell? w ⟨b, off + j * 2 + 1, none⟩ c1)).trans c1⟩
theorem NameIn.stays {v : Value} {n : Nm.Name} (h : NameIn w v n) (k : Below w.heap.size w w') : NameIn w' v n := by
  obtain ⟨o, c, hv, h1⟩ := h
  refine ⟨o, c, hv, fun j p hj => ?_⟩
  obtain ⟨b, off, u, e, c0, c1⟩ := h1 j p hj
  exact ⟨b, off, u, e, (k.cell (World.block_lt_of_cell? w ⟨b, off + j, none⟩ c0)).trans c0, c1.stays k⟩

/-- A row of the name grows: the rows in it stand. -/
theorem RowsOwn.grown {n : Nm.Name} {vs : List Value} (h : RowsOwn e2 B w vs n) {v : Value} {k : Nat} {xs : List Value} (hv : w.ownsRow B e1 1 v k xs) (hne : e1 ≠ e2) {o : Obj} (hg : (w.alloc o).grownBy w' v.ownBlock) : RowsOwn e2 B w' vs n := by
  refine h.stays fun g c hc => ?_
  have hlt := blockLt hc
  rw [hg.block g (by simp; omega) (fun e => own_ne hv hc hne e.symm), Below.heap_alloc _ _ _ hlt]
end
end Go.Proofs.YtjmahgefijncaaaGreatFmt
