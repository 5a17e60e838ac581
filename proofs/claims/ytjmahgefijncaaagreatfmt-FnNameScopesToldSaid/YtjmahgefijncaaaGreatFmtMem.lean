/- Names in memory: attributes, relative names, names; what stands as long as their blocks stand. -/
import Derived.Test.YtjmahgefijncaaaGreatFmtOnly
import Derived.Test.YtjmahgefijncaaaGreatFmtNm
import Derived.Test.YtjmahgefijncaaaGreatFmtProg
import Derived.Maps.AppendAt
namespace Go.Proofs.YtjmahgefijncaaaGreatFmt
open Go Go.RowKit

theorem owns_stays {w w' : World} {B : Nat} {e : TypeId} {sz : Nat} {v : Value} {n : Nat} {xs : List Value} (h : w.ownsRow B e sz v n xs) (k : ∀ g, v.ownBlock = some g → w'.heap[g]? = w.heap[g]?) : w'.ownsRow B e sz v n xs := by
  refine ⟨h.1, h.2.imp id ?_⟩
  rintro ⟨g, cap, cur, e1, e2, e3, e4⟩
  exact ⟨g, cap, cur, e1, e2, (k g (by rw [e1]; rfl)).trans e3, e4⟩
theorem owns_lt {w : World} {B : Nat} {e : TypeId} {sz : Nat} {v : Value} {n : Nat} {xs : List Value} (h : w.ownsRow B e sz v n xs) : ∀ g, v.ownBlock = some g → g < w.heap.size := by
  rcases h.2 with ⟨hv, _⟩ | ⟨g, cap, cur, hv, _, hg, _⟩
  · intro g hg; rw [hv] at hg; simp [Value.ownBlock] at hg
  · intro k hk; rw [hv] at hk; simp only [Value.ownBlock, Option.some.injEq] at hk; subst hk; exact blockLt hg
theorem owns_form {w : World} {B : Nat} {e : TypeId} {sz : Nat} {v : Value} {n : Nat} {xs : List Value} (h : w.ownsRow B e sz v n xs) : ∃ o c, v = .slice o n c := by
  rcases h.2 with ⟨hv, h0⟩ | ⟨g, cap, cur, hv, _⟩
  · exact ⟨none, 0, by rw [hv, h0]⟩
  · exact ⟨_, _, hv⟩
theorem owns_cell {w : World} {B : Nat} {e : TypeId} {v : Value} {n : Nat} {xs : List Value} (h : w.ownsRow B e 1 v n xs) {j : Nat} {u : Value} (hj : xs[j]? = some u) : ∃ g c, v = .slice (some ⟨g, 0, none⟩) n c ∧ w.cell? ⟨g, j, none⟩ = some u := by
  have hl := h.1
  rcases h.2 with ⟨hv, h0⟩ | ⟨g, cap, cur, hv, _, hg, h2, h3, h4, h5⟩
  · rw [List.getElem?_eq_none (by omega)] at hj; cases hj
  · refine ⟨g, cap, hv, ?_⟩
    rw [blockCell hg j]
    rw [← h5] at hj
    simp only [List.getElem?_take] at hj
    split at hj
    · simpa using hj
    · cases hj

/-- The block of an attribute. -/
def PartAt (w : World) (a : Nat) (p : Nm.Part) : Prop := w.heap[a]? = some (.cells #[.string (Nm.bs p.1), .string (Nm.bs p.2)] 120 (0, 0))

/-- Pointers to attributes, all in blocks of S. -/
def PartsAt (w : World) (S : Nat → Prop) (xs : List Value) : List Nm.Part → Prop
  | [] => xs = []
  | p :: r => ∃ a vs, xs = .pointer (some ⟨a, 0, none⟩) :: vs ∧ S a ∧ PartAt w a p ∧ PartsAt w S vs r

/-- The block of a relative name. -/
def RdnAt (w : World) (S : Nat → Prop) (r : Nat) (ps : List Nm.Part) : Prop :=
  S r ∧ ∃ v xs, w.heap[r]? = some (.cells #[v] 118 (0, 0)) ∧ w.ownsRow 0 119 1 v xs.length xs ∧ (∀ k, v.ownBlock = some k → S k) ∧ PartsAt w S xs ps

/-- Pointers to relative names. -/
def RdnsAt (w : World) (S : Nat → Prop) (xs : List Value) : Nm.Name → Prop
  | [] => xs = []
  | p :: r => ∃ a vs, xs = .pointer (some ⟨a, 0, none⟩) :: vs ∧ RdnAt w S a p ∧ RdnsAt w S vs r

/-- The block of a name. -/
def DnAt (w : World) (S : Nat → Prop) (d : Nat) (n : Nm.Name) : Prop :=
  S d ∧ ∃ v xs, w.heap[d]? = some (.cells #[v] 114 (0, 0)) ∧ w.ownsRow 0 115 1 v xs.length xs ∧ (∀ k, v.ownBlock = some k → S k) ∧ RdnsAt w S xs n

section
variable {w w' : World} {S T : Nat → Prop}
theorem PartsAt.len : ∀ {ps : List Nm.Part} {xs : List Value}, PartsAt w S xs ps → xs.length = ps.length
  | [], _, h => by rw [show _ = _ from h]; rfl
  | _ :: _, _, ⟨_, _, e, _, _, h⟩ => by rw [e, List.length_cons, List.length_cons, PartsAt.len h]
theorem RdnsAt.len : ∀ {ps : Nm.Name} {xs : List Value}, RdnsAt w S xs ps → xs.length = ps.length
  | [], _, h => by rw [show _ = _ from h]; rfl
  | _ :: _, _, ⟨_, _, e, _, h⟩ => by rw [e, List.length_cons, List.length_cons, RdnsAt.len h]

theorem PartsAt.stays (k : ∀ i, S i → w'.heap[i]? = w.heap[i]?) (hT : ∀ i, S i → T i) : ∀ {ps : List Nm.Part} {xs : List Value}, PartsAt w S xs ps → PartsAt w' T xs ps
  | [], _, h => h
  | _ :: _, _, ⟨a, vs, e, ha, hp, h⟩ => ⟨a, vs, e, hT a ha, (k a ha).trans hp, PartsAt.stays k hT h⟩
theorem RdnAt.stays (k : ∀ i, S i → w'.heap[i]? = w.heap[i]?) (hT : ∀ i, S i → T i) {r : Nat} {ps : List Nm.Part} : RdnAt w S r ps → RdnAt w' T r ps
  | ⟨hr, v, xs, h1, h2, h3, h4⟩ => ⟨hT r hr, v, xs, (k r hr).trans h1, owns_stays h2 (fun g hg => k g (h3 g hg)), fun g hg => hT g (h3 g hg), h4.stays k hT⟩
theorem RdnsAt.stays (k : ∀ i, S i → w'.heap[i]? = w.heap[i]?) (hT : ∀ i, S i → T i) : ∀ {ps : Nm.Name} {xs : List Value}, RdnsAt w S xs ps → RdnsAt w' T xs ps
  | [], _, h => h
  | _ :: _, _, ⟨a, vs, e, hp, h⟩ => ⟨a, vs, e, hp.stays k hT, RdnsAt.stays k hT h⟩
theorem DnAt.stays (k : ∀ i, S i → w'.heap[i]? = w.heap[i]?) (hT : ∀ i, S i → T i) {d : Nat} {n : Nm.Name} : DnAt w S d n → DnAt w' T d n
  | ⟨hr, v, xs, h1, h2, h3, h4⟩ => ⟨hT d hr, v, xs, (k d hr).trans h1, owns_stays h2 (fun g hg => k g (h3 g hg)), fun g hg => hT g (h3 g hg), h4.stays k hT⟩

theorem PartsAt.snoc {p : Nm.Part} {a : Nat} (ha : S a) (hp : PartAt w a p) : ∀ {ps : List Nm.Part} {xs : List Value}, PartsAt w S xs ps → PartsAt w S (xs ++ [.pointer (some ⟨a, 0, none⟩)]) (ps ++ [p])
  | [], _, h => by rw [show _ = _ from h]; exact ⟨a, [], rfl, ha, hp, rfl⟩
  | _ :: _, _, ⟨b, vs, e, hb, hq, h⟩ => by rw [e]; exact ⟨b, _, rfl, hb, hq, PartsAt.snoc ha hp h⟩
theorem RdnsAt.snoc {p : List Nm.Part} {a : Nat} (hp : RdnAt w S a p) : ∀ {ps : Nm.Name} {xs : List Value}, RdnsAt w S xs ps → RdnsAt w S (xs ++ [.pointer (some ⟨a, 0, none⟩)]) (ps ++ [p])
  | [], _, h => by rw [show _ = _ from h]; exact ⟨a, [], rfl, hp, rfl⟩
  | _ :: _, _, ⟨b, vs, e, hq, h⟩ => by rw [e]; exact ⟨b, _, rfl, hq, RdnsAt.snoc hp h⟩
theorem PartsAt.nth : ∀ {ps : List Nm.Part} {xs : List Value}, PartsAt w S xs ps → ∀ {i : Nat} {p : Nm.Part}, ps[i]? = some p → ∃ a, xs[i]? = some (.pointer (some ⟨a, 0, none⟩)) ∧ S a ∧ PartAt w a p
  | [], _, _, i, p, h => by simp at h
  | _ :: _, _, ⟨a, vs, e, ha, hp, h⟩, 0, p, hi => by simp only [List.getElem?_cons_zero, Option.some.injEq] at hi; subst hi; exact ⟨a, by rw [e]; rfl, ha, hp⟩
  | _ :: _, _, ⟨a, vs, e, ha, hp, h⟩, i + 1, p, hi => by
    obtain ⟨b, h1, h2⟩ := PartsAt.nth h (i := i) (p := p) (by simpa using hi)
    exact ⟨b, by rw [e]; simpa using h1, h2⟩
theorem RdnsAt.nth : ∀ {ps : Nm.Name} {xs : List Value}, RdnsAt w S xs ps → ∀ {i : Nat} {p : List Nm.Part}, ps[i]? = some p → ∃ a, xs[i]? = some (.pointer (some ⟨a, 0, none⟩)) ∧ RdnAt w S a p
  | [], _, _, i, p, h => by simp at h
  | _ :: _, _, ⟨a, vs, e, hp, h⟩, 0, p, hi => by simp only [List.getElem?_cons_zero, Option.some.injEq] at hi; subst hi; exact ⟨a, by rw [e]; rfl, hp⟩
  | _ :: _, _, ⟨a, vs, e, hp, h⟩, i + 1, p, hi => by
    obtain ⟨b, h1, h2⟩ := RdnsAt.nth h (i := i) (p := p) (by simpa using hi)
    exact ⟨b, by rw [e]; simpa using h1, h2⟩
end
end Go.Proofs.YtjmahgefijncaaaGreatFmt
