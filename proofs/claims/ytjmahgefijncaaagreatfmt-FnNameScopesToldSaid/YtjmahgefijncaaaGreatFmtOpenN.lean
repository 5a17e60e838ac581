/- Arguments that are lists of texts, attributes, names, opened. -/
import Derived.Test.YtjmahgefijncaaaGreatFmtEnt0
import Derived.SliceStrings
import Derived.Deep.Slices
import Derived.ChangeArms
namespace Go.Proofs.YtjmahgefijncaaaGreatFmt
open Go Go.RowKit Go.ChangeShapes Go.WideShapes

theorem spot_none {w : World} {a : Addr} {v : Value} (h : w.cell? a = some v) : a.spot = none := by
  unfold World.cell? at h
  split at h
  · cases hs : a.spot with
    | none => rfl
    | some k => rw [hs] at h; simp at h
  · cases h
theorem add_at {a : Addr} (h : a.spot = none) (i : Nat) : a.add i = ⟨a.block, a.off + i, none⟩ := by
  unfold Addr.add
  split
  · rename_i e
    subst e
    cases a
    simp only at h
    subst h
    rfl
  · rfl
/-- A list, element by element. -/
theorem list_of {α : Type} [Inhabited α] {P : Nat → α → Prop} {n : Nat} (h : ∀ i, i < n → ∃ a, P i a) : ∃ l : List α, l.length = n ∧ ∀ (i : Nat) (a : α), l[i]? = some a → P i a := by
  induction n with
  | zero => exact ⟨[], rfl, fun i a h => by simp at h⟩
  | succ n ih =>
    obtain ⟨l, hl, hP⟩ := ih (fun i hi => h i (by omega))
    obtain ⟨a, ha⟩ := h n (by omega)
    refine ⟨l ++ [a], by simp [hl], fun i b hi => ?_⟩
    rcases Nat.lt_or_ge i l.length with hlt | hge
    · rw [List.getElem?_append_left hlt] at hi; exact hP i b hi
    · rw [List.getElem?_append_right hge] at hi
      have : i = n := by
        have := (List.getElem?_eq_some_iff.1 hi).1
        simp at this; omega
      subst this
      rw [hl, Nat.sub_self] at hi
      simp at hi
      rw [← hi]; exact ha

theorem bs_data (s : ByteArray) : Nm.bs s.data.toList = s := by
  cases s; simp [Nm.bs]

theorem cells_str : Tryz.prog.cellsOf 9 = 1 := by kernel_rfl
theorem cells_attr : Tryz.prog.cellsOf 36 = 2 := by kernel_rfl
theorem cells_strs : Tryz.prog.cellsOf 34 = 1 := by kernel_rfl

section
variable {H : Type} {enc : TypeId × Value → H} {w : World} {base : Nat} {spare : Nat → Bool} {held : Bool}
set_option maxRecDepth 100000 in
theorem open_strs {fuel : Nat} {u : Value} {x : DataW H × List MemPlace} (h : DataW.trod enc Tryz.prog w base spare held fuel 34 [u] = some x) :
    ∃ l : List (List UInt8), StrsIn w u l ∧ l.length ≤ maxLen ∧ ∀ s ∈ l, s.length ≤ maxLen := by
  rcases open_strings Tryz.underlying34 Tryz.underlying9 cells_str h with ⟨e, -⟩ | ⟨a, len, cap, ss, e, -, hl3, hm, hz, -, hc, hs⟩
  · simp only [List.cons.injEq, and_true] at e
    subst e
    exact ⟨[], ⟨none, 0, rfl, fun j s hj => by simp at hj⟩, Nat.zero_le _, by simp⟩
  · simp only [List.cons.injEq, and_true] at e
    subst e
    have hzl : len ≤ ss.length := by rw [hz]; split <;> omega
    have hlen2 : ((ss.take len).map fun s => s.data.toList).length = len := by rw [List.length_map, List.length_take]; omega
    refine ⟨(ss.take len).map fun s => s.data.toList, ⟨some a, cap, by rw [hlen2], fun j s hj => ?_⟩, by rw [hlen2]; omega, fun s hs2 => ?_⟩
    · have hjl : j < len := by
        have := (List.getElem?_eq_some_iff.1 hj).1
        rw [hlen2] at this; exact this
      have h0 := hc 0 (by omega)
      have hsp := spot_none (a := a) (by simpa [Addr.add] using h0)
      refine ⟨a.block, a.off, by cases a; simp only at hsp; subst hsp; rfl, ?_⟩
      rw [← add_at hsp, hc j (by omega)]
      simp only [List.getElem?_map, Option.map_eq_some_iff] at hj
      obtain ⟨t, ht, rfl⟩ := hj
      rw [List.getElem?_take_of_lt hjl] at ht
      rw [List.getD_eq_getElem?_getD, ht, bs_data]
      rfl
    · simp only [List.mem_map] at hs2
      obtain ⟨t, ht, rfl⟩ := hs2
      have h2 := hs t (List.mem_of_mem_take ht)
      rw [Array.length_toList]
      exact h2

set_option maxRecDepth 100000 in
theorem open_attrs {fuel : Nat} {u : Value} {x : DataW H × List MemPlace} (h : DataW.trod enc Tryz.prog w base spare held fuel 32 [u] = some x) :
    ∃ l : List Attr, AttrsIn w u l ∧ l.length ≤ maxLen ∧ ∀ a ∈ l, a.2.length ≤ maxLen := by
  rcases Deep.open_slice Tryz.underlying32 h with ⟨e, -⟩ | ⟨a, len, cap, m, n, D, Pl, e, -, hl, hm, hmm, -, hi⟩
  · simp only [List.cons.injEq, and_true] at e
    subst e
    exact ⟨[], ⟨none, 0, rfl, fun j s hj => by simp at hj⟩, Nat.zero_le _, by simp⟩
  · simp only [List.cons.injEq, and_true] at e
    subst e
    have hlm : len ≤ m := by rw [hmm]; split <;> omega
    have hel : ∀ i, i < len → ∃ p : Attr, (w.cell? (a.add (i * 2)) = some (.string (Nm.bs p.1)) ∧ ∃ v, w.cell? (a.add (i * 2 + 1)) = some v ∧ StrsIn w v p.2) ∧ p.2.length ≤ maxLen := by
      intro i hil
      obtain ⟨cs', hcs, ht⟩ := hi i (by omega)
      rw [cells_attr] at hcs
      obtain ⟨-, hcl, hat⟩ := World.cells?_some hcs
      obtain ⟨ys, n', -, -, -, hys, hf⟩ := DataW.trod_struct Tryz.underlying36 ht
      obtain ⟨u0, u1, rfl⟩ : ∃ u0 u1, cs' = [u0, u1] := by
        match cs', hcl with
        | [u0, u1], _ => exact ⟨u0, u1, rfl⟩
      have g0 := hf 0 _ rfl
      have g1 := hf 1 _ rfl
      obtain ⟨y0, e0⟩ : ∃ y, ys[0]? = some y := ⟨_, List.getElem?_eq_getElem (show 0 < ys.length by rw [hys]; decide)⟩
      obtain ⟨y1, e1⟩ : ∃ y, ys[1]? = some y := ⟨_, List.getElem?_eq_getElem (show 1 < ys.length by rw [hys]; decide)⟩
      rw [e0] at g0
      rw [e1] at g1
      have g0' : DataW.trod enc Tryz.prog w base spare held n' 9 (([u0, u1].drop 0).take (Tryz.prog.cellsOf 9)) = some y0 := g0
      have g1' : DataW.trod enc Tryz.prog w base spare held n' 34 (([u0, u1].drop 1).take (Tryz.prog.cellsOf 34)) = some y1 := g1
      rw [cells_str] at g0'
      rw [cells_strs] at g1'
      obtain ⟨s, es, -, hsz⟩ := DataW.trod_string Tryz.underlying9 g0'
      obtain ⟨l2, h2, h3, h4⟩ := open_strs (by simpa using g1')
      simp only [List.drop_zero, List.take_succ_cons, List.take_zero, List.cons.injEq, and_true] at es
      subst es
      have c0 := hat 0 (by omega)
      have c1 := hat 1 (by omega)
      rw [Deep.add_add] at c0 c1
      exact ⟨(s.data.toList, l2), ⟨by rw [bs_data]; simpa using c0, u1, by simpa using c1, h2⟩, h3⟩
    obtain ⟨l, hll, hP⟩ := list_of hel
    refine ⟨l, ⟨some a, cap, by rw [hll], fun j p hj => ?_⟩, by omega, fun p hp => ?_⟩
    · obtain ⟨⟨c0, v, c1, hv⟩, -⟩ := hP j p hj
      have hj0 : j < len := by rw [← hll]; exact (List.getElem?_eq_some_iff.1 hj).1
      obtain ⟨p0, ⟨q0, _⟩, _⟩ := hel 0 (by omega)
      have hsp := spot_none (a := a) (by simpa [Addr.add] using q0)
      refine ⟨a.block, a.off, v, by cases a; simp only at hsp; subst hsp; rfl, ?_, ?_, hv⟩
      · rw [← add_at hsp]; exact c0
      · rw [Nat.add_assoc, ← add_at hsp]; exact c1
    · obtain ⟨i, hi2⟩ := List.getElem?_of_mem hp
      exact (hP i p hi2).2
end
end Go.Proofs.YtjmahgefijncaaaGreatFmt
