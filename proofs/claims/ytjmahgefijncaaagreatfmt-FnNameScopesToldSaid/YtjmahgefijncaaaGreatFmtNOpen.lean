/- Arguments that are names, opened. -/
import Derived.Test.YtjmahgefijncaaaGreatFmtOpenN
import Derived.Test.YtjmahgefijncaaaGreatFmtRowsOf
import Derived.Test.YtjmahgefijncaaaGreatFmtNNx
import Derived.ChangeSlices
namespace Go.Proofs.YtjmahgefijncaaaGreatFmt
open Go Go.RowKit Go.ChangeShapes Go.WideShapes

theorem cells_spart : Tryz.prog.cellsOf 78 = 2 := by kernel_rfl
theorem cells_sparts : Tryz.prog.cellsOf 77 = 1 := by kernel_rfl
theorem cells_sname : Tryz.prog.cellsOf 22 = 1 := by kernel_rfl
theorem cells_byte : Tryz.prog.cellsOf 5 = 1 := by kernel_rfl

def PartMax (p : Nm.Part) : Prop := p.1.length ≤ maxLen ∧ p.2.length ≤ maxLen
def RdnMax (ps : List Nm.Part) : Prop := ps.length ≤ maxLen ∧ ∀ p ∈ ps, PartMax p
def NameMax (n : Nm.Name) : Prop := n.length ≤ maxLen ∧ ∀ ps ∈ n, RdnMax ps

section
variable {H : Type} {enc : TypeId × Value → H} {w : World} {base : Nat} {spare : Nat → Bool} {held : Bool}
set_option maxRecDepth 100000 in
theorem open_parts {fuel : Nat} {u : Value} {x : DataW H × List MemPlace} (h : DataW.trod enc Tryz.prog w base spare held fuel 77 [u] = some x) :
    ∃ l : List Nm.Part, PartsIn w u l ∧ RdnMax l := by
  rcases Deep.open_slice Tryz.underlying77 h with ⟨e, -⟩ | ⟨a, len, cap, m, n, D, Pl, e, -, hl, hm, hmm, -, hi⟩
  · simp only [List.cons.injEq, and_true] at e
    subst e
    exact ⟨[], ⟨none, 0, rfl, fun j s hj => by simp at hj⟩, Nat.zero_le _, by simp⟩
  · simp only [List.cons.injEq, and_true] at e
    subst e
    have hlm : len ≤ m := by rw [hmm]; split <;> omega
    have hel : ∀ i, i < len → ∃ p : Nm.Part, (w.cell? (a.add (i * 2)) = some (.string (Nm.bs p.1)) ∧ w.cell? (a.add (i * 2 + 1)) = some (.string (Nm.bs p.2))) ∧ PartMax p := by
      intro i hil
      obtain ⟨cs', hcs, ht⟩ := hi i (by omega)
      rw [cells_spart] at hcs
      obtain ⟨-, hcl, hat⟩ := World.cells?_some hcs
      obtain ⟨ys, n', -, -, -, hys, hf⟩ := DataW.trod_struct Tryz.underlying78 ht
      obtain ⟨u0, u1, rfl⟩ : ∃ u0 u1, cs' = [u0, u1] := by
        match cs', hcl with
        | [u0, u1], _ => exact ⟨u0, u1, rfl⟩
      have g0 := hf 0 _ rfl
      have g1 := hf 1 _ rfl
      obtain ⟨y0, e0⟩ : ∃ y, ys[0]? = some y := ⟨_, List.getElem?_eq_getElem (show 0 < ys.length by rw [hys]; decide)⟩
      obtain ⟨y1, e1⟩ : ∃ y, ys[1]? = some y := ⟨_, List.getElem?_eq_getElem (show 1 < ys.length by rw [hys]; decide)⟩
      rw [e0] at g0
      rw [e1] at g1
      have g0' : DataW.trod enc Tryz.prog w base spare held n' 9 (([u0, u1].drop 0).take (Tryz.prog.cellsOf 9)) = some y0 := g0
      have g1' : DataW.trod enc Tryz.prog w base spare held n' 9 (([u0, u1].drop 1).take (Tryz.prog.cellsOf 9)) = some y1 := g1
      rw [cells_str] at g0' g1'
      obtain ⟨s, es, -, hsz⟩ := DataW.trod_string Tryz.underlying9 g0'
      obtain ⟨s1, es1, -, hsz1⟩ := DataW.trod_string Tryz.underlying9 g1'
      simp only [List.drop_zero, List.drop_succ_cons, List.take_succ_cons, List.take_zero, List.cons.injEq, and_true] at es es1
      subst es
      subst es1
      have c0 := hat 0 (by omega)
      have c1 := hat 1 (by omega)
      rw [Deep.add_add] at c0 c1
      exact ⟨(s.data.toList, s1.data.toList), ⟨by rw [bs_data]; simpa using c0, by rw [bs_data]; simpa using c1⟩, by rw [Array.length_toList]; exact hsz, by rw [Array.length_toList]; exact hsz1⟩
    obtain ⟨l, hll, hP⟩ := list_of hel
    refine ⟨l, ⟨some a, cap, by rw [hll], fun j p hj => ?_⟩, by omega, fun p hp => ?_⟩
    · obtain ⟨⟨c0, c1⟩, -⟩ := hP j p hj
      obtain ⟨p0, ⟨q0, _⟩, _⟩ := hel 0 (by have := (List.getElem?_eq_some_iff.1 hj).1; omega)
      have hsp := spot_none (a := a) (by simpa [Addr.add] using q0)
      refine ⟨a.block, a.off, by cases a; simp only at hsp; subst hsp; rfl, ?_, ?_⟩
      · rw [← add_at hsp]; exact c0
      · rw [Nat.add_assoc, ← add_at hsp]; exact c1
    · obtain ⟨i, hi2⟩ := List.getElem?_of_mem hp
      exact (hP i p hi2).2

set_option maxRecDepth 100000 in
theorem open_name {fuel : Nat} {u : Value} {x : DataW H × List MemPlace} (h : DataW.trod enc Tryz.prog w base spare held fuel 22 [u] = some x) :
    ∃ n : Nm.Name, NameIn w u n ∧ NameMax n ∧ ∀ (o : Option Addr) (k c : Nat), u = .slice o k c → k ≤ c := by
  rcases Deep.open_slice Tryz.underlying22 h with ⟨e, -⟩ | ⟨a, len, cap, m, n, D, Pl, e, -, hl, hm, hmm, -, hi⟩
  · simp only [List.cons.injEq, and_true] at e
    subst e
    exact ⟨[], ⟨none, 0, rfl, fun j s hj => by simp at hj⟩, ⟨Nat.zero_le _, by simp⟩, fun o k c e => by injection e with _ e2 e3; omega⟩
  · simp only [List.cons.injEq, and_true] at e
    subst e
    have hlm : len ≤ m := by rw [hmm]; split <;> omega
    have hel : ∀ i, i < len → ∃ ps : List Nm.Part, (∃ v, w.cell? (a.add i) = some v ∧ PartsIn w v ps) ∧ RdnMax ps := by
      intro i hil
      obtain ⟨cs', hcs, ht⟩ := hi i (by omega)
      rw [cells_sparts] at hcs
      obtain ⟨-, hcl, hat⟩ := World.cells?_some hcs
      obtain ⟨u0, rfl⟩ : ∃ u0, cs' = [u0] := by
        match cs', hcl with
        | [u0], _ => exact ⟨u0, rfl⟩
      obtain ⟨ps, h1, h2⟩ := open_parts ht
      have c0 := hat 0 (by omega)
      rw [Deep.add_add] at c0
      exact ⟨ps, ⟨u0, by simpa using c0, h1⟩, h2⟩
    obtain ⟨l, hll, hP⟩ := list_of hel
    refine ⟨l, ⟨some a, cap, by rw [hll], fun j p hj => ?_⟩, ⟨by omega, fun p hp => ?_⟩, fun o k c hcapp => by injection hcapp with _ e2 e3; omega⟩
    · obtain ⟨⟨v, c0, hv⟩, -⟩ := hP j p hj
      obtain ⟨p0, ⟨v0, q0, _⟩, _⟩ := hel 0 (by have := (List.getElem?_eq_some_iff.1 hj).1; omega)
      have hsp := spot_none (a := a) (by simpa [Addr.add] using q0)
      refine ⟨a.block, a.off, v, by cases a; simp only at hsp; subst hsp; rfl, ?_, hv⟩
      rw [← add_at hsp]; exact c0
    · obtain ⟨i, hi2⟩ := List.getElem?_of_mem hp
      exact (hP i p hi2).2

theorem open_style {v : Value} {d : DataW H} {p : List MemPlace} (hv : ∃ a len cap, v = .slice a len cap) (h : DataW.Trod enc Tryz.prog w base spare held 51 v d p) :
    ∃ l : List UInt8, BytesIn w v l ∧ l.length ≤ maxLen := by
  obtain ⟨a0, n0, c0, rfl⟩ := hv
  obtain ⟨fuel, h⟩ := h
  rcases open_ints Tryz.underlying51 Tryz.underlying5 cells_byte h with ⟨e, -⟩ | ⟨a, len, cap, zs, e, -, hl, hm, hz, -, hc, hw⟩
  · simp only [Value.cells, List.cons.injEq, and_true, Value.slice.injEq] at e
    obtain ⟨rfl, rfl, rfl⟩ := e
    exact ⟨[], ⟨none, 0, rfl, fun j b hj => by simp at hj⟩, Nat.zero_le _⟩
  · simp only [Value.cells, List.cons.injEq, and_true, Value.slice.injEq] at e
    obtain ⟨rfl, e1, e2⟩ := e
    obtain rfl := e1.symm
    obtain rfl := e2.symm
    have hzl : len ≤ zs.length := by rw [hz]; split <;> omega
    have hb : ∀ n ∈ zs, 0 ≤ n ∧ n < 256 := fun n hn => by
      have h := hw n hn
      simp only [Lit.wf, Bool.and_eq_true, decide_eq_true_eq] at h
      exact ⟨h.1, Int.lt_of_le_of_lt h.2 (by decide)⟩
    have hlen : ((zs.take len).map fun n => UInt8.ofNat n.toNat).length = len := by rw [List.length_map, List.length_take]; omega
    refine ⟨(zs.take len).map fun n => UInt8.ofNat n.toNat, ⟨some a, cap, by rw [hlen], fun j b hj => ?_⟩, by rw [hlen]; omega⟩
    have hjl : j < len := by
      have := (List.getElem?_eq_some_iff.1 hj).1
      rw [hlen] at this; exact this
    have h0 := hc 0 (by omega)
    have hsp := spot_none (a := a) (by simpa [Addr.add] using h0)
    refine ⟨a.block, a.off, by cases a; simp only at hsp; subst hsp; rfl, ?_⟩
    rw [← add_at hsp, hc j (by omega)]
    simp only [List.getElem?_map, Option.map_eq_some_iff] at hj
    obtain ⟨z, hz1, rfl⟩ := hj
    rw [List.getElem?_take_of_lt hjl] at hz1
    have hbz := hb z (List.mem_of_getElem? hz1)
    rw [List.getD_eq_getElem?_getD, hz1]
    simp only [Option.getD_some, UInt8.toNat_ofNat']
    congr 2
    omega

theorem byte_wf {n : Int} (h : (Lit.int .u8 n).wf = true) : 0 ≤ n ∧ n < 256 := by
  simp only [Lit.wf, Bool.and_eq_true, decide_eq_true_eq] at h
  exact ⟨h.1, Int.lt_of_le_of_lt h.2 (by decide)⟩
theorem byte_of {k : Int} (h0 : 0 ≤ k) (h1 : k < 256) : ∃ b : UInt8, (b.toNat : Int) = k := ⟨k.toNat.toUInt8, by rw [toNat_u8 (by omega)]; omega⟩
end
end Go.Proofs.YtjmahgefijncaaaGreatFmt
