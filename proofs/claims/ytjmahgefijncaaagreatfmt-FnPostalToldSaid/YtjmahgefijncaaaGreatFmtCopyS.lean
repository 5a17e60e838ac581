/- append([]string(nil), xs...): a copy of a list of texts. -/
import Derived.Test.YtjmahgefijncaaaGreatFmtEnt1
import Derived.Deep.AppendSrc
import Derived.Laws.AppendOwnNone
import Derived.Deep.RegionLaw
namespace Go.Proofs.YtjmahgefijncaaaGreatFmt
open Go Go.RowKit

theorem info_str : ∃ i, Tryz.prog.info? 9 = some i ∧ i.zero = some (.string ⟨#[]⟩) ∧ i.size = 1 ∧ i.bytes = 16 := info_parts (by kernel_rfl)

def strs (l : List (List UInt8)) : List Value := l.map fun s => .string (Nm.bs s)
theorem strs_len (l : List (List UInt8)) : (strs l).length = l.length := by simp [strs]
/-- The slice v holds texts, in a row of the call's own. -/
def StrsOwn (w : World) (v : Value) (l : List (List UInt8)) : Prop := w.ownsRow 0 9 1 v l.length (strs l)
theorem StrsOwn.in' {w : World} {v : Value} {l : List (List UInt8)} (h : StrsOwn w v l) : StrsIn w v l := by
  obtain ⟨o, c, hv⟩ : ∃ o c, v = .slice o l.length c := by
    rcases h.2 with ⟨hv, h0⟩ | ⟨g, cap, cur, hv, _⟩
    · exact ⟨none, 0, by rw [hv, h0]⟩
    · exact ⟨_, _, hv⟩
  refine ⟨o, c, hv, fun j s hj => ?_⟩
  obtain ⟨g, c2, e1, e2⟩ := owns_cell2 h (j := j) (u := .string (Nm.bs s)) (by simp [strs, hj])
  rw [hv] at e1
  injection e1 with a1 _ a2
  exact ⟨g, 0, a1, by rw [Nat.zero_add]; exact e2⟩
theorem StrsOwn.stays {w w' : World} {v : Value} {l : List (List UInt8)} (h : StrsOwn w v l) (k : ∀ (g : Nat) (c : Array Value), w.heap[g]? = some (Obj.cells c 9 (0, 0)) → w'.heap[g]? = w.heap[g]?) : StrsOwn w' v l := by
  refine ⟨h.1, h.2.imp id ?_⟩
  rintro ⟨g, cap, cur, e1, e2, e3, e4⟩
  exact ⟨g, cap, cur, e1, e2, (k g _ e3).trans e3, e4⟩

set_option maxRecDepth 100000 in
theorem run_copy (w : World) (ty : TypeId) (v : Value) (l : List (List UInt8)) (hl : l.length ≤ 2147483647) (h : StrsIn w v l) :
    ∃ v' w', (Builtin.append_ #[34, 34] ty #[.slice none 0 0, v]).run Tryz.prog w = .ok v' w' ∧ StrsOwn w' v' l ∧ Below w.heap.size w w' := by
  obtain ⟨i0, hi, hz0, hz1, hz2⟩ := info_str
  obtain ⟨o, c, rfl, hc⟩ := h
  cases l with
  | nil =>
    refine ⟨.slice none 0 0, w, ?_, ⟨rfl, Or.inl ⟨rfl, rfl⟩⟩, Below.refl _ _⟩
    have ht : Tryz.prog.underlying 34 = some (.slice 9) := Tryz.underlying34
    have hf : (Builtin.firstCells i0.size 0 (.slice o 0 c)).run Tryz.prog w = .ok #[] w := by
      cases o with
      | none => exact run_firstCells_none w i0.size 0 0 c
      | some a => exact run_firstCells_some w i0.size 0 a 0 c [] (by simp) (by intro j u hj; simp at hj)
    have hlen : ∀ w' : World, (Builtin.lenOf (.slice o 0 c)).run Tryz.prog w' = .ok 0 w' := fun _ => rfl
    simp only [List.length_nil]
    simp [Builtin.append_, run_underlying ht, sizeOf, typeInfo, hi, hf, hlen]
  | cons s r =>
    obtain ⟨b, off, rfl, _⟩ := hc 0 s rfl
    obtain ⟨v', w', hr, h2, h3, h4⟩ := run_append_own (P := Tryz.prog) w 0 34 ty 9 i0 (.string ⟨#[]⟩) 1 16 Tryz.underlying34 hi hz0 hz1 hz2 rfl (by decide) (.slice none 0 0) 0 [] ⟨rfl, Or.inl ⟨rfl, rfl⟩⟩
      ⟨b, off, none⟩ (s :: r).length c (strs (s :: r)) (by rw [strs_len, Nat.mul_one]) (by
        intro j u hj
        simp only [strs, List.getElem?_map, Option.map_eq_some_iff] at hj
        obtain ⟨t, ht, rfl⟩ := hj
        obtain ⟨b', off', e, hcell⟩ := hc j t ht
        injection e with e
        injection e with e1 e2
        subst e1 e2
        unfold Addr.add
        split
        · rename_i h0; subst h0; exact hcell
        · exact hcell) (by intro u hu; simp only [strs, List.mem_map] at hu; obtain ⟨t, _, rfl⟩ := hu; rfl) (by simp only [maxLen]; omega) (by omega) (Nat.zero_le _)
    refine ⟨v', w', hr, ?_, ⟨h3.os, h3.tape, h3.output, h3.size, fun k hk => h3.block k hk (by simp [Value.ownBlock])⟩⟩
    unfold StrsOwn
    simpa using h2

/-- At a step of a region that draws its order. -/
theorem step_append_copy {ops : Array Oper} {o : Oper} {a : Act} {w : World} {K : Act → World → Prop} {Q : Exit → Act → World → Prop} {E : Prop} (hgd : o.guard = none) (s x : Operand)
    (ho : o.op = .call { callee := .builtin .append, args := #[s, x], argTypes := #[34, 34] }) (hs : a.eval s = .slice none 0 0) (v : Value) (hv : a.eval x = v) (l : List (List UInt8)) (hl : l.length ≤ 2147483647) (hx : StrsIn w v l)
    (h : ∀ v' w', StrsOwn w' v' l → Below w.heap.size w w' → K (a.put o.dst v') w') :
    if Region.wanted o (yielded ops a.tmps) = true then Oper.wp Tryz.prog o a w K Q else E := by
  have hw : Region.wanted o (yielded ops a.tmps) = true := by simp [Region.wanted, hgd]
  rw [if_pos hw]
  obtain ⟨v', w', hr, h1, h2⟩ := run_copy w o.type v l hl hx
  unfold Oper.wp execOp
  simp only [ho, resolve, invoke, builtin, Sem.run_bind, Sem.run_pure, Result.andThen_ok, List.map_toArray, List.map_cons, List.map_nil, hs, hv, hr]
  exact h v' w' h1 h2
/-- At the list of a plain region's operations. -/
theorem wpList_append_copy {ops : Array Oper} {rest : List Oper} {o : Oper} {a : Act} {w : World} {Q : Exit → Act → World → Prop} (hgd : o.guard = none) (s x : Operand)
    (ho : o.op = .call { callee := .builtin .append, args := #[s, x], argTypes := #[34, 34] }) (hs : a.eval s = .slice none 0 0) (v : Value) (hv : a.eval x = v) (l : List (List UInt8)) (hl : l.length ≤ 2147483647) (hx : StrsIn w v l)
    (h : ∀ v' w', StrsOwn w' v' l → Below w.heap.size w w' → wpList Tryz.prog ops Q rest (a.put o.dst v') w') : wpList Tryz.prog ops Q (o :: rest) a w := by
  refine wpList_plain hgd fun K hK => ?_
  obtain ⟨v', w', hr, h1, h2⟩ := run_copy w o.type v l hl hx
  unfold Oper.wp execOp
  simp only [ho, resolve, invoke, builtin, Sem.run_bind, Sem.run_pure, Result.andThen_ok, List.map_toArray, List.map_cons, List.map_nil, hs, hv, hr]
  exact hK _ _ (h v' w' h1 h2)
end Go.Proofs.YtjmahgefijncaaaGreatFmt
