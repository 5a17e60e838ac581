/- Arguments that are results and lists of bytes, opened. -/
import Derived.Test.YtdfehaonngccjaaGreatDoorZ11
import Derived.SliceStrings
import Derived.ProofKit
import Derived.ChangeMaps5
import Derived.ChangeSlices
import Derived.LaidMore
import Derived.Lay
import Derived.SevenTiedAt
import Derived.Stop.Joined
import Derived.Deep.DeepHandedRow
import Derived.WideKeyArgs
set_option linter.unusedVariables false
set_option linter.unusedSimpArgs false
namespace Go.Proofs.YtdfehaonngccjaaGreatDoor
open Go Go.ChangeShapes Go.WideShapes Go.ChangeAt Go.RowKit Go.Proofs.YtdfehaonngccjaaGreatDoorW.PrintWords

theorem cells_u8 : Tryz.prog.cellsOf 5 = 1 := by kernel_rfl
theorem cells_str : Tryz.prog.cellsOf 9 = 1 := by kernel_rfl
theorem open_choices {H : Type} {enc : TypeId × Value → H} {w : World} {base : Nat} {spare : Nat → Bool} {held : Bool} {v : Value} {d : DataW H} {p : List MemPlace}
    (hv : ∃ a len cap, v = .slice a len cap) (h : DataW.Trod enc Tryz.prog w base spare held 25 v d p) :
    ∃ (A : Option Addr) (cap : Nat) (ch : List UInt8), v = .slice A ch.length cap ∧ ch.length ≤ cap ∧ Kd.C (Kd.int .u8) w A ch.length (ch.map fun x => (x.toNat : Int)) := by
  obtain ⟨a0, n0, c0, rfl⟩ := hv
  obtain ⟨fuel, h⟩ := h
  rcases open_ints Tryz.underlying25 Tryz.underlying5 cells_u8 h with ⟨e, -⟩ | ⟨a, len, cap, zs, e, -, hl, hm, hz, -, hc, hw⟩
  · simp only [Value.cells, List.cons.injEq, and_true, Value.slice.injEq] at e
    obtain ⟨rfl, rfl, rfl⟩ := e
    exact ⟨none, 0, [], rfl, Nat.le_refl _, Kd.C_nil _ _⟩
  · simp only [Value.cells, List.cons.injEq, and_true, Value.slice.injEq] at e
    obtain ⟨rfl, e1, e2⟩ := e
    obtain rfl := e1.symm
    obtain rfl := e2.symm
    have hzl : len ≤ zs.length := by rw [hz]; split <;> omega
    have hb : ∀ n ∈ zs, 0 ≤ n ∧ n < 256 := fun n hn => by
      have h := hw n hn
      simp only [Lit.wf, Bool.and_eq_true, decide_eq_true_eq] at h
      exact ⟨h.1, Int.lt_of_le_of_lt h.2 (by decide)⟩
    have hlen : ((zs.take len).map fun n => UInt8.ofNat n.toNat).length = len := by rw [List.length_map, List.length_take]; omega
    have hmap : ((zs.take len).map fun n => UInt8.ofNat n.toNat).map (fun x => (x.toNat : Int)) = zs.take len := by
      rw [List.map_map]
      refine (List.map_congr_left (fun n hn => ?_)).trans (List.map_id _)
      have := hb n (List.mem_of_mem_take hn)
      simp only [Function.comp_apply, UInt8.toNat_ofNat', id_eq]
      omega
    refine ⟨some a, cap, (zs.take len).map fun n => UInt8.ofNat n.toNat, by rw [hlen], by rw [hlen]; exact hl, ?_⟩
    rw [hlen, hmap]
    refine ⟨by rw [List.length_take]; omega, ?_, fun _ => ⟨a, rfl, fun j p hj => ?_⟩⟩
    · have : maxLen ≤ 9223372036854775807 := by decide
      omega
    · have hjl : j < len := by
        have := (List.getElem?_eq_some_iff.1 hj).1
        rw [List.length_take] at this
        omega
      rw [List.getElem?_take_of_lt hjl] at hj
      refine ⟨[.int .u8 p], rfl, rfl, fun i u hi => ?_⟩
      have hi0 : i = 0 := by
        have := (List.getElem?_eq_some_iff.1 hi).1
        simpa using this
      subst hi0
      simp only [List.getElem?_cons_zero, Option.some.injEq] at hi
      subst hi
      have := hc j (by omega)
      rw [List.getD_eq_getElem?_getD, hj] at this
      show w.cell? (a.add (j * 1 + 0)) = _
      rw [Nat.mul_one, Nat.add_zero]
      exact this

theorem list_four {α : Type} : ∀ (l : List α), l.length = 4 → ∃ a b c d, l = [a, b, c, d]
  | [a, b, c, d], _ => ⟨a, b, c, d, rfl⟩
theorem cells_res : Tryz.prog.cellsOf 24 = 4 := by kernel_rfl

theorem open_result {H : Type} {enc : TypeId × Value → H} {w : World} {base : Nat} {spare : Nat → Bool} {held : Bool} {v : Value} {d : DataW H} {p : List MemPlace} {n : Nat}
    (hv : ∃ cs, v = .agg cs ∧ cs.size = n) (h : DataW.Trod enc Tryz.prog w base spare held 24 v d p) :
    ∃ (code : Int) (matched text : List UInt8) (refs : List (List UInt8)) (A : Option Addr) (cp : Nat), v = .agg #[.int .i64 code, .string (bs matched), .string (bs text), .slice A refs.length cp] ∧
      refs.length ≤ cp ∧ refs.length ≤ 9223372036854775807 ∧ Kd.C Kd.string w A refs.length (refs.map bs) := by
  obtain ⟨cs, rfl, -⟩ := hv
  obtain ⟨f0, h⟩ := h
  obtain ⟨xs, n, hn, -, hl, hlen, hf⟩ := DataW.trod_struct Tryz.underlying24 h
  rw [cells_res] at hl
  obtain ⟨u0, u1, u2, u3, hcs⟩ := list_four _ hl
  obtain ⟨y0, y1, y2, y3, rfl⟩ := list_four xs hlen
  have hcs2 : cs.toList = [u0, u1, u2, u3] := hcs
  obtain rfl : cs = #[u0, u1, u2, u3] := Array.toList_inj.1 hcs2
  have g0 : DataW.trod enc Tryz.prog w base spare held n 2 (([u0, u1, u2, u3].drop 0).take (Tryz.prog.cellsOf 2)) = some y0 := hf 0 _ rfl
  have g1 : DataW.trod enc Tryz.prog w base spare held n 9 (([u0, u1, u2, u3].drop 1).take (Tryz.prog.cellsOf 9)) = some y1 := hf 1 _ rfl
  have g2 : DataW.trod enc Tryz.prog w base spare held n 9 (([u0, u1, u2, u3].drop 2).take (Tryz.prog.cellsOf 9)) = some y2 := hf 2 _ rfl
  have g3 : DataW.trod enc Tryz.prog w base spare held n 22 (([u0, u1, u2, u3].drop 3).take (Tryz.prog.cellsOf 22)) = some y3 := hf 3 _ rfl
  simp only [List.drop_zero, List.drop_succ_cons] at g0 g1 g2 g3
  have c0 : Tryz.prog.cellsOf 2 = 1 := by kernel_rfl
  have c3 : Tryz.prog.cellsOf 22 = 1 := by kernel_rfl
  rw [c0] at g0
  rw [cells_str] at g1 g2
  rw [c3] at g3
  simp only [List.take_succ_cons, List.take_zero] at g0 g1 g2 g3
  obtain ⟨n0, e0, -, -⟩ := DataW.trod_int Tryz.underlying2 g0
  obtain ⟨s1, e1, -, -⟩ := DataW.trod_string Tryz.underlying9 g1
  obtain ⟨s2, e2, -, -⟩ := DataW.trod_string Tryz.underlying9 g2
  simp only [List.cons.injEq, and_true] at e0 e1 e2
  subst e0 e1 e2
  rcases open_strings Tryz.underlying22 Tryz.underlying9 cells_str g3 with ⟨e, -⟩ | ⟨a, len, cap, ss, e, -, hl3, hm, hz, -, hc, -⟩
  · simp only [List.cons.injEq, and_true] at e
    subst e
    exact ⟨n0, s1.data.toList, s2.data.toList, [], none, 0, rfl, Nat.le_refl _, Nat.zero_le _, Kd.C_nil _ _⟩
  · simp only [List.cons.injEq, and_true] at e
    subst e
    have hzl : len ≤ ss.length := by rw [hz]; split <;> omega
    have hlen2 : ((ss.take len).map fun s => s.data.toList).length = len := by rw [List.length_map, List.length_take]; omega
    have hmap : ((ss.take len).map fun s => s.data.toList).map bs = ss.take len := by
      rw [List.map_map]
      exact (List.map_congr_left (fun s _ => rfl)).trans (List.map_id _)
    have hmx : maxLen ≤ 9223372036854775807 := by decide
    refine ⟨n0, s1.data.toList, s2.data.toList, (ss.take len).map fun s => s.data.toList, some a, cap, by rw [hlen2]; rfl, by rw [hlen2]; exact hl3, by rw [hlen2]; omega, ?_⟩
    rw [hlen2, hmap]
    refine ⟨by rw [List.length_take]; omega, by omega, fun _ => ⟨a, rfl, fun j p hj => ?_⟩⟩
    have hjl : j < len := by
      have := (List.getElem?_eq_some_iff.1 hj).1
      rw [List.length_take] at this
      omega
    rw [List.getElem?_take_of_lt hjl] at hj
    refine ⟨[.string p], rfl, rfl, fun i u hi => ?_⟩
    have hi0 : i = 0 := by
      have := (List.getElem?_eq_some_iff.1 hi).1
      simpa using this
    subst hi0
    simp only [List.getElem?_cons_zero, Option.some.injEq] at hi
    subst hi
    have := hc j (by omega)
    rw [List.getD_eq_getElem?_getD, hj] at this
    show w.cell? (a.add (j * 1 + 0)) = _
    rw [Nat.mul_one, Nat.add_zero]
    exact this
end Go.Proofs.YtdfehaonngccjaaGreatDoor

