/- bytes.Reader's Read, at the end and before it. -/
import Derived.Test.YtdfehaonngccjaaGreatDoorZ2
import Derived.Test.YtdfehaonngccjaaGreatDoorProg
import Derived.Deep.QuietTactic
import Derived.BigQuiet
import Derived.RegionTactic
import Derived.Laws.CopyOwn
import Derived.Deep.RegionLaw
import Derived.Outline
set_option linter.unusedVariables false
set_option linter.unusedSimpArgs false
namespace Go.Proofs.YtdfehaonngccjaaGreatDoor
open Go Go.RowKit

/-- A bytes.Reader in block R over the bytes l in block A, at place i. -/
structure Rd (w : World) (R A : Nat) (l : List UInt8) (i : Nat) : Prop where
  blk : ∃ (cap : Nat) (pr : Int), l.length ≤ cap ∧ w.heap[R]? = some (.cells #[.slice (some ⟨A, 0, none⟩) l.length cap, .int .i64 i, .int .i64 pr] 99 (0, 0))
  src : ∀ j v, (Lib.byteCells l)[j]? = some v → w.cell? ⟨A, j, none⟩ = some v
  ne : A ≠ R
  pos : i ≤ l.length
  len : l.length < 1000000000

theorem Rd.heap {w w' : World} {R A : Nat} {l : List UInt8} {i : Nat} (h : Rd w R A l i) (e : w'.heap = w.heap) : Rd w' R A l i := by
  obtain ⟨⟨cap, pr, hc, hb⟩, hs, h3, h4, h5⟩ := h
  exact ⟨⟨cap, pr, hc, by rw [e]; exact hb⟩, fun j v hv => (World.cell?_of_block (w := w) (by rw [e])).trans (hs j v hv), h3, h4, h5⟩
theorem Rd.drew {w : World} {R A : Nat} {l : List UInt8} {i : Nat} (h : Rd w R A l i) : Rd w.drew R A l i := h.heap rfl
theorem Rd.drewN {w : World} {R A : Nat} {l : List UInt8} {i : Nat} (h : Rd w R A l i) (n : Nat) : Rd (w.drewN n) R A l i := h.heap rfl
theorem Rd.lt {w : World} {R A : Nat} {l : List UInt8} {i : Nat} (h : Rd w R A l i) : R < w.heap.size := by obtain ⟨_, _, _, hb⟩ := h.blk; exact blockLt hb
/-- What leaves the reader's block and its bytes alone keeps it. -/
theorem Rd.stays {w w' : World} {R A : Nat} {l : List UInt8} {i : Nat} (h : Rd w R A l i) (hR : w'.heap[R]? = w.heap[R]?) (hA : w'.heap[A]? = w.heap[A]?) : Rd w' R A l i := by
  obtain ⟨⟨cap, pr, hc, hb⟩, hs, h3, h4, h5⟩ := h
  exact ⟨⟨cap, pr, hc, hR.trans hb⟩, fun j v hv => (World.cell?_of_block (w := w) hA).trans (hs j v hv), h3, h4, h5⟩

theorem Rd.alloc {w : World} {R A : Nat} {l : List UInt8} {i : Nat} (h : Rd w R A l i) (o : Obj) : Rd (w.alloc o) R A l i := by
  have hR := h.lt
  obtain ⟨⟨cap, pr, hc, hb⟩, hs, h3, h4, h5⟩ := h
  refine ⟨⟨cap, pr, hc, (Below.heap_alloc w o R hR).trans hb⟩, fun j v hv => ?_, h3, h4, h5⟩
  have := hs j v hv
  exact (World.cell?_of_block (w := w) (Below.heap_alloc w o A (World.block_lt_of_cell? w ⟨A, j, none⟩ this))).trans this
theorem Rd.ltA {w : World} {R A : Nat} {l : List UInt8} {i : Nat} (h : Rd w R A l i) (hi : 0 < l.length) : A < w.heap.size := by
  obtain ⟨b, t, rfl⟩ : ∃ b t, l = b :: t := by cases l with | nil => simp at hi | cons b t => exact ⟨b, t, rfl⟩
  exact World.block_lt_of_cell? w ⟨A, 0, none⟩ (h.src 0 (.int .u8 b.toNat) (by simp [Lib.byteCells]))

theorem reader_end (w : World) (R A : Nat) (l : List UInt8) (h : Rd w R A l l.length) (ev : Value) (hE : w.cell? ⟨0, 0, none⟩ = some ev) (dp : Option Addr) (n c : Nat) :
    Calls Tryz.prog 122 #[.pointer (some ⟨R, 0, none⟩), .slice dp n c] w fun e w' => e = .returned (.tuple #[.int .i64 0, ev]) ∧ Same w w' := by
  obtain ⟨cap, pr, hcap, hb⟩ := h.blk
  have hlen := h.len
  have c0 : w.cell? ⟨R, 0, none⟩ = some (.slice (some ⟨A, 0, none⟩) l.length cap) := blockCell hb 0
  have c1 : w.cell? ⟨R, 1, none⟩ = some (.int .i64 l.length) := blockCell hb 1
  clear hb h
  go_enter Tryz.func122, Tryz.ntmps122
  go_wp2
  go_quiet (fail)
  go_wp2
  go_quiet (fail)
  go_wp2
  go_ret2
  exact ⟨rfl, ((Same.refl w).drewN _).drewN _⟩

/-- What Read leaves. -/
theorem read_left (B k : Nat) (w : World) (R A : Nat) (l : List UInt8) (i m : Nat) (h : Rd w R A l i) (hi : i + m ≤ l.length) (g : Nat) (cur new : List Value) (hg : w.heap[g]? = some (.cells cur.toArray 5 (0, 0)))
    (hgB : B ≤ g) (hgR : g ≠ R) (hgA : g ≠ A) (w' : World)
    (hw : w' = ((((w.drewN k).setCell ⟨R, 2, none⟩ (.int .i64 (-1))).drew.setRow g new.toArray).setCell ⟨R, 1, none⟩ (.int .i64 ((i : Int) + (m : Int))))) :
    Keep B R w w' ∧ Rd w' R A l (i + m) ∧ w'.heap[g]? = some (.cells new.toArray 5 (0, 0)) ∧ w'.heap.size = w.heap.size := by
  subst hw
  obtain ⟨cap, pr, hcap, hb⟩ := h.blk
  refine ⟨?_, ⟨⟨cap, -1, hcap, ?_⟩, ?_, h.ne, hi, h.len⟩, ?_, ?_⟩
  · exact ((((Keep.refl B R w).drewN k).setCell (Or.inr rfl) _).drew.setRow (Or.inl hgB) _).setCell (Or.inr rfl) _
  · have e1 := blockSet (w := w.drewN k) (by exact hb) 2 (.int .i64 (-1))
    have e2 : (((w.drewN k).setCell ⟨R, 2, none⟩ (.int .i64 (-1))).drew.setRow g new.toArray).heap[R]? = _ := (setRow_other _ g R _ (fun e => hgR e.symm)).trans e1
    have e3 := blockSet e2 1 (.int .i64 ((i : Int) + (m : Int)))
    rw [e3]; simp
  · intro j v hv
    refine (World.cell?_of_block (Below.heap_setCell _ _ _ _ h.ne)).trans ?_
    refine (cell_setRow _ (fun e => hgA e.symm)).trans ?_
    refine (World.cell?_of_block (Below.heap_setCell _ _ _ _ h.ne)).trans ?_
    exact h.src j v hv
  · rw [Below.heap_setCell _ _ _ _ hgR]
    exact setRow_heap _ g cur.toArray _ 5 (0, 0) (by show ((w.drewN k).setCell ⟨R, 2, none⟩ _).heap[g]? = _; rw [Below.heap_setCell _ _ _ _ hgR]; exact hg)
  · simp [World.setCell, World.setRow]

theorem reader_some (B : Nat) (w : World) (R A : Nat) (l : List UInt8) (i : Nat) (h : Rd w R A l i) (hi : i < l.length) (_hB : B ≤ w.heap.size) (g off n c : Nat) (cur : List Value) (hg : w.heap[g]? = some (.cells cur.toArray 5 (0, 0)))
    (hgB : B ≤ g) (hgR : g ≠ R) (hgA : g ≠ A) (hfit : off + n ≤ cur.length) :
    Calls Tryz.prog 122 #[.pointer (some ⟨R, 0, none⟩), .slice (some ⟨g, off, none⟩) n c] w fun e w' =>
      e = .returned (.tuple #[.int .i64 (min n (l.length - i) : Nat), .nilIface]) ∧ Keep B R w w' ∧ Rd w' R A l (i + min n (l.length - i)) ∧
      w'.heap[g]? = some (.cells (splice cur off (Lib.byteCells ((l.drop i).take n))).toArray 5 (0, 0)) ∧ w'.heap.size = w.heap.size := by
  obtain ⟨cap, pr, hcap, hb⟩ := h.blk
  have hlen := h.len
  have c0 : w.cell? ⟨R, 0, none⟩ = some (.slice (some ⟨A, 0, none⟩) l.length cap) := blockCell hb 0
  have c1 : w.cell? ⟨R, 1, none⟩ = some (.int .i64 i) := blockCell hb 1
  have c2 : w.cell? ⟨R, 2, none⟩ = some (.int .i64 pr) := blockCell hb 2
  have f2 : w.frozen? ⟨R, 2, none⟩ = false := blockFrozen hb 2
  have f1 : w.frozen? ⟨R, 1, none⟩ = false := blockFrozen hb 1
  have hle : i ≤ l.length := by omega
  have hne : ¬ cap = i := by omega
  have H1 : ∀ (k : Nat) (u : Value), (((w.drewN k).setCell ⟨R, 2, none⟩ u).drew).heap[g]? = some (.cells cur.toArray 5 (0, 0)) := fun k u => by
    show ((w.drewN k).setCell ⟨R, 2, none⟩ u).heap[g]? = _
    rw [Below.heap_setCell _ _ _ _ hgR]; exact hg
  have H2 : ∀ (k : Nat) (u : Value) (j : Nat) (v : Value), (Lib.byteCells ((l.drop i).take n))[j]? = some v → (((w.drewN k).setCell ⟨R, 2, none⟩ u).drew).cell? ((⟨A, i, none⟩ : Addr).add j) = some v := fun k u j v hv => by
    rw [Lib.addr_add]
    show ((w.drewN k).setCell ⟨R, 2, none⟩ u).cell? _ = _
    refine (World.cell?_of_block (Below.heap_setCell _ _ _ _ h.ne)).trans ?_
    refine h.src (i + j) v ?_
    simp only [Lib.byteCells, List.getElem?_map, List.getElem?_take, List.getElem?_drop] at hv ⊢
    split at hv <;> simp_all
  have H3 : (Lib.byteCells ((l.drop i).take n)).length = Nat.min (l.length - i) n := by
    show _ = min _ _
    simp only [Lib.byteCells_length, List.length_take, List.length_drop]; omega
  have HF : off + (Lib.byteCells ((l.drop i).take n)).length ≤ cur.length := by rw [H3]; have : Nat.min (l.length - i) n ≤ n := Nat.min_le_right _ _; omega
  have HO : ∀ v ∈ Lib.byteCells ((l.drop i).take n), v.oneCell' = true := Lib.byteCells_one _
  have HL : (Lib.byteCells ((l.drop i).take n)).length ≤ l.length - i := by simp only [Lib.byteCells_length, List.length_take, List.length_drop]; omega
  have S1 : ∀ (W : World) (X : Array Value) (j : Nat), (W.setRow g X).cell? ⟨R, j, none⟩ = W.cell? ⟨R, j, none⟩ := fun W X j => cell_setRow X (fun e => hgR e.symm)
  have S2 : ∀ (W : World) (X : Array Value) (j : Nat), (W.setRow g X).frozen? ⟨R, j, none⟩ = W.frozen? ⟨R, j, none⟩ := fun W X j => frozen_setRow X (fun e => hgR e.symm)
  have HH1 := Lib.hid H1
  have HH2 := Lib.hid H2
  have HH3 := Lib.hid H3
  clear H1 H2 H3
  go_enter Tryz.func122, Tryz.ntmps122
  go_wp2
  go_quiet (fail)
  go_wp2
  go_region_law (refine step_copy_set rfl (.tmp 20) (.tmp 29) 25 25 rfl 5 Tryz.underlying25 (by kernel_rfl) n c (l.length - i) (cap - i) g off ⟨A, i, none⟩ rfl rfl cur 5 (Lib.byteCells ((l.drop i).take n)) (HH1.out _ _) HH3.out (HH2.out _ _) HF HO ?_)
  go_wp2
  all_goals
    go_ret2
    have hm : (Lib.byteCells ((l.drop i).take n)).length = min n (l.length - i) := by rw [HH3.out]; exact Nat.min_comm _ _
    rw [hm]
    refine ⟨rfl, ?_⟩
    exact read_left B _ w R A l i (min n (l.length - i)) h (by omega) g cur (splice cur off (Lib.byteCells ((l.drop i).take n))) hg hgB hgR hgA _ rfl
end Go.Proofs.YtdfehaonngccjaaGreatDoor

