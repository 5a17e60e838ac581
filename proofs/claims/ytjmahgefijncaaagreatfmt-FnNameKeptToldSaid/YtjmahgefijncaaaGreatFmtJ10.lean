/- bytes.Buffer as a reader: Read, at the end and before it. (The same names as in Read1, where a bytes.Reader is read.) -/
import Derived.Test.YtjmahgefijncaaaGreatFmtProg
import Derived.Test.YtjmahgefijncaaaGreatFmtJ1
import Derived.Deep.QuietTactic
import Derived.BigQuiet
import Derived.RegionTactic
import Derived.Laws.CopyOwn
import Derived.Deep.RegionLaw
import Derived.Outline
set_option linter.unusedVariables false
set_option linter.unusedSimpArgs false
namespace Go.Proofs.YtjmahgefijncaaaGreatFmt
open Go Go.RowKit

/-- A bytes.Buffer in block R over the bytes l in block A, of which i are read; behind a Read at its end it is reset. -/
structure Rd (w : World) (R A : Nat) (l : List UInt8) (i : Nat) : Prop where
  blk : (∃ (cap : Nat) (pr : Int), l.length ≤ cap ∧ w.heap[R]? = some (.cells #[.slice (some ⟨A, 0, none⟩) l.length cap, .int .i64 i, .int .i8 pr] 183 (0, 0))) ∨
    (i = l.length ∧ ∃ (cap : Nat) (pr : Int), w.heap[R]? = some (.cells #[.slice (some ⟨A, 0, none⟩) 0 cap, .int .i64 0, .int .i8 pr] 183 (0, 0)))
  src : ∀ j v, (Lib.byteCells l)[j]? = some v → w.cell? ⟨A, j, none⟩ = some v
  ne : A ≠ R
  pos : i ≤ l.length
  len : l.length < 1000000000

theorem Rd.turn {w w' : World} {R A : Nat} {l : List UInt8} {i : Nat} (h : Rd w R A l i) (hR : w'.heap[R]? = w.heap[R]?) (hA : ∀ j v, w.cell? ⟨A, j, none⟩ = some v → w'.cell? ⟨A, j, none⟩ = some v) : Rd w' R A l i := by
  obtain ⟨hb, hs, h3, h4, h5⟩ := h
  refine ⟨?_, fun j v hv => hA j v (hs j v hv), h3, h4, h5⟩
  rcases hb with ⟨cap, pr, hc, hb⟩ | ⟨e, cap, pr, hb⟩
  · exact Or.inl ⟨cap, pr, hc, hR.trans hb⟩
  · exact Or.inr ⟨e, cap, pr, hR.trans hb⟩
theorem Rd.heap {w w' : World} {R A : Nat} {l : List UInt8} {i : Nat} (h : Rd w R A l i) (e : w'.heap = w.heap) : Rd w' R A l i :=
  h.turn (by rw [e]) fun j v hv => (World.cell?_of_block (w := w) (by rw [e])).trans hv
theorem Rd.drew {w : World} {R A : Nat} {l : List UInt8} {i : Nat} (h : Rd w R A l i) : Rd w.drew R A l i := h.heap rfl
theorem Rd.drewN {w : World} {R A : Nat} {l : List UInt8} {i : Nat} (h : Rd w R A l i) (n : Nat) : Rd (w.drewN n) R A l i := h.heap rfl
theorem Rd.lt {w : World} {R A : Nat} {l : List UInt8} {i : Nat} (h : Rd w R A l i) : R < w.heap.size := by
  rcases h.blk with ⟨_, _, _, hb⟩ | ⟨_, _, _, hb⟩ <;> exact blockLt hb
/-- What leaves the reader's block and its bytes alone keeps it. -/
theorem Rd.stays {w w' : World} {R A : Nat} {l : List UInt8} {i : Nat} (h : Rd w R A l i) (hR : w'.heap[R]? = w.heap[R]?) (hA : w'.heap[A]? = w.heap[A]?) : Rd w' R A l i :=
  h.turn hR fun j v hv => (World.cell?_of_block (w := w) hA).trans hv
theorem Rd.alloc {w : World} {R A : Nat} {l : List UInt8} {i : Nat} (h : Rd w R A l i) (o : Obj) : Rd (w.alloc o) R A l i :=
  h.turn (Below.heap_alloc w o R h.lt) fun j v hv => (World.cell?_of_block (w := w) (Below.heap_alloc w o A (World.block_lt_of_cell? w ⟨A, j, none⟩ hv))).trans hv
theorem Rd.ltA {w : World} {R A : Nat} {l : List UInt8} {i : Nat} (h : Rd w R A l i) (hi : 0 < l.length) : A < w.heap.size := by
  obtain ⟨b, t, rfl⟩ : ∃ b t, l = b :: t := by cases l with | nil => simp at hi | cons b t => exact ⟨b, t, rfl⟩
  exact World.block_lt_of_cell? w ⟨A, 0, none⟩ (h.src 0 (.int .u8 b.toNat) (by simp [Lib.byteCells]))

theorem empty_buf (w : World) (R A : Nat) (n cap i : Nat) (x : Value) (hb : w.heap[R]? = some (.cells #[.slice (some ⟨A, 0, none⟩) n cap, .int .i64 i, x] 183 (0, 0))) :
    Calls Tryz.prog 190 #[.pointer (some ⟨R, 0, none⟩)] w fun e w' => e = .returned (.bool (decide (n ≤ i))) ∧ ∃ k, w' = w.drewN k := by
  have c0 : w.cell? ⟨R, 0, none⟩ = some (.slice (some ⟨A, 0, none⟩) n cap) := blockCell hb 0
  have c1 : w.cell? ⟨R, 1, none⟩ = some (.int .i64 i) := blockCell hb 1
  clear hb
  go_enter Tryz.func190, Tryz.ntmps190
  go_wp2
  go_quiet (fail)
  go_wp2
  go_ret
  exact ⟨by simp, _, rfl⟩

theorem reset_buf (w : World) (R A : Nat) (n cap i : Nat) (pr : Int) (hcap : n ≤ cap) (hb : w.heap[R]? = some (.cells #[.slice (some ⟨A, 0, none⟩) n cap, .int .i64 i, .int .i8 pr] 183 (0, 0))) :
    Calls Tryz.prog 148 #[.pointer (some ⟨R, 0, none⟩)] w fun e w' => (∃ v, e = .returned v) ∧ Keep w.heap.size R w w' ∧ w'.heap[R]? = some (.cells #[.slice (some ⟨A, 0, none⟩) 0 cap, .int .i64 0, .int .i8 0] 183 (0, 0)) := by
  have c0 : w.cell? ⟨R, 0, none⟩ = some (.slice (some ⟨A, 0, none⟩) n cap) := blockCell hb 0
  have c1 : w.cell? ⟨R, 1, none⟩ = some (.int .i64 i) := blockCell hb 1
  have c2 : w.cell? ⟨R, 2, none⟩ = some (.int .i8 pr) := blockCell hb 2
  have f0 := blockFrozen hb 0
  have f1 := blockFrozen hb 1
  have f2 := blockFrozen hb 2
  have HB := Lib.hid hb
  clear hb
  go_enter Tryz.func148, Tryz.ntmps148
  go_wp2
  exact bodyPost_end (results_none (by rfl) _ _ _) rfl ⟨⟨_, rfl⟩, (((Keep.refl _ R w).setCell (Or.inr rfl) _).setCell (Or.inr rfl) _).setCell (Or.inr rfl) _, three_set HB.out _ _ _⟩

theorem reader_end (w : World) (R A : Nat) (l : List UInt8) (h : Rd w R A l l.length) (ev : Value) (hE : w.cell? ⟨2, 0, none⟩ = some ev) (hRE : R ≠ 2) (hEw : 2 < w.heap.size) (dp : Option Addr) (n c : Nat) (hn : 0 < n) :
    Calls Tryz.prog 189 #[.pointer (some ⟨R, 0, none⟩), .slice dp n c] w fun e w' => e = .returned (.tuple #[.int .i64 0, ev]) ∧ Keep w.heap.size R w w' ∧ Rd w' R A l l.length := by
  obtain ⟨m, cap, i, pr, hcap, hmi, hb⟩ : ∃ (m cap i : Nat) (pr : Int), m ≤ cap ∧ m ≤ i ∧ w.heap[R]? = some (.cells #[.slice (some ⟨A, 0, none⟩) m cap, .int .i64 i, .int .i8 pr] 183 (0, 0)) := by
    rcases h.blk with ⟨cap, pr, hc, hb⟩ | ⟨_, cap, pr, hb⟩
    · exact ⟨_, _, _, _, hc, Nat.le_refl _, hb⟩
    · exact ⟨0, cap, 0, _, Nat.zero_le _, Nat.le_refl _, hb⟩
  have c2 : w.cell? ⟨R, 2, none⟩ = some (.int .i8 pr) := blockCell hb 2
  have f2 := blockFrozen hb 2
  have hb1 : (w.setCell ⟨R, 2, none⟩ (.int .i8 0)).heap[R]? = some (.cells #[.slice (some ⟨A, 0, none⟩) m cap, .int .i64 i, .int .i8 0] 183 (0, 0)) := by simpa using blockSet hb 2 (.int .i8 0)
  have HE := Lib.hid (empty_buf _ R A m cap i _ hb1)
  rw [show decide (m ≤ i) = true by simpa using hmi] at HE
  have HRS := Lib.hid (fun k => reset_buf ((w.setCell ⟨R, 2, none⟩ (.int .i8 0)).drewN k) R A m cap i 0 hcap hb1)
  have hk1 : Keep w.heap.size R w (w.setCell ⟨R, 2, none⟩ (.int .i8 0)) := (Keep.refl _ R w).setCell (Or.inr rfl) _
  have q : decide ((n : Int) = 0) = false := by simp; omega
  have hn0 : n ≠ 0 := by omega
  have q2 : ((n : Int) == 0) = false := by rw [beq_eq_false_iff_ne]; omega
  have HH := Lib.hid h
  have HKK := Lib.hid hk1
  clear hb hb1 hk1 hmi h
  go_enter Tryz.func189, Tryz.ntmps189
  go_wp2_with fail
  refine HE.out.mono ?_
  rintro e w1 ⟨rfl, k, rfl⟩
  go_wp2_with fail
  refine (HRS.out k).mono ?_
  rintro e w2 ⟨⟨v, rfl⟩, hk2, hb2⟩
  have hk : Keep w.heap.size R w w2 := (HKK.out.drewN k).trans (hk2.mono (by simp [World.setCell]))
  have hE2 : w2.cell? ⟨2, 0, none⟩ = some ev := (hk.cell hEw (fun e => hRE e.symm)).trans hE
  have hrd : Rd w2 R A l l.length := ⟨Or.inr ⟨rfl, cap, 0, hb2⟩, fun j v hv => (hk.cell (World.block_lt_of_cell? w ⟨A, j, none⟩ (HH.out.src j v hv)) HH.out.ne).trans (HH.out.src j v hv), HH.out.ne, HH.out.pos, HH.out.len⟩
  have HF := Lib.hid (And.intro hk hrd)
  clear hk hrd hk2 hb2
  go_wp2_with fail
  go_quiet (fail)
  go_wp2_with fail
  go_ret2
  exact ⟨rfl, HF.out.1.drewN _, HF.out.2.drewN _⟩

/-- What Read leaves. -/
theorem read_left (B k : Nat) (w : World) (R A : Nat) (l : List UInt8) (i m : Nat) (h : Rd w R A l i) (hi : i + m ≤ l.length) (hil : i < l.length) (g : Nat) (cur new : List Value) (hg : w.heap[g]? = some (.cells cur.toArray 5 (0, 0)))
    (hgB : B ≤ g) (hgR : g ≠ R) (hgA : g ≠ A) (W w' : World)
    (hW : W = (((w.setCell ⟨R, 2, none⟩ (.int .i8 0)).drewN k).drew.setRow g new.toArray).setCell ⟨R, 1, none⟩ (.int .i64 ((i : Int) + (m : Int)))) (hw : w' = W ∨ w' = W.setCell ⟨R, 2, none⟩ (.int .i8 (-1))) :
    Keep B R w w' ∧ Rd w' R A l (i + m) ∧ w'.heap[g]? = some (.cells new.toArray 5 (0, 0)) ∧ w'.heap.size = w.heap.size := by
  obtain ⟨cap, pr, hcap, hb⟩ : ∃ (cap : Nat) (pr : Int), l.length ≤ cap ∧ w.heap[R]? = some (.cells #[.slice (some ⟨A, 0, none⟩) l.length cap, .int .i64 i, .int .i8 pr] 183 (0, 0)) := by
    rcases h.blk with hb | ⟨e, _⟩
    · exact hb
    · omega
  have hne := h.ne
  have hsrc := h.src
  have e1 := blockSet hb 2 (.int .i8 0)
  have e2 : (((w.setCell ⟨R, 2, none⟩ (.int .i8 0)).drewN k).drew.setRow g new.toArray).heap[R]? = _ := (setRow_other _ g R _ (fun e => hgR e.symm)).trans e1
  have e3 := blockSet e2 1 (.int .i64 ((i : Int) + (m : Int)))
  rw [← hW] at e3
  have hkW : Keep B R w W := by rw [hW]; exact ((((Keep.refl B R w).setCell (Or.inr rfl) _).drewN k).drew.setRow (Or.inl hgB) _).setCell (Or.inr rfl) _
  have hsW : W.heap.size = w.heap.size := by rw [hW]; simp [World.setCell, World.setRow]
  have hgW : W.heap[g]? = some (.cells new.toArray 5 (0, 0)) := by
    rw [hW, Below.heap_setCell _ _ _ _ hgR]
    exact setRow_heap _ g cur.toArray _ 5 (0, 0) (by show (w.setCell ⟨R, 2, none⟩ _).heap[g]? = _; rw [Below.heap_setCell _ _ _ _ hgR]; exact hg)
  have hAW : ∀ j v, (Lib.byteCells l)[j]? = some v → W.cell? ⟨A, j, none⟩ = some v := by
    intro j v hv
    rw [hW]
    refine (World.cell?_of_block (Below.heap_setCell _ _ _ _ hne)).trans ?_
    refine (cell_setRow _ (fun e => hgA e.symm)).trans ?_
    show (w.setCell ⟨R, 2, none⟩ _).cell? _ = _
    refine (World.cell?_of_block (Below.heap_setCell _ _ _ _ hne)).trans ?_
    exact hsrc j v hv
  clear hW
  have hlen := h.len
  rcases hw with rfl | rfl
  · exact ⟨hkW, ⟨Or.inl ⟨cap, 0, hcap, by rw [e3]; simp⟩, hAW, hne, hi, hlen⟩, hgW, hsW⟩
  · refine ⟨hkW.setCell (Or.inr rfl) _, ⟨Or.inl ⟨cap, -1, hcap, ?_⟩, fun j v hv => (World.cell?_of_block (Below.heap_setCell _ _ _ _ hne)).trans (hAW j v hv), hne, hi, hlen⟩, ?_, ?_⟩
    · rw [blockSet e3 2 (.int .i8 (-1))]; simp
    · rw [Below.heap_setCell _ _ _ _ hgR]; exact hgW
    · simp [World.setCell, hsW]

set_option maxRecDepth 100000 in
set_option maxHeartbeats 4000000 in
theorem reader_some (B : Nat) (w : World) (R A : Nat) (l : List UInt8) (i : Nat) (h : Rd w R A l i) (hi : i < l.length) (_hB : B ≤ w.heap.size) (g off n c : Nat) (cur : List Value) (hg : w.heap[g]? = some (.cells cur.toArray 5 (0, 0)))
    (hgB : B ≤ g) (hgR : g ≠ R) (hgA : g ≠ A) (hfit : off + n ≤ cur.length) :
    Calls Tryz.prog 189 #[.pointer (some ⟨R, 0, none⟩), .slice (some ⟨g, off, none⟩) n c] w fun e w' =>
      e = .returned (.tuple #[.int .i64 (min n (l.length - i) : Nat), .nilIface]) ∧ Keep B R w w' ∧ Rd w' R A l (i + min n (l.length - i)) ∧
      w'.heap[g]? = some (.cells (splice cur off (Lib.byteCells ((l.drop i).take n))).toArray 5 (0, 0)) ∧ w'.heap.size = w.heap.size := by
  obtain ⟨cap, pr, hcap, hb⟩ : ∃ (cap : Nat) (pr : Int), l.length ≤ cap ∧ w.heap[R]? = some (.cells #[.slice (some ⟨A, 0, none⟩) l.length cap, .int .i64 i, .int .i8 pr] 183 (0, 0)) := by
    rcases h.blk with hb | ⟨e, _⟩
    · exact hb
    · omega
  have hlen := h.len
  have c0 : w.cell? ⟨R, 0, none⟩ = some (.slice (some ⟨A, 0, none⟩) l.length cap) := blockCell hb 0
  have c1 : w.cell? ⟨R, 1, none⟩ = some (.int .i64 i) := blockCell hb 1
  have c2 : w.cell? ⟨R, 2, none⟩ = some (.int .i8 pr) := blockCell hb 2
  have f2 : w.frozen? ⟨R, 2, none⟩ = false := blockFrozen hb 2
  have f1 : w.frozen? ⟨R, 1, none⟩ = false := blockFrozen hb 1
  have hle : i ≤ l.length := by omega
  have hne : ¬ cap = i := by omega
  have hb1 : (w.setCell ⟨R, 2, none⟩ (.int .i8 0)).heap[R]? = some (.cells #[.slice (some ⟨A, 0, none⟩) l.length cap, .int .i64 i, .int .i8 0] 183 (0, 0)) := by simpa using blockSet hb 2 (.int .i8 0)
  have HE := Lib.hid (empty_buf _ R A l.length cap i _ hb1)
  rw [show decide (l.length ≤ i) = false by simpa using hi] at HE
  have H1 : ∀ (k : Nat) (u : Value), (((w.setCell ⟨R, 2, none⟩ u).drewN k).drew).heap[g]? = some (.cells cur.toArray 5 (0, 0)) := fun k u => by
    show (w.setCell ⟨R, 2, none⟩ u).heap[g]? = _
    rw [Below.heap_setCell _ _ _ _ hgR]; exact hg
  have H2 : ∀ (k : Nat) (u : Value) (j : Nat) (v : Value), (Lib.byteCells ((l.drop i).take n))[j]? = some v → (((w.setCell ⟨R, 2, none⟩ u).drewN k).drew).cell? ((⟨A, i, none⟩ : Addr).add j) = some v := fun k u j v hv => by
    rw [Lib.addr_add]
    show (w.setCell ⟨R, 2, none⟩ u).cell? _ = _
    refine (World.cell?_of_block (Below.heap_setCell _ _ _ _ h.ne)).trans ?_
    refine h.src (i + j) v ?_
    simp only [Lib.byteCells, List.getElem?_map, List.getElem?_take, List.getElem?_drop] at hv ⊢
    split at hv <;> simp_all
  have H3 : (Lib.byteCells ((l.drop i).take n)).length = Nat.min (l.length - i) n := by
    show _ = min _ _
    simp only [Lib.byteCells_length, List.length_take, List.length_drop]; omega
  have HF : off + (Lib.byteCells ((l.drop i).take n)).length ≤ cur.length := by rw [H3]; have : Nat.min (l.length - i) n ≤ n := Nat.min_le_right _ _; omega
  have HO : ∀ v ∈ Lib.byteCells ((l.drop i).take n), v.oneCell' = true := Lib.byteCells_one _
  have HL : (Lib.byteCells ((l.drop i).take n)).length ≤ l.length - i := by simp only [Lib.byteCells_length, List.length_take, List.length_drop]; omega
  have S1 : ∀ (W : World) (X : Array Value) (j : Nat), (W.setRow g X).cell? ⟨R, j, none⟩ = W.cell? ⟨R, j, none⟩ := fun W X j => cell_setRow X (fun e => hgR e.symm)
  have S2 : ∀ (W : World) (X : Array Value) (j : Nat), (W.setRow g X).frozen? ⟨R, j, none⟩ = W.frozen? ⟨R, j, none⟩ := fun W X j => frozen_setRow X (fun e => hgR e.symm)
  have hm : (Lib.byteCells ((l.drop i).take n)).length = min n (l.length - i) := by rw [H3]; exact Nat.min_comm _ _
  have HH1 := Lib.hid H1
  have HH2 := Lib.hid H2
  have HH3 := Lib.hid H3
  have HM := Lib.hid hm
  have HB := Lib.hid hb
  have HH := Lib.hid h
  have HG := Lib.hid hg
  clear H1 H2 H3 hb hb1 h hg hm
  go_enter Tryz.func189, Tryz.ntmps189
  go_wp2_with fail
  refine HE.out.mono ?_
  rintro e w1 ⟨rfl, k, rfl⟩
  go_wp2_with fail
  go_region_law (refine step_copy_set rfl (.tmp 17) (.tmp 26) 51 51 rfl 5 Tryz.underlying51 (by kernel_rfl) n c (l.length - i) (cap - i) g off ⟨A, i, none⟩ rfl rfl cur 5 (Lib.byteCells ((l.drop i).take n)) (HH1.out _ _) HH3.out (HH2.out _ _) HF HO ?_)
  go_wp2_with fail
  all_goals
    go_ret2
    rw [HM.out]
    refine ⟨rfl, ?_⟩
    first
    | exact read_left B _ w R A l i (min n (l.length - i)) HH.out (by omega) hi g cur (splice cur off (Lib.byteCells ((l.drop i).take n))) HG.out hgB hgR hgA _ _ rfl (Or.inl rfl)
    | exact read_left B _ w R A l i (min n (l.length - i)) HH.out (by omega) hi g cur (splice cur off (Lib.byteCells ((l.drop i).take n))) HG.out hgB hgR hgA _ _ rfl (Or.inr rfl)
end Go.Proofs.YtjmahgefijncaaaGreatFmt

