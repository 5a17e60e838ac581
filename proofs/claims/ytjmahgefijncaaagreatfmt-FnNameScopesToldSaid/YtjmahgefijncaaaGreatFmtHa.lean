/- bytes.Buffer as a reader: Read, at the end and before it. (The same names as in Read1, where a bytes.Reader is read.) -/
import Derived.Test.YtjmahgefijncaaaGreatFmtProg
import Derived.Test.YtjmahgefijncaaaGreatFmtKeep
import Derived.Deep.QuietTactic
import Derived.BigQuiet
import Derived.RegionTactic
import Derived.Laws.CopyOwn
import Derived.Deep.RegionLaw
import Derived.Outline
import Derived.Deep.RegionWith
import Derived.Deep.RegionHeld3
import Derived.LaidEql
import Derived.Test.YtjmahgefijncaaaGreatFmtBits
set_option linter.unusedVariables false
set_option linter.unusedSimpArgs false
namespace Go.Proofs.YtjmahgefijncaaaGreatFmt
open Go Go.RowKit

/-- A bytes.Buffer in block R over the bytes l in block A, of which i are read; behind a Read at its end it is reset. -/
structure Rd (w : World) (R A : Nat) (l : List UInt8) (i : Nat) : Prop where
  blk : (∃ (cap : Nat) (pr : Int), l.length ≤ cap ∧ w.heap[R]? = some (.cells #[.slice (some ⟨A, 0, none⟩) l.length cap, .int .i64 i, .int .i8 pr] 183 (0, 0))) ∨
    (i = l.length ∧ ∃ (cap : Nat) (pr : Int), w.heap[R]? = some (.cells #[.slice (some ⟨A, 0, none⟩) 0 cap, .int .i64 0, .int .i8 pr] 183 (0, 0)))
  src : ∀ j v, (Lib.byteCells l)[j]? = some v → w.cell? ⟨A, j, none⟩ = some v
  ne : A ≠ R
  pos : i ≤ l.length
  len : l.length < 1000000000

theorem Rd.turn {w w' : World} {R A : Nat} {l : List UInt8} {i : Nat} (h : Rd w R A l i) (hR : w'.heap[R]? = w.heap[R]?) (hA : ∀ j v, w.cell? ⟨A, j, none⟩ = some v → w'.cell? ⟨A, j, none⟩ = some v) : Rd w' R A l i := by
  obtain ⟨hb, hs, h3, h4, h5⟩ := h
  refine ⟨?_, fun j v hv => hA j v (hs j v hv), h3, h4, h5⟩
  rcases hb with ⟨cap, pr, hc, hb⟩ | ⟨e, cap, pr, hb⟩
  · exact Or.inl ⟨cap, pr, hc, hR.trans hb⟩
  · exact Or.inr ⟨e, cap, pr, hR.trans hb⟩
theorem Rd.heap {w w' : World} {R A : Nat} {l : List UInt8} {i : Nat} (h : Rd w R A l i) (e : w'.heap = w.heap) : Rd w' R A l i :=
  h.turn (by rw [e]) fun j v hv => (World.cell?_of_block (w := w) (by rw [e])).trans hv
theorem Rd.drew {w : World} {R A : Nat} {l : List UInt8} {i : Nat} (h : Rd w R A l i) : Rd w.drew R A l i := h.heap rfl
theorem Rd.drewN {w : World} {R A : Nat} {l : List UInt8} {i : Nat} (h : Rd w R A l i) (n : Nat) : Rd (w.drewN n) R A l i := h.heap rfl
theorem Rd.lt {w : World} {R A : Nat} {l : List UInt8} {i : Nat} (h : Rd w R A l i) : R < w.heap.size := by
  rcases h.blk with ⟨_, _, _, hb⟩ | ⟨_, _, _, hb⟩ <;> exact blockLt hb
/-- What leaves the reader's block and its bytes alone keeps it. -/
theorem Rd.stays {w w' : World} {R A : Nat} {l : List UInt8} {i : Nat} (h : Rd w R A l i) (hR : w'.heap[R]? = w.heap[R]?) (hA : w'.heap[A]? = w.heap[A]?) : Rd w' R A l i :=
  h.turn hR fun j v hv => (World.cell?_of_block (w := w) hA).trans hv
theorem Rd.alloc {w : World} {R A : Nat} {l : List UInt8} {i : Nat} (h : Rd w R A l i) (o : Obj) : Rd (w.alloc o) R A l i :=
  h.turn (Below.heap_alloc w o R h.lt) fun j v hv => (World.cell?_of_block (w := w) (Below.heap_alloc w o A (World.block_lt_of_cell? w ⟨A, j, none⟩ hv))).trans hv
theorem Rd.ltA {w : World} {R A : Nat} {l : List UInt8} {i : Nat} (h : Rd w R A l i) (hi : 0 < l.length) : A < w.heap.size := by
  obtain ⟨b, t, rfl⟩ : ∃ b t, l = b :: t := by cases l with | nil => simp at hi | cons b t => exact ⟨b, t, rfl⟩
  exact World.block_lt_of_cell? w ⟨A, 0, none⟩ (h.src 0 (.int .u8 b.toNat) (by simp [Lib.byteCells]))

theorem empty_buf (w : World) (R A : Nat) (n cap i : Nat) (x : Value) (hb : w.heap[R]? = some (.cells #[.slice (some ⟨A, 0, none⟩) n cap, .int .i64 i, x] 183 (0, 0))) :
    Calls Tryz.prog 190 #[.pointer (some ⟨R, 0, none⟩)] w fun e w' => e = .returned (.bool (decide (n ≤ i))) ∧ ∃ k, w' = w.drewN k := by
  have c0 : w.cell? ⟨R, 0, none⟩ = some (.slice (some ⟨A, 0, none⟩) n cap) := blockCell hb 0
  have c1 : w.cell? ⟨R, 1, none⟩ = some (.int .i64 i) := blockCell hb 1
  clear hb
  go_enter Tryz.func190, Tryz.ntmps190
  go_wp2
  go_quiet (fail)
  go_wp2
  go_ret
  exact ⟨by simp, _, rfl⟩

theorem reset_buf (w : World) (R A : Nat) (n cap i : Nat) (pr : Int) (hcap : n ≤ cap) (hb : w.heap[R]? = some (.cells #[.slice (some ⟨A, 0, none⟩) n cap, .int .i64 i, .int .i8 pr] 183 (0, 0))) :
    Calls Tryz.prog 148 #[.pointer (some ⟨R, 0, none⟩)] w fun e w' => (∃ v, e = .returned v) ∧ Keep w.heap.size R w w' ∧ w'.heap[R]? = some (.cells #[.slice (some ⟨A, 0, none⟩) 0 cap, .int .i64 0, .int .i8 0] 183 (0, 0)) := by
  have c0 : w.cell? ⟨R, 0, none⟩ = some (.slice (some ⟨A, 0, none⟩) n cap) := blockCell hb 0
  have c1 : w.cell? ⟨R, 1, none⟩ = some (.int .i64 i) := blockCell hb 1
  have c2 : w.cell? ⟨R, 2, none⟩ = some (.int .i8 pr) := blockCell hb 2
  have f0 := blockFrozen hb 0
  have f1 := blockFrozen hb 1
  have f2 := blockFrozen hb 2
  have HB := Lib.hid hb
  clear hb
  go_enter Tryz.func148, Tryz.ntmps148
  go_wp2
  exact bodyPost_end (results_none (by rfl) _ _ _) rfl ⟨⟨_, rfl⟩, (((Keep.refl _ R w).setCell (Or.inr rfl) _).setCell (Or.inr rfl) _).setCell (Or.inr rfl) _, three_set HB.out _ _ _⟩

theorem reader_end (w : World) (R A : Nat) (l : List UInt8) (h : Rd w R A l l.length) (ev : Value) (hE : w.cell? ⟨2, 0, none⟩ = some ev) (hRE : R ≠ 2) (hEw : 2 < w.heap.size) (dp : Option Addr) (n c : Nat) (hn : 0 < n) :
    Calls Tryz.prog 189 #[.pointer (some ⟨R, 0, none⟩), .slice dp n c] w fun e w' => e = .returned (.tuple #[.int .i64 0, ev]) ∧ Keep w.heap.size R w w' ∧ Rd w' R A l l.length := by
  obtain ⟨m, cap, i, pr, hcap, hmi, hb⟩ : ∃ (m cap i : Nat) (pr : Int), m ≤ cap ∧ m ≤ i ∧ w.heap[R]? = some (.cells #[.slice (some ⟨A, 0, none⟩) m cap, .int .i64 i, .int .i8 pr] 183 (0, 0)) := by
    rcases h.blk with ⟨cap, pr, hc, hb⟩ | ⟨_, cap, pr, hb⟩
    · exact ⟨_, _, _, _, hc, Nat.le_refl _, hb⟩
    · exact ⟨0, cap, 0, _, Nat.zero_le _, Nat.le_refl _, hb⟩
  have c2 : w.cell? ⟨R, 2, none⟩ = some (.int .i8 pr) := blockCell hb 2
  have f2 := blockFrozen hb 2
  have hb1 : (w.setCell ⟨R, 2, none⟩ (.int .i8 0)).heap[R]? = some (.cells #[.slice (some ⟨A, 0, none⟩) m cap, .int .i64 i, .int .i8 0] 183 (0, 0)) := by simpa using blockSet hb 2 (.int .i8 0)
  have HE := Lib.hid (empty_buf _ R A m cap i _ hb1)
  rw [show decide (m ≤ i) = true by simpa using hmi] at HE
  have HRS := Lib.hid (fun k => reset_buf ((w.setCell ⟨R, 2, none⟩ (.int .i8 0)).drewN k) R A m cap i 0 hcap hb1)
  have hk1 : Keep w.heap.size R w (w.setCell ⟨R, 2, none⟩ (.int .i8 0)) := (Keep.refl _ R w).setCell (Or.inr rfl) _
  have q : decide ((n : Int) = 0) = false := by simp; omega
  have hn0 : n ≠ 0 := by omega
  have q2 : ((n : Int) == 0) = false := by rw [beq_eq_false_iff_ne]; omega
  have HH := Lib.hid h
  have HKK := Lib.hid hk1
  clear hb hb1 hk1 hmi h
  go_enter Tryz.func189, Tryz.ntmps189
  go_wp2_with fail
  refine HE.out.mono ?_
  rintro e w1 ⟨rfl, k, rfl⟩
  go_wp2_with fail
  refine (HRS.out k).mono ?_
  rintro e w2 ⟨⟨v, rfl⟩, hk2, hb2⟩
  have hk : Keep w.heap.size R w w2 := (HKK.out.drewN k).trans (hk2.mono (by simp [World.setCell]))
  have hE2 : w2.cell? ⟨2, 0, none⟩ = some ev := (hk.cell hEw (fun e => hRE e.symm)).trans hE
  have hrd : Rd w2 R A l l.length := ⟨Or.inr ⟨rfl, cap, 0, hb2⟩, fun j v hv => (hk.cell (World.block_lt_of_cell? w ⟨A, j, none⟩ (HH.out.src j v hv)) HH.out.ne).trans (HH.out.src j v hv), HH.out.ne, HH.out.pos, HH.out.len⟩
  have HF := Lib.hid (And.intro hk hrd)
  clear hk hrd hk2 hb2
  go_wp2_with fail
  go_quiet (fail)
  go_wp2_with fail
  go_ret2
  exact ⟨rfl, HF.out.1.drewN _, HF.out.2.drewN _⟩

/-- What Read leaves. -/
theorem read_left (B k : Nat) (w : World) (R A : Nat) (l : List UInt8) (i m : Nat) (h : Rd w R A l i) (hi : i + m ≤ l.length) (hil : i < l.length) (g : Nat) (cur new : List Value) (hg : w.heap[g]? = some (.cells cur.toArray 5 (0, 0)))
    (hgB : B ≤ g) (hgR : g ≠ R) (hgA : g ≠ A) (W w' : World)
    (hW : W = (((w.setCell ⟨R, 2, none⟩ (.int .i8 0)).drewN k).drew.setRow g new.toArray).setCell ⟨R, 1, none⟩ (.int .i64 ((i : Int) + (m : Int)))) (hw : w' = W ∨ w' = W.setCell ⟨R, 2, none⟩ (.int .i8 (-1))) :
    Keep B R w w' ∧ Rd w' R A l (i + m) ∧ w'.heap[g]? = some (.cells new.toArray 5 (0, 0)) ∧ w'.heap.size = w.heap.size := by
  obtain ⟨cap, pr, hcap, hb⟩ : ∃ (cap : Nat) (pr : Int), l.length ≤ cap ∧ w.heap[R]? = some (.cells #[.slice (some ⟨A, 0, none⟩) l.length cap, .int .i64 i, .int .i8 pr] 183 (0, 0)) := by
    rcases h.blk with hb | ⟨e, _⟩
    · exact hb
    · omega
  have hne := h.ne
  have hsrc := h.src
  have e1 := blockSet hb 2 (.int .i8 0)
  have e2 : (((w.setCell ⟨R, 2, none⟩ (.int .i8 0)).drewN k).drew.setRow g new.toArray).heap[R]? = _ := (setRow_other _ g R _ (fun e => hgR e.symm)).trans e1
  have e3 := blockSet e2 1 (.int .i64 ((i : Int) + (m : Int)))
  rw [← hW] at e3
  have hkW : Keep B R w W := by rw [hW]; exact ((((Keep.refl B R w).setCell (Or.inr rfl) _).drewN k).drew.setRow (Or.inl hgB) _).setCell (Or.inr rfl) _
  have hsW : W.heap.size = w.heap.size := by rw [hW]; simp [World.setCell, World.setRow]
  have hgW : W.heap[g]? = some (.cells new.toArray 5 (0, 0)) := by
    rw [hW, Below.heap_setCell _ _ _ _ hgR]
    exact setRow_heap _ g cur.toArray _ 5 (0, 0) (by show (w.setCell ⟨R, 2, none⟩ _).heap[g]? = _; rw [Below.heap_setCell _ _ _ _ hgR]; exact hg)
  have hAW : ∀ j v, (Lib.byteCells l)[j]? = some v → W.cell? ⟨A, j, none⟩ = some v := by
    intro j v hv
    rw [hW]
    refine (World.cell?_of_block (Below.heap_setCell _ _ _ _ hne)).trans ?_
    refine (cell_setRow _ (fun e => hgA e.symm)).trans ?_
    show (w.setCell ⟨R, 2, none⟩ _).cell? _ = _
    refine (World.cell?_of_block (Below.heap_setCell _ _ _ _ hne)).trans ?_
    exact hsrc j v hv
  clear hW
  have hlen := h.len
  rcases hw with rfl | rfl
  · exact ⟨hkW, ⟨Or.inl ⟨cap, 0, hcap, by rw [e3]; simp⟩, hAW, hne, hi, hlen⟩, hgW, hsW⟩
  · refine ⟨hkW.setCell (Or.inr rfl) _, ⟨Or.inl ⟨cap, -1, hcap, ?_⟩, fun j v hv => (World.cell?_of_block (Below.heap_setCell _ _ _ _ hne)).trans (hAW j v hv), hne, hi, hlen⟩, ?_, ?_⟩
    · rw [blockSet e3 2 (.int .i8 (-1))]; simp
    · rw [Below.heap_setCell _ _ _ _ hgR]; exact hgW
    · simp [World.setCell, hsW]

set_option maxRecDepth 100000 in
set_option maxHeartbeats 4000000 in
theorem reader_some (B : Nat) (w : World) (R A : Nat) (l : List UInt8) (i : Nat) (h : Rd w R A l i) (hi : i < l.length) (_hB : B ≤ w.heap.size) (g off n c : Nat) (cur : List Value) (hg : w.heap[g]? = some (.cells cur.toArray 5 (0, 0)))
    (hgB : B ≤ g) (hgR : g ≠ R) (hgA : g ≠ A) (hfit : off + n ≤ cur.length) :
    Calls Tryz.prog 189 #[.pointer (some ⟨R, 0, none⟩), .slice (some ⟨g, off, none⟩) n c] w fun e w' =>
      e = .returned (.tuple #[.int .i64 (min n (l.length - i) : Nat), .nilIface]) ∧ Keep B R w w' ∧ Rd w' R A l (i + min n (l.length - i)) ∧
      w'.heap[g]? = some (.cells (splice cur off (Lib.byteCells ((l.drop i).take n))).toArray 5 (0, 0)) ∧ w'.heap.size = w.heap.size := by
  obtain ⟨cap, pr, hcap, hb⟩ : ∃ (cap : Nat) (pr : Int), l.length ≤ cap ∧ w.heap[R]? = some (.cells #[.slice (some ⟨A, 0, none⟩) l.length cap, .int .i64 i, .int .i8 pr] 183 (0, 0)) := by
    rcases h.blk with hb | ⟨e, _⟩
    · exact hb
    · omega
  have hlen := h.len
  have c0 : w.cell? ⟨R, 0, none⟩ = some (.slice (some ⟨A, 0, none⟩) l.length cap) := blockCell hb 0
  have c1 : w.cell? ⟨R, 1, none⟩ = some (.int .i64 i) := blockCell hb 1
  have c2 : w.cell? ⟨R, 2, none⟩ = some (.int .i8 pr) := blockCell hb 2
  have f2 : w.frozen? ⟨R, 2, none⟩ = false := blockFrozen hb 2
  have f1 : w.frozen? ⟨R, 1, none⟩ = false := blockFrozen hb 1
  have hle : i ≤ l.length := by omega
  have hne : ¬ cap = i := by omega
  have hb1 : (w.setCell ⟨R, 2, none⟩ (.int .i8 0)).heap[R]? = some (.cells #[.slice (some ⟨A, 0, none⟩) l.length cap, .int .i64 i, .int .i8 0] 183 (0, 0)) := by simpa using blockSet hb 2 (.int .i8 0)
  have HE := Lib.hid (empty_buf _ R A l.length cap i _ hb1)
  rw [show decide (l.length ≤ i) = false by simpa using hi] at HE
  have H1 : ∀ (k : Nat) (u : Value), (((w.setCell ⟨R, 2, none⟩ u).drewN k).drew).heap[g]? = some (.cells cur.toArray 5 (0, 0)) := fun k u => by
    show (w.setCell ⟨R, 2, none⟩ u).heap[g]? = _
    rw [Below.heap_setCell _ _ _ _ hgR]; exact hg
  have H2 : ∀ (k : Nat) (u : Value) (j : Nat) (v : Value), (Lib.byteCells ((l.drop i).take n))[j]? = some v → (((w.setCell ⟨R, 2, none⟩ u).drewN k).drew).cell? ((⟨A, i, none⟩ : Addr).add j) = some v := fun k u j v hv => by
    rw [Lib.addr_add]
    show (w.setCell ⟨R, 2, none⟩ u).cell? _ = _
    refine (World.cell?_of_block (Below.heap_setCell _ _ _ _ h.ne)).trans ?_
    refine h.src (i + j) v ?_
    simp only [Lib.byteCells, List.getElem?_map, List.getElem?_take, List.getElem?_drop] at hv ⊢
    split at hv <;> simp_all
  have H3 : (Lib.byteCells ((l.drop i).take n)).length = Nat.min (l.length - i) n := by
    show _ = min _ _
    simp only [Lib.byteCells_length, List.length_take, List.length_drop]; omega
  have HF : off + (Lib.byteCells ((l.drop i).take n)).length ≤ cur.length := by rw [H3]; have : Nat.min (l.length - i) n ≤ n := Nat.min_le_right _ _; omega
  have HO : ∀ v ∈ Lib.byteCells ((l.drop i).take n), v.oneCell' = true := Lib.byteCells_one _
  have HL : (Lib.byteCells ((l.drop i).take n)).length ≤ l.length - i := by simp only [Lib.byteCells_length, List.length_take, List.length_drop]; omega
  have S1 : ∀ (W : World) (X : Array Value) (j : Nat), (W.setRow g X).cell? ⟨R, j, none⟩ = W.cell? ⟨R, j, none⟩ := fun W X j => cell_setRow X (fun e => hgR e.symm)
  have S2 : ∀ (W : World) (X : Array Value) (j : Nat), (W.setRow g X).frozen? ⟨R, j, none⟩ = W.frozen? ⟨R, j, none⟩ := fun W X j => frozen_setRow X (fun e => hgR e.symm)
  have hm : (Lib.byteCells ((l.drop i).take n)).length = min n (l.length - i) := by rw [H3]; exact Nat.min_comm _ _
  have HH1 := Lib.hid H1
  have HH2 := Lib.hid H2
  have HH3 := Lib.hid H3
  have HM := Lib.hid hm
  have HB := Lib.hid hb
  have HH := Lib.hid h
  have HG := Lib.hid hg
  clear H1 H2 H3 hb hb1 h hg hm
  go_enter Tryz.func189, Tryz.ntmps189
  go_wp2_with fail
  refine HE.out.mono ?_
  rintro e w1 ⟨rfl, k, rfl⟩
  go_wp2_with fail
  go_region_law (refine step_copy_set rfl (.tmp 17) (.tmp 26) 51 51 rfl 5 Tryz.underlying51 (by kernel_rfl) n c (l.length - i) (cap - i) g off ⟨A, i, none⟩ rfl rfl cur 5 (Lib.byteCells ((l.drop i).take n)) (HH1.out _ _) HH3.out (HH2.out _ _) HF HO ?_)
  go_wp2_with fail
  all_goals
    go_ret2
    rw [HM.out]
    refine ⟨rfl, ?_⟩
    first
    | exact read_left B _ w R A l i (min n (l.length - i)) HH.out (by omega) hi g cur (splice cur off (Lib.byteCells ((l.drop i).take n))) HG.out hgB hgR hgA _ _ rfl (Or.inl rfl)
    | exact read_left B _ w R A l i (min n (l.length - i)) HH.out (by omega) hi g cur (splice cur off (Lib.byteCells ((l.drop i).take n))) HG.out hgB hgR hgA _ _ rfl (Or.inr rfl)
end Go.Proofs.YtjmahgefijncaaaGreatFmt

/- io.ReadAtLeast and readByte over a bytes.Reader. -/
namespace Go.Proofs.YtjmahgefijncaaaGreatFmt
open Go Go.RowKit

theorem nil_ahead_reader (a : Addr) (w : World) : (nilAhead 371 157 (.pointer (some a)) "Read").run Tryz.prog w = .ok (some false) w := by kernel_rfl
theorem method_reader (a : Addr) (w : World) : (method 371 157 (.pointer (some a)) "Read").run Tryz.prog w = .ok (189, .pointer (some a)) w := by kernel_rfl

set_option maxRecDepth 100000 in
theorem atLeast_end (w : World) (R A : Nat) (l : List UInt8) (h : Rd w R A l l.length) (hRE : 2 < R) (te : TypeId) (pe : Addr) (hE : w.cell? ⟨2, 0, none⟩ = some (.iface te (.pointer (some pe)))) (g c : Nat) :
    Calls Tryz.prog 158 #[.iface 157 (.pointer (some ⟨R, 0, none⟩)), .slice (some ⟨g, 0, none⟩) 1 c, .int .i64 1] w fun e w' => e = .returned (.tuple #[.int .i64 0, .iface te (.pointer (some pe))]) ∧ Keep w.heap.size R w w' ∧ Rd w' R A l l.length := by
  have hlt : 2 < w.heap.size := by have := h.lt; omega
  have hne : R ≠ 2 := by omega
  have hna := nil_ahead_reader
  have hme := method_reader
  go_enter Tryz.func158, Tryz.ntmps158
  go_wp2
  refine wp_loop_rounds 2 ?_
  rw [rounds_succ]
  go_wp2
  go_region_with ((go_at_call 189; refine (reader_end _ R A l h.drew _ hE hne hlt _ _ _ (by omega)).mono ?_; rintro e w1 ⟨rfl, hk, hr⟩))
  have hE1 : w1.cell? ⟨2, 0, none⟩ = some (.iface te (.pointer (some pe))) := (hk.cell hlt (fun e => hne e.symm)).trans hE
  go_wp2
  try rw [rounds_succ]
  go_wp2
  go_ret2
  exact ⟨rfl, ((Keep.refl _ R w).drew).trans hk, hr⟩

set_option maxRecDepth 100000 in
theorem atLeast_one (B : Nat) (w : World) (R A : Nat) (l : List UInt8) (i : Nat) (h : Rd w R A l i) (hi : i < l.length) (hB : B ≤ w.heap.size) (g : Nat) (x : Value) (hg : w.heap[g]? = some (.cells #[x] 5 (0, 0)))
    (hgB : B ≤ g) (hgR : g ≠ R) (hgA : g ≠ A) (c : Nat) :
    Calls Tryz.prog 158 #[.iface 157 (.pointer (some ⟨R, 0, none⟩)), .slice (some ⟨g, 0, none⟩) 1 c, .int .i64 1] w fun e w' =>
      e = .returned (.tuple #[.int .i64 1, .nilIface]) ∧ Keep B R w w' ∧ Rd w' R A l (i + 1) ∧ w'.heap[g]? = some (.cells #[.int .u8 (l[i]).toNat] 5 (0, 0)) ∧ w'.heap.size = w.heap.size := by
  have hna := nil_ahead_reader
  have hme := method_reader
  have hx : splice [x] 0 (Lib.byteCells ((l.drop i).take 1)) = [.int .u8 (l[i]).toNat] := by
    have : (l.drop i).take 1 = [l[i]] := by rw [List.drop_eq_getElem_cons hi]; rfl
    rw [this]; simp [splice, Lib.byteCells]
  have HX := Lib.hid hx
  clear hx
  go_enter Tryz.func158, Tryz.ntmps158
  go_wp2
  refine wp_loop_rounds 2 ?_
  rw [rounds_succ]
  go_wp2
  go_region_with ((go_at_call 189; refine (reader_some B _ R A l i h.drew hi hB g 0 1 c [x] hg hgB hgR hgA (by simp)).mono ?_; rintro e w1 ⟨rfl, hk, hr, hc, hz⟩; rw [show min 1 (l.length - i) = 1 by omega]))
  go_wp2
  try rw [rounds_succ]
  go_wp2
  go_ret2
  rw [show min 1 (l.length - i) = 1 by omega] at hr
  rw [HX.out] at hc
  exact ⟨rfl, ((Keep.refl B R w).drew).trans hk, hr, hc, hz⟩

theorem full_end (w : World) (R A : Nat) (l : List UInt8) (h : Rd w R A l l.length) (hRE : 2 < R) (te : TypeId) (pe : Addr) (hE : w.cell? ⟨2, 0, none⟩ = some (.iface te (.pointer (some pe)))) (g c : Nat) :
    Calls Tryz.prog 152 #[.iface 157 (.pointer (some ⟨R, 0, none⟩)), .slice (some ⟨g, 0, none⟩) 1 c] w fun e w' => e = .returned (.tuple #[.int .i64 0, .iface te (.pointer (some pe))]) ∧ Keep w.heap.size R w w' ∧ Rd w' R A l l.length := by
  go_enter Tryz.func152, Tryz.ntmps152
  go_wp2_with (go_at_call 158; refine (atLeast_end _ R A l h hRE _ _ hE _ _).mono ?_; rintro e w1 ⟨rfl, hk, hr⟩)
  go_ret2
  exact ⟨rfl, hk, hr⟩

theorem full_one (B : Nat) (w : World) (R A : Nat) (l : List UInt8) (i : Nat) (h : Rd w R A l i) (hi : i < l.length) (hB : B ≤ w.heap.size) (g : Nat) (x : Value) (hg : w.heap[g]? = some (.cells #[x] 5 (0, 0)))
    (hgB : B ≤ g) (hgR : g ≠ R) (hgA : g ≠ A) (c : Nat) :
    Calls Tryz.prog 152 #[.iface 157 (.pointer (some ⟨R, 0, none⟩)), .slice (some ⟨g, 0, none⟩) 1 c] w fun e w' =>
      e = .returned (.tuple #[.int .i64 1, .nilIface]) ∧ Keep B R w w' ∧ Rd w' R A l (i + 1) ∧ w'.heap[g]? = some (.cells #[.int .u8 (l[i]).toNat] 5 (0, 0)) ∧ w'.heap.size = w.heap.size := by
  go_enter Tryz.func152, Tryz.ntmps152
  go_wp2_with (go_at_call 158; refine (atLeast_one B _ R A l i h hi hB g x hg hgB hgR hgA _).mono ?_; rintro e w1 ⟨rfl, hk, hr, hc, hz⟩)
  go_ret2
  exact ⟨rfl, hk, hr, hc, hz⟩

theorem byte_end (w : World) (R A : Nat) (l : List UInt8) (h : Rd w R A l l.length) (hRE : 2 < R) (te : TypeId) (pe : Addr) (hE : w.cell? ⟨2, 0, none⟩ = some (.iface te (.pointer (some pe)))) :
    Calls Tryz.prog 144 #[.iface 157 (.pointer (some ⟨R, 0, none⟩))] w fun e w' => e = .returned (.tuple #[.int .u8 0, .iface te (.pointer (some pe))]) ∧ Keep w.heap.size R w w' ∧ Rd w' R A l l.length := by
  have hmk : ∀ w : World, (Instr.makeSlice 51 (.int .i64 1) (.int .i64 1)).run Tryz.prog w = .ok (.slice (some ⟨w.heap.size, 0, none⟩) 1 1) (w.alloc (.cells #[.int .u8 0] 5)) := fun _ => by kernel_rfl
  go_enter Tryz.func144, Tryz.ntmps144
  go_wp2_with (go_at_call 152; refine (full_end _ R A l (h.alloc _) hRE te pe (cell_alloc hE _) _ _).mono ?_; rintro e w1 ⟨rfl, hk, hr⟩)
  go_ret2
  exact ⟨rfl, ((Keep.refl _ R w).alloc (Nat.le_refl _) _).trans (hk.mono (by simp)), hr⟩

theorem byte_one (w : World) (R A : Nat) (l : List UInt8) (i : Nat) (h : Rd w R A l i) (hi : i < l.length) :
    Calls Tryz.prog 144 #[.iface 157 (.pointer (some ⟨R, 0, none⟩))] w fun e w' => e = .returned (.tuple #[.int .u8 (l[i]).toNat, .nilIface]) ∧ Keep w.heap.size R w w' ∧ Rd w' R A l (i + 1) := by
  have hmk : ∀ w : World, (Instr.makeSlice 51 (.int .i64 1) (.int .i64 1)).run Tryz.prog w = .ok (.slice (some ⟨w.heap.size, 0, none⟩) 1 1) (w.alloc (.cells #[.int .u8 0] 5)) := fun _ => by kernel_rfl
  have hR := h.lt
  have hA := h.ltA (by omega)
  go_enter Tryz.func144, Tryz.ntmps144
  go_wp2_with (go_at_call 152; refine (full_one w.heap.size _ R A l i (h.alloc _) hi (by simp) w.heap.size _ (heap_alloc_new w _) (Nat.le_refl _) (by omega) (by omega) _).mono ?_; rintro e w1 ⟨rfl, hk, hr, hc, hz⟩; have hcc := blockCell hc 0)
  go_ret2
  exact ⟨rfl, ((Keep.refl _ R w).alloc (Nat.le_refl _) _).trans hk, hr⟩
end Go.Proofs.YtjmahgefijncaaaGreatFmt

/- What the reading asks of package-level variables; what an error value is. -/
namespace Go.Proofs.YtjmahgefijncaaaGreatFmt
open Go Go.RowKit

/-- At a lies the text of an error made by errors.New: not empty. -/
def Sent (w : World) (a : Addr) : Prop :=
  ∃ (s : ByteArray) (c : Array Value) (t : TypeId), w.heap[a.block]? = some (.cells c t (0, 0)) ∧ w.cell? a = some (.string s) ∧ 0 < s.size ∧ s.size < 1000
theorem Sent.stays {w w' : World} {a : Addr} (h : Sent w a) (k : w'.heap[a.block]? = w.heap[a.block]?) : Sent w' a := by
  obtain ⟨s, c, t, h1, h2, h3⟩ := h
  exact ⟨s, c, t, k.trans h1, (World.cell?_of_block (w := w) k).trans h2, h3⟩
theorem Sent.lt {w : World} {a : Addr} (h : Sent w a) : a.block < w.heap.size := by obtain ⟨_, _, _, h1, _⟩ := h; exact blockLt h1

/-- An error made by errors.New whose text is not empty: it lies below block N, or from B on. -/
def ErrAt (N B : Nat) (w : World) (v : Value) : Prop :=
  ∃ a : Addr, v = .iface 144 (.pointer (some a)) ∧ (a.block < N ∨ B ≤ a.block) ∧ Sent w a

/-- io.EOF and io.ErrUnexpectedEOF hold such errors, below block number N. -/
structure Env (N : Nat) (w : World) : Prop where
  eof : ∃ a : Addr, w.cell? ⟨2, 0, none⟩ = some (.iface 144 (.pointer (some a))) ∧ a.block < N ∧ Sent w a
  ueof : ∃ a : Addr, w.cell? ⟨3, 0, none⟩ = some (.iface 144 (.pointer (some a))) ∧ a.block < N ∧ Sent w a
  few : 2 < N ∧ 3 < N

theorem Env.stays {N : Nat} {w w' : World} (h : Env N w) (k : ∀ b, b < N → w'.heap[b]? = w.heap[b]?) : Env N w' := by
  obtain ⟨⟨a, h1, h2, h3⟩, ⟨b, g1, g2, g3⟩, ⟨f1, f2⟩⟩ := h
  exact ⟨⟨a, (World.cell?_of_block (w := w) (k 2 f1)).trans h1, h2, h3.stays (k _ h2)⟩, ⟨b, (World.cell?_of_block (w := w) (k 3 f2)).trans g1, g2, g3.stays (k _ g2)⟩, ⟨f1, f2⟩⟩
theorem Env.keep {N B R : Nat} {w w' : World} (h : Env N w) (k : Keep B R w w') (hB : N ≤ B) (hR : N ≤ R) : Env N w' :=
  h.stays fun b hb => k.block b (by omega) (by omega)
theorem Env.below {N B : Nat} {w w' : World} (h : Env N w) (k : Below B w w') (hB : N ≤ B) : Env N w' :=
  h.stays fun b hb => k.block b (by omega)
theorem Env.drew {N : Nat} {w : World} (h : Env N w) : Env N w.drew := h.stays fun _ _ => rfl

theorem ErrAt.mono {N B B' : Nat} {w : World} {v : Value} (h : ErrAt N B w v) (hB : B' ≤ B) : ErrAt N B' w v := by
  obtain ⟨a, rfl, h2, h3⟩ := h
  exact ⟨a, rfl, by omega, h3⟩
theorem ErrAt.stays {N B : Nat} {w w' : World} {v : Value} (h : ErrAt N B w v) (k : ∀ b, b < w.heap.size → b < N ∨ B ≤ b → w'.heap[b]? = w.heap[b]?) : ErrAt N B w' v := by
  obtain ⟨a, rfl, h2, h3⟩ := h
  exact ⟨a, rfl, h2, h3.stays (k _ h3.lt h2)⟩
theorem ErrAt.keep {N B R : Nat} {w w' : World} {v : Value} (h : ErrAt N B w v) (k : Keep w.heap.size R w w') (hN : N ≤ R) (hB : R < B) : ErrAt N B w' v := h.stays fun b hb hr => k.block b hb (by omega)
theorem ErrAt.below {N B : Nat} {w w' : World} {v : Value} (h : ErrAt N B w v) (k : Below w.heap.size w w') : ErrAt N B w' v := h.stays fun b hb _ => k.block b hb
theorem ErrAt.alloc {N B : Nat} {w : World} {v : Value} (h : ErrAt N B w v) (o : Obj) : ErrAt N B (w.alloc o) v := h.stays fun b hb _ => Below.heap_alloc w o b hb
theorem ErrAt.setCell {N B : Nat} {w : World} {v : Value} (h : ErrAt N B w v) {p : Addr} (h1 : N ≤ p.block) (h2 : p.block < B) (u : Value) : ErrAt N B (w.setCell p u) v := h.stays fun b _ hr => Below.heap_setCell _ _ _ _ (by omega)
theorem ErrAt.drew {N B : Nat} {w : World} {v : Value} (h : ErrAt N B w v) : ErrAt N B w.drew v := h.stays fun _ _ _ => rfl
theorem ErrAt.iface {N B : Nat} {w : World} {v : Value} (h : ErrAt N B w v) : ∃ a, v = .iface 144 (.pointer (some a)) := by obtain ⟨a, h, _⟩ := h; exact ⟨a, h⟩
theorem Env.eofErr {N : Nat} {w : World} (h : Env N w) (B : Nat) : ∃ a, w.cell? ⟨2, 0, none⟩ = some (.iface 144 (.pointer (some a))) ∧ ErrAt N B w (.iface 144 (.pointer (some a))) := by
  obtain ⟨⟨a, h1, h2, h3⟩, _, _⟩ := h
  exact ⟨a, h1, a, rfl, Or.inl h2, h3⟩
theorem Env.ueofErr {N : Nat} {w : World} (h : Env N w) (B : Nat) : ∃ a, w.cell? ⟨3, 0, none⟩ = some (.iface 144 (.pointer (some a))) ∧ ErrAt N B w (.iface 144 (.pointer (some a))) := by
  obtain ⟨_, ⟨a, h1, h2, h3⟩, _⟩ := h
  exact ⟨a, h1, a, rfl, Or.inl h2, h3⟩

/-- errors.New. -/
theorem new_any (s : ByteArray) (w : World) :
    Calls Tryz.prog 69 #[.string s] w fun e w' => e = .returned (.iface 144 (.pointer (some ⟨w.heap.size, 0, none⟩))) ∧ w.alloc (.cells #[.string s] 146) = w' := by
  go_enter Tryz.func69, Tryz.ntmps69
  go_wp2
  go_ret
  exact ⟨rfl, rfl⟩
theorem new_err (s : ByteArray) (hs : 0 < s.size) (hs2 : s.size < 1000) (N : Nat) (w : World) :
    Calls Tryz.prog 69 #[.string s] w fun e w' => ∃ ev, e = .returned ev ∧ ErrAt N w.heap.size w' ev ∧ Below w.heap.size w w' := by
  refine (new_any s w).mono fun e w' ⟨he, hw⟩ => ⟨_, he, ?_, by rw [← hw]; exact (Below.refl _ w).alloc (Nat.le_refl _) _⟩
  have hb := heap_alloc_new w (.cells #[.string s] 146)
  rw [hw] at hb
  exact ⟨⟨w.heap.size, 0, none⟩, rfl, Or.inr (Nat.le_refl _), s, _, _, hb, blockCell hb 0, hs, hs2⟩

theorem eql_other {w : World} {a b : Addr} (ha : Sent w a) (hb : Sent w b) (hne : a ≠ b) :
    (binOp .eql 83 (.iface 144 (.pointer (some a))) (.iface 144 (.pointer (some b)))).run Tryz.prog w = .ok (.bool false) w := by
  obtain ⟨_, c, t, h1, _⟩ := ha
  obtain ⟨_, d, u, h2, _⟩ := hb
  obtain ⟨i, hi, hcmp⟩ := Option.map_eq_some_iff.1 (show (Tryz.prog.info? 144).map (·.comparable) = some true by kernel_rfl)
  obtain ⟨j, hj, hjs⟩ := Option.map_eq_some_iff.1 (show (Tryz.prog.info? 146).map (·.size) = some 1 by kernel_rfl)
  exact run_eql_iface_ptr_other w Tryz.underlying83 Tryz.underlying144 hi hcmp hj (by rw [hjs]; decide) hne h1 h2
theorem eql_same (w : World) (a : Addr) :
    (binOp .eql 83 (.iface 144 (.pointer (some a))) (.iface 144 (.pointer (some a)))).run Tryz.prog w = .ok (.bool true) w := by
  obtain ⟨i, hi, hcmp⟩ := Option.map_eq_some_iff.1 (show (Tryz.prog.info? 144).map (·.comparable) = some true by kernel_rfl)
  obtain ⟨j, hj, hjs⟩ := Option.map_eq_some_iff.1 (show (Tryz.prog.info? 146).map (·.size) = some 1 by kernel_rfl)
  exact run_eql_iface_ptr_same w a Tryz.underlying83 Tryz.underlying144 hi hcmp hj

set_option maxRecDepth 100000 in
/-- unexpectedEOF: an error stays one. -/
theorem uneof_any (N B : Nat) (w : World) (hE : Env N w) (v : Value) (hv : ErrAt N B w v) :
    Calls Tryz.prog 118 #[v] w fun e w' => ∃ ev, e = .returned ev ∧ ErrAt N B w' ev ∧ w = w' := by
  obtain ⟨b, hb, hbe⟩ := hE.eofErr B
  obtain ⟨c, hc, hce⟩ := hE.ueofErr B
  obtain ⟨a, rfl, haR, ha⟩ := id hv
  have HV := Lib.hid hv
  have HB := Lib.hid hbe
  have HC := Lib.hid hce
  by_cases hab : a = b
  · subst hab
    have he := eql_same w a
    clear ha hv hbe hce
    have h1 : Calls Tryz.prog 118 #[.iface 144 (.pointer (some a))] w fun e w' => e = .returned (.iface 144 (.pointer (some c))) ∧ w = w' := by
      go_enter Tryz.func118, Tryz.ntmps118
      go_wp2
      go_ret
      exact ⟨rfl, rfl⟩
    exact h1.mono fun e w' ⟨he, hw⟩ => by subst hw; exact ⟨_, he, HC.out, rfl⟩
  · obtain ⟨b', eb, _, hbs⟩ := hbe
    obtain rfl : b = b' := by injection eb with _ e2; injection e2 with e3; exact Option.some.inj e3
    have he := eql_other ha hbs hab
    clear ha hv hbs hce eb
    have h1 : Calls Tryz.prog 118 #[.iface 144 (.pointer (some a))] w fun e w' => e = .returned (.iface 144 (.pointer (some a))) ∧ w = w' := by
      go_enter Tryz.func118, Tryz.ntmps118
      go_wp2
      go_ret
      exact ⟨rfl, rfl⟩
    exact h1.mono fun e w' ⟨he, hw⟩ => by subst hw; exact ⟨_, he, HV.out, rfl⟩
end Go.Proofs.YtjmahgefijncaaaGreatFmt

/- What readPacket makes of bytes, as a plain function; no program in sight. -/
namespace Go.Proofs.YtjmahgefijncaaaGreatFmt.Ber

/-- A packet: its class (0 to 3), whether it is constructed, its tag, its bytes, its packets. -/
inductive Pk where
  | mk (cls : Nat) (built : Bool) (tag : Nat) (data : List UInt8) (items : List Pk)

/-- The tag behind an identifier byte that ends in 31: k bytes were read, acc is what they say. -/
def high : List UInt8 → Nat → Nat → Option (Nat × List UInt8)
  | [], _, _ => none
  | b :: s, acc, k =>
    if k = 0 ∧ b.toNat % 128 = 0 then none
    else if 9 ≤ k then none
    else if b.toNat < 128 then some (acc * 128 + b.toNat % 128, s) else high s (acc * 128 + b.toNat % 128) (k + 1)

def ident : List UInt8 → Option (Nat × Bool × Nat × List UInt8)
  | [] => none
  | b :: s =>
    if b.toNat % 32 = 31 then (high s 0 0).map fun r => (b.toNat / 64, decide (b.toNat / 32 % 2 = 1), r.1, r.2)
    else some (b.toNat / 64, decide (b.toNat / 32 % 2 = 1), b.toNat % 32, s)

def be (l : List UInt8) : Nat := l.foldl (fun a b => a * 256 + b.toNat) 0

/-- A length: none within: indefinite. -/
def lenOf : List UInt8 → Option (Option Nat × List UInt8)
  | [] => none
  | b :: s =>
    if b.toNat = 255 then none
    else if b.toNat = 128 then some (none, s)
    else if b.toNat < 128 then some (some b.toNat, s)
    else if 8 < b.toNat - 128 then none
    else if s.length < b.toNat - 128 then none
    else if 2 ^ 63 ≤ be (s.take (b.toNat - 128)) then none
    else some (some (be (s.take (b.toNat - 128))), s.drop (b.toNat - 128))

def header (s : List UInt8) : Option (Nat × Bool × Nat × Option Nat × List UInt8) :=
  match ident s with
  | none => none
  | some (c, b, t, s1) =>
    match lenOf s1 with
    | none => none
    | some (len, s2) => if len = none ∧ b = false then none else some (c, b, t, len, s2)

/-- The sevens of bits of a tag, the high ones first, all but the last marked. -/
def tagMore : Nat → Nat → List UInt8
  | 0, _ => []
  | f + 1, n => if n = 0 then [] else tagMore f (n / 128) ++ [UInt8.ofNat (n % 128 + 128)]
def tagBytes (n : Nat) : List UInt8 := if n = 0 then [] else tagMore 10 (n / 128) ++ [UInt8.ofNat (n % 128)]
def identBytes (c : Nat) (b : Bool) (t : Nat) : List UInt8 :=
  if t < 31 then [UInt8.ofNat (c * 64 + (if b then 32 else 0) + t)] else UInt8.ofNat (c * 64 + (if b then 32 else 0) + 31) :: tagBytes t
def digits : Nat → Nat → List UInt8
  | 0, _ => []
  | f + 1, n => if n < 256 then [UInt8.ofNat n] else digits f (n / 256) ++ [UInt8.ofNat (n % 256)]
def lenBytes (n : Nat) : List UInt8 := if n < 128 then [UInt8.ofNat n] else UInt8.ofNat (128 + (digits 8 n).length) :: digits 8 n

mutual
def body : Pk → List UInt8
  | .mk _ b _ data items => if b then bodies items else data
def bodies : List Pk → List UInt8
  | [] => []
  | .mk c b t data items :: r => (identBytes c b t ++ (lenBytes (body (.mk c b t data items)).length ++ body (.mk c b t data items))) ++ bodies r
end
def enc : Pk → List UInt8
  | .mk c b t data items => identBytes c b t ++ (lenBytes (body (.mk c b t data items)).length ++ body (.mk c b t data items))

/-- bad: nothing is said; err: refused; ok: a packet and the rest. -/
inductive Res where
  | bad
  | err
  | ok (p : Pk) (rest : List UInt8)

/-- Primitive ones of whose values something is said. -/
def known (c t : Nat) : Bool := !decide (c = 0) || decide (t = 0) || decide (t = 1) || decide (t = 2) || decide (t = 4) || decide (t = 5) || decide (t = 10)

def prim (c t n : Nat) (s : List UInt8) : Res :=
  if n = 0 then (if known c t then .ok (.mk c false t [] []) s else .bad)
  else if 480 < n ∧ 480 < s.length then .bad
  else if s.length < n then .err
  else if known c t then .ok (.mk c false t (s.take n) []) (s.drop n) else .bad

def isEOC : Pk → Bool
  | .mk c b t data _ => decide (c = 0) && !b && decide (t = 0) && data.isEmpty

mutual
def readP : Nat → Nat → List UInt8 → Res
  | 0, _, _ => .bad
  | f + 1, d, s =>
    if 1000 ≤ d then .err else
    match header s with
    | none => .err
    | some (_, false, _, none, _) => .err
    | some (c, true, t, none, s1) => kids f d c t none 0 [] s1
    | some (c, b, t, some n, s1) => if 2147483647 < n then .err else if b then kids f d c t (some n) 0 [] s1 else prim c t n s1
def kids : Nat → Nat → Nat → Nat → Option Nat → Nat → List Pk → List UInt8 → Res
  | 0, _, _, _, _, _, _, _ => .bad
  | f + 1, d, c, t, len, got, items, s =>
    if len = some got then .ok (.mk c true t [] items) s
    else if len.any (fun n => decide (n < got)) then .err
    else match readP f (d + 1) s with
      | .bad => .bad
      | .err => .err
      | .ok p rest =>
        if 2147483647 < got + (s.length - rest.length) then .err
        else if isEOC p then (if len = none then .ok (.mk c true t [] items) rest else .err)
        else kids f d c t len (got + (s.length - rest.length)) (items ++ [p]) rest
end
end Go.Proofs.YtjmahgefijncaaaGreatFmt.Ber

/- Small facts on blocks and three stores. -/
namespace Go.Proofs.YtjmahgefijncaaaGreatFmt
open Go Go.RowKit

theorem three_other {w : World} {g k : Nat} (h : k ≠ g) (a b c : Value) :
    (((w.setCell ⟨g, 0, none⟩ a).setCell ⟨g, 1, none⟩ b).setCell ⟨g, 2, none⟩ c).heap[k]? = w.heap[k]? := by
  rw [Below.heap_setCell _ _ _ _ h, Below.heap_setCell _ _ _ _ h, Below.heap_setCell _ _ _ _ h]
theorem three_keep {w0 w : World} {B R g : Nat} (h : Keep B R w0 w) (hg : B ≤ g) (a b c : Value) :
    Keep B R w0 (((w.setCell ⟨g, 0, none⟩ a).setCell ⟨g, 1, none⟩ b).setCell ⟨g, 2, none⟩ c) :=
  ((h.setCell (Or.inl hg) a).setCell (Or.inl hg) b).setCell (Or.inl hg) c
theorem Rd.three {w : World} {R A : Nat} {l : List UInt8} {i g : Nat} (h : Rd w R A l i) (hR : R ≠ g) (hA : A ≠ g) (a b c : Value) :
    Rd (((w.setCell ⟨g, 0, none⟩ a).setCell ⟨g, 1, none⟩ b).setCell ⟨g, 2, none⟩ c) R A l i :=
  h.stays (three_other hR _ _ _) (three_other hA _ _ _)

def tagValue (c : Nat) (b : Bool) (t : Nat) : Value := .agg #[.int .u8 ((c * 64 : Nat) : Int), .int .u8 (if b then 32 else 0), .int .u64 (t : Int)]
def noTag : Value := .agg #[.int .u8 0, .int .u8 0, .int .u64 0]
theorem tagValue_eq (n t : Nat) : Value.agg #[.int .u8 ((n : Int) / 64 * 64), .int .u8 ((n : Int) / 32 % 2 * 32), .int .u64 (t : Int)] = tagValue (n / 64) (decide (n / 32 % 2 = 1)) t := by
  have h : ((n : Int) / 32 % 2 * 32) = if decide (n / 32 % 2 = 1) = true then 32 else 0 := by
    by_cases h : n / 32 % 2 = 1
    · simp only [h, decide_true, if_true]; omega
    · simp only [h, decide_false]; simp; omega
  rw [h]; simp [tagValue]
end Go.Proofs.YtjmahgefijncaaaGreatFmt

/- readLength. -/
namespace Go.Proofs.YtjmahgefijncaaaGreatFmt
open Go Go.RowKit

def lenInt : Option Nat → Int
  | none => -1
  | some n => n

/-- What readLength comes to. -/
def LenOut (N B R A : Nat) (l : List UInt8) (i : Nat) (e : Ending) (w' : World) : Prop :=
  match Ber.lenOf (l.drop i) with
  | none => ∃ a b ev, e = .returned (.tuple #[.int .i64 a, .int .i64 b, ev]) ∧ ErrAt N B w' ev
  | some (len, rest) => ∃ k : Nat, e = .returned (.tuple #[.int .i64 (lenInt len), .int .i64 k, .nilIface]) ∧ Rd w' R A l (i + k) ∧ rest = l.drop (i + k)

theorem and128u8 {x : Nat} (h : x < 256) : bits .and .u8 (x : Int) 128 = ((x / 128 * 128 : Nat) : Int) := by
  have e := bits_nat .u8 8 (by decide) wraps_u8 x 128 (by omega) (by omega)
  have k : ∀ y, y < 256 → y &&& 128 = y / 128 * 128 := by decide +kernel
  rw [← k x h]; exact e.1
theorem wraps_i64 (n : Int) (h₀ : 0 ≤ n) (h₁ : n < 2 ^ 63) : IntKind.i64.wrap n = n := by rw [IntKind.wrap_i64]; omega
theorem and127i {x : Nat} (h : x < 256) : bits .and .i64 (x : Int) 127 = ((x % 128 : Nat) : Int) := by
  have := bits_mask .i64 63 (by decide) wraps_i64 7 (by decide) (x : Int) (by omega) (by omega)
  simpa using this

theorem len_end (N : Nat) (w : World) (R A : Nat) (l : List UInt8) (h : Rd w R A l l.length) (hE : Env N w) (hN : N ≤ R) :
    Calls Tryz.prog 135 #[.iface 157 (.pointer (some ⟨R, 0, none⟩))] w fun e w' => LenOut N w.heap.size R A l l.length e w' ∧ Keep w.heap.size R w w' := by
  obtain ⟨a, ha, hae⟩ := hE.eofErr w.heap.size
  go_enter Tryz.func135, Tryz.ntmps135
  go_wp2_with fail
  refine (byte_end _ R A l h (by have := hE.few; omega) _ a ha).mono ?_
  rintro e w1 ⟨rfl, hb, _⟩
  go_wp2_with fail
  refine (uneof_any N w.heap.size w1 (hE.keep hb (by have := h.lt; omega) hN) _ (hae.keep hb hN h.lt)).mono ?_
  rintro e w2 ⟨ev, rfl, hev, rfl⟩
  go_wp2
  go_ret3
  refine ⟨?_, hb⟩
  unfold LenOut
  rw [show l.drop l.length = [] by simp]
  exact ⟨_, _, ev, rfl, hev⟩

/-- The short forms. -/
theorem len_short (N : Nat) (w : World) (R A : Nat) (l : List UInt8) (i : Nat) (h : Rd w R A l i) (hi : i < l.length) (hv : (l[i]).toNat ≤ 128 ∨ (l[i]).toNat = 255 ∨ 8 < (l[i]).toNat - 128) :
    Calls Tryz.prog 135 #[.iface 157 (.pointer (some ⟨R, 0, none⟩))] w fun e w' => LenOut N w.heap.size R A l i e w' ∧ Keep w.heap.size R w w' := by
  have hb256 : (l[i]).toNat < 256 := (l[i]).toNat_lt
  have e1 := and128u8 hb256
  have e2 := and127i hb256
  have hd : l.drop i = l[i] :: l.drop (i + 1) := List.drop_eq_getElem_cons hi
  have HD := Lib.hid hd
  clear hd
  by_cases h255 : (l[i]).toNat = 255
  · have t1 : (((l[i]).toNat : Int) == 255) = true := by rw [beq_iff_eq]; omega
    have H255 := Lib.hid h255
    clear h255 hv
    go_enter Tryz.func135, Tryz.ntmps135
    go_wp2_with fail
    refine (byte_one _ R A l i h hi).mono ?_
    rintro e w1 ⟨rfl, hk, hr⟩
    go_wp2_with fail
    refine (new_err _ (by decide) (by decide) N _).mono ?_
    rintro e w3 ⟨ev, rfl, hev, hb3⟩
    go_wp2
    go_ret3
    refine ⟨?_, hk.trans (Keep.ofBelow (hb3.mono hk.size))⟩
    unfold LenOut
    rw [HD.out]; simp only [Ber.lenOf]; rw [if_pos H255.out]
    exact ⟨_, _, ev, rfl, hev.mono hk.size⟩
  · have t1 : (((l[i]).toNat : Int) == 255) = false := by rw [beq_eq_false_iff_ne]; omega
    by_cases h128 : (l[i]).toNat = 128
    · have t2 : (((l[i]).toNat : Int) == 128) = true := by rw [beq_iff_eq]; omega
      have H255 := Lib.hid h255
      have H128 := Lib.hid h128
      clear h255 h128 hv
      go_enter Tryz.func135, Tryz.ntmps135
      go_wp2_with fail
      refine (byte_one _ R A l i h hi).mono ?_
      rintro e w1 ⟨rfl, hk, hr⟩
      go_wp2
      go_ret3
      refine ⟨?_, hk⟩
      unfold LenOut
      rw [HD.out]; simp only [Ber.lenOf]; rw [if_neg H255.out, if_pos H128.out]
      exact ⟨1, rfl, hr, rfl⟩
    · have t2 : (((l[i]).toNat : Int) == 128) = false := by rw [beq_eq_false_iff_ne]; omega
      by_cases hlo : (l[i]).toNat < 128
      · have t3 : (((l[i]).toNat : Int) / 128 * 128 == 0) = true := by rw [beq_iff_eq]; omega
        have H255 := Lib.hid h255
        have H128 := Lib.hid h128
        clear h255 h128 hv
        go_enter Tryz.func135, Tryz.ntmps135
        go_wp2_with fail
        refine (byte_one _ R A l i h hi).mono ?_
        rintro e w1 ⟨rfl, hk, hr⟩
        go_wp2
        go_ret3
        refine ⟨?_, hk⟩
        unfold LenOut
        rw [HD.out]; simp only [Ber.lenOf]; rw [if_neg H255.out, if_neg H128.out, if_pos hlo]
        exact ⟨1, by simp [lenInt]; omega, hr, rfl⟩
      · have t3 : (((l[i]).toNat : Int) / 128 * 128 == 0) = false := by rw [beq_eq_false_iff_ne]; omega
        have t4 : (((l[i]).toNat : Int) / 128 * 128 != 0) = true := by rw [bne_iff_ne]; omega
        have h8 : 8 < ((l[i]).toNat : Int) % 128 := by omega
        have H255 := Lib.hid h255
        have H128 := Lib.hid h128
        have H8 : Hid (8 < (l[i]).toNat - 128) := by show 8 < _; omega
        clear h255 h128 hv
        go_enter Tryz.func135, Tryz.ntmps135
        go_wp2_with fail
        refine (byte_one _ R A l i h hi).mono ?_
        rintro e w1 ⟨rfl, hk, hr⟩
        go_wp2_with fail
        refine (new_err _ (by decide) (by decide) N _).mono ?_
        rintro e w3 ⟨ev, rfl, hev, hb3⟩
        go_wp2
        go_ret3
        refine ⟨?_, hk.trans (Keep.ofBelow (hb3.mono hk.size))⟩
        unfold LenOut
        rw [HD.out]; simp only [Ber.lenOf]; rw [if_neg H255.out, if_neg H128.out, if_neg hlo, if_pos H8.out]
        exact ⟨_, _, ev, rfl, hev.mono hk.size⟩
end Go.Proofs.YtjmahgefijncaaaGreatFmt

/- readLength, the long forms; every input. -/
namespace Go.Proofs.YtjmahgefijncaaaGreatFmt
open Go Go.RowKit

theorem be_snoc (l : List UInt8) (b : UInt8) : Ber.be (l ++ [b]) = Ber.be l * 256 + b.toNat := by simp [Ber.be]
theorem be_lt : ∀ (n : Nat) (l : List UInt8), l.length = n → Ber.be l < 256 ^ n := by
  intro n
  induction n with
  | zero => intro l h; obtain rfl := List.eq_nil_of_length_eq_zero h; decide
  | succ n ih =>
    intro l h
    obtain ⟨m, b, rfl⟩ : ∃ m b, l = m ++ [b] := ⟨l.dropLast, l.getLast (by intro e; subst e; simp at h), (List.dropLast_concat_getLast _).symm⟩
    have := ih m (by simp at h; exact h)
    have hb := b.toNat_lt
    rw [be_snoc, Nat.pow_succ]; omega
theorem or_low8 {x y : Nat} (hx : x % 256 = 0) (hxl : x < 2 ^ 64) (hy : y < 256) : bits .or .u64 (x : Int) (y : Int) = ((x + y : Nat) : Int) := by
  have := bits_join .u64 64 (by decide) wraps_u64 8 (x : Int) (y : Int) (by omega) (by omega) (by omega) (by omega) (by omega) (by omega)
  simpa using this
theorem or_step8 {acc v k : Nat} (hacc : acc < 256 ^ k) (hk : k ≤ 7) (hv : v < 256) : bits .or .u64 (IntKind.u64.wrap ((acc : Int) * 256)) (v : Int) = (acc : Int) * 256 + (v : Int) := by
  have h56 : acc < 256 ^ 7 := Nat.lt_of_lt_of_le hacc (Nat.pow_le_pow_right (by decide) (by omega))
  have hw : IntKind.u64.wrap ((acc : Int) * 256) = ((acc * 256 : Nat) : Int) := by rw [wraps_u64 _ (by omega) (by omega)]; omega
  rw [hw, or_low8 (by omega) (by omega) hv]; omega

/-- The round's head: j bytes of the length are read. -/
def LenInv (R A : Nat) (l : List UInt8) (i kb : Nat) (w : World) (t3 t7 t8 : Value) (wr : World) : Prop :=
  ∃ j acc : Nat, j ≤ kb ∧ t8 = .int .i64 j ∧ t3 = .int .i64 ((j + 1 : Nat) : Int) ∧ t7 = .int .u64 acc ∧ acc = Ber.be ((l.drop (i + 1)).take j) ∧ Rd wr R A l (i + 1 + j) ∧ Keep w.heap.size R w wr

theorem wrap_low {n : Nat} (h : n < 2 ^ 63) : wrap64 (n : Int) = (n : Int) := by unfold wrap64; omega
theorem wrap_high {n : Nat} (h : 2 ^ 63 ≤ n) (h2 : n < 2 ^ 64) : ∃ m : Int, wrap64 (n : Int) = m ∧ m < 0 := ⟨_, rfl, by unfold wrap64; omega⟩
theorem wrap_u {n : Nat} (h : n < 2 ^ 64) : IntKind.u64.wrap (n : Int) = (n : Int) := wraps_u64 _ (by omega) (by omega)

set_option maxHeartbeats 4000000 in
theorem len_long (N : Nat) (w : World) (R A : Nat) (l : List UInt8) (i : Nat) (h : Rd w R A l i) (hi : i < l.length) (hE : Env N w) (hN : N ≤ R) (h1 : 128 < (l[i]).toNat) (h2 : (l[i]).toNat ≤ 136) :
    Calls Tryz.prog 135 #[.iface 157 (.pointer (some ⟨R, 0, none⟩))] w fun e w' => LenOut N w.heap.size R A l i e w' ∧ Keep w.heap.size R w w' := by
  have hb256 : (l[i]).toNat < 256 := (l[i]).toNat_lt
  have hR := h.lt
  have hlen := h.len
  have e1 := and128u8 hb256
  have e2 := and127i hb256
  have t1 : (((l[i]).toNat : Int) == 255) = false := by rw [beq_eq_false_iff_ne]; omega
  have t2 : (((l[i]).toNat : Int) == 128) = false := by rw [beq_eq_false_iff_ne]; omega
  have t3 : (((l[i]).toNat : Int) / 128 * 128 == 0) = false := by rw [beq_eq_false_iff_ne]; omega
  have t4 : (((l[i]).toNat : Int) / 128 * 128 != 0) = true := by rw [bne_iff_ne]; omega
  have hd : l.drop i = l[i] :: l.drop (i + 1) := List.drop_eq_getElem_cons hi
  have hlo : Ber.lenOf (l.drop i) = if (l.drop (i + 1)).length < (l[i]).toNat - 128 then none else if 2 ^ 63 ≤ Ber.be ((l.drop (i + 1)).take ((l[i]).toNat - 128)) then none else some (some (Ber.be ((l.drop (i + 1)).take ((l[i]).toNat - 128))), (l.drop (i + 1)).drop ((l[i]).toNat - 128)) := by
    rw [hd]; simp only [Ber.lenOf]; rw [if_neg (by omega), if_neg (by omega), if_neg (by omega), if_neg (by omega)]
  have HLO := Lib.hid hlo
  clear hlo hd
  obtain ⟨kb, hkb⟩ : ∃ kb, kb = (l[i]).toNat - 128 := Exists.intro ((l[i]).toNat - 128) (Eq.refl _)
  have hkm : ((l[i]).toNat : Int) % 128 = (kb : Int) := by omega
  have hkb8 : kb ≤ 8 := by omega
  have hkb0 : 0 < kb := by omega
  have HKB := Lib.hid hkb
  clear hkb
  go_enter Tryz.func135, Tryz.ntmps135
  go_wp2_with fail
  refine (byte_one _ R A l i h hi).mono ?_
  rintro e w1 ⟨rfl, hk, hr⟩
  go_wp2_with fail
  go_loopw [3, 7, 8] (fun t3 t7 t8 wr => LenInv R A l i kb w t3 t7 t8 wr) (fun _ _ t8 _ => kb - (intOf t8).toNat)
  case atStart => exact ⟨0, 0, by omega, rfl, rfl, rfl, by simp [Ber.be], hr, hk⟩
  case round =>
    obtain ⟨j, acc, hj, rfl, rfl, rfl, hacc, hrr, hkp⟩ := hrel
    have HACC := Lib.hid hacc
    clear hacc
    have hszp := hkp.size
    by_cases hjk : j < kb
    · by_cases hend : i + 1 + j = l.length
      · have hE' := hE.keep hkp (by omega) hN
        obtain ⟨a, ha, hae⟩ := hE'.eofErr w.heap.size
        have hr' : Rd wr R A l l.length := hend ▸ hrr
        have HE := Lib.hid hE'
        clear hrr hE'
        go_wp2_with fail
        refine (byte_end _ R A l hr' (by have := hE.few; omega) _ a ha).mono ?_
        rintro e w2 ⟨rfl, hb, _⟩
        go_wp2_with fail
        refine (uneof_any N w.heap.size w2 (HE.out.keep hb (by omega) hN) _ (hae.keep hb hN (by omega))).mono ?_
        rintro e w3 ⟨ev, rfl, hev, rfl⟩
        go_wp2
        go_ret3
        refine ⟨?_, hkp.trans (hb.mono hszp)⟩
        unfold LenOut
        rw [HLO.out, if_pos (by rw [List.length_drop, ← HKB.out]; omega)]
        exact ⟨_, _, ev, rfl, hev⟩
      · have hlt : i + 1 + j < l.length := by have := hrr.pos; omega
        have hv256 : (l[i + 1 + j]).toNat < 256 := (l[i + 1 + j]).toNat_lt
        have hO := or_step8 (acc := acc) (k := j) (by rw [HACC.out]; exact be_lt _ _ (by simp; omega)) (by omega) hv256
        have hnx : acc * 256 + (l[i + 1 + j]).toNat = Ber.be ((l.drop (i + 1)).take (j + 1)) := by
          have e1 : (l.drop (i + 1)).take (j + 1) = (l.drop (i + 1)).take j ++ [l[i + 1 + j]] := by
            rw [List.take_add_one]; simp [List.getElem?_eq_getElem hlt]
          rw [e1, be_snoc, HACC.out]
        have HNX := Lib.hid hnx
        clear hnx
        go_wp2_with fail
        refine (byte_one _ R A l _ hrr hlt).mono ?_
        rintro e w2 ⟨rfl, hk2, hr2⟩
        go_wp2
        go_roundw
        case rel => exact ⟨j + 1, acc * 256 + (l[i + 1 + j]).toNat, by omega, by go_num, by go_num, by go_num, HNX.out, hr2, hkp.trans (hk2.mono hszp)⟩
        case measure => simp [intOf]; omega
    · obtain rfl : j = kb := by omega
      have hlt64 : acc < 2 ^ 64 := by rw [HACC.out]; exact Nat.lt_of_lt_of_le (be_lt _ _ rfl) (by rw [show (2 : Nat) ^ 64 = 256 ^ 8 by decide]; exact Nat.pow_le_pow_right (by decide) (by simp; omega))
      have hlen2 : j ≤ (l.drop (i + 1)).length := by have := hrr.pos; rw [List.length_drop]; omega
      have hwu := wrap_u hlt64
      by_cases h63 : acc < 2 ^ 63
      · have hwl := wrap_low h63
        have H63 := Lib.hid h63
        clear h63 hlt64
        go_wp2
        go_ret3
        refine ⟨?_, hkp⟩
        unfold LenOut
        rw [HLO.out, ← HKB.out, if_neg (by omega), ← HACC.out, if_neg (Nat.not_le.2 H63.out)]
        exact ⟨j + 1, by simp [lenInt], by rw [show i + (j + 1) = i + 1 + j by omega]; exact hrr, by rw [List.drop_drop]; congr 1; omega⟩
      · obtain ⟨m, hm, hneg⟩ := wrap_high (Nat.not_lt.1 h63) hlt64
        have H63 := Lib.hid h63
        clear h63 hlt64
        go_wp2_with fail
        refine (new_err _ (by decide) (by decide) N _).mono ?_
        rintro e w3 ⟨ev, rfl, hev, hb3⟩
        go_wp2
        go_ret3
        refine ⟨?_, hkp.trans (Keep.ofBelow (hb3.mono hszp))⟩
        unfold LenOut
        rw [HLO.out, ← HKB.out, if_neg (by omega), ← HACC.out, if_pos (Nat.not_lt.1 H63.out)]
        exact ⟨_, _, ev, rfl, hev.mono hszp⟩

theorem len_any (N : Nat) (w : World) (R A : Nat) (l : List UInt8) (i : Nat) (h : Rd w R A l i) (hE : Env N w) (hN : N ≤ R) :
    Calls Tryz.prog 135 #[.iface 157 (.pointer (some ⟨R, 0, none⟩))] w fun e w' => LenOut N w.heap.size R A l i e w' ∧ Keep w.heap.size R w w' := by
  have hp := h.pos
  by_cases hi : i < l.length
  · by_cases hv : (l[i]).toNat ≤ 128 ∨ (l[i]).toNat = 255 ∨ 8 < (l[i]).toNat - 128
    · exact len_short N w R A l i h hi hv
    · exact len_long N w R A l i h hi hE hN (by omega) (by omega)
  · obtain rfl : i = l.length := by omega
    exact len_end N w R A l h hE hN
end Go.Proofs.YtjmahgefijncaaaGreatFmt

