/- bytes.Buffer's grow: which blocks it turns, and how. -/
import Derived.Test.YtjmahgefijncaaaGreatFmtShelfB
import Derived.Test.YtjmahgefijncaaaGreatFmtKeep
import Derived.Deep.QuietTactic
import Derived.BigQuiet
import Derived.Deep.RegionWith
import Derived.WalkSpells
import Derived.Outline
import Derived.Laws.MakeOwn
import Derived.OwnWalk
import Derived.Test.YtjmahgefijncaaaGreatFmtOnly
import Derived.Lib.BufferSrc
set_option linter.unusedVariables false
set_option linter.unusedSimpArgs false
namespace Go.Proofs.YtjmahgefijncaaaGreatFmt
open Go Go.RowKit

/-- What grow leaves: a new row, with room. -/
def Grew (D l n : Nat) (lr : Int) (old : List Value) (w w' : World) : Prop :=
  ∃ (G cap2 : Nat) (cells : Array Value), w.heap.size ≤ G ∧ w'.heap[D]? = some (.cells #[.slice (some ⟨G, 0, none⟩) (l + n) cap2, .int .i64 0, .int .i8 lr] 183 (0, 0)) ∧
    w'.heap[G]? = some (.cells cells 5 (0, 0)) ∧ cells.size = cap2 ∧ l + n ≤ cap2 ∧ cap2 ≤ maxLen ∧ cells.toList.take l = old ∧ Keep w.heap.size D w w'

theorem keep_below {w w' : World} {k : Nat} (h : Below (w.drewN k).heap.size (w.drewN k) w') (D : Nat) : Keep w.heap.size D w w' :=
  ⟨h.os, h.tape, h.output, h.size, fun i hi _ => h.block i hi⟩

theorem grew_of (w w3 : World) (D l n : Nat) (x : Value) (cap2 k : Nat) (lr : Int) (cells : Array Value) (hb : Below (w.drewN k).heap.size (w.drewN k) w3)
    (hD : w3.heap[D]? = some (.cells #[x, .int .i64 0, .int .i8 lr] 183 (0, 0))) (hn3 : w3.heap[w.heap.size]? = some (.cells cells 5 (0, 0))) (hsz : cells.size = cap2) (hroom : l + n ≤ cap2) (hm : cap2 ≤ maxLen) (hDlt : D < w.heap.size) (y : Value) :
    Grew D l n lr (cells.toList.take l) w (((w3.setCell ⟨D, 0, none⟩ y).setCell ⟨D, 1, none⟩ (.int .i64 0)).setCell ⟨D, 0, none⟩ (.slice (some ⟨w.heap.size, 0, none⟩) (l + n) cap2)) := by
  have h1 := blockSet hD 0 y
  have h2 := blockSet h1 1 (.int .i64 0)
  have h3 := blockSet h2 0 (.slice (some ⟨w.heap.size, 0, none⟩) (l + n) cap2)
  refine ⟨w.heap.size, cap2, cells, Nat.le_refl _, by simpa using h3, ?_, hsz, hroom, hm, rfl, (((keep_below hb D).setCell (Or.inr rfl) _).setCell (Or.inr rfl) _).setCell (Or.inr rfl) _⟩
  rw [Below.heap_setCell _ _ _ _ (by show w.heap.size ≠ D; omega), Below.heap_setCell _ _ _ _ (by show w.heap.size ≠ D; omega), Below.heap_setCell _ _ _ _ (by show w.heap.size ≠ D; omega)]
  exact hn3

set_option maxHeartbeats 8000000 in
set_option maxRecDepth 100000 in
theorem grow_row (w : World) (D g l cap n : Nat) (lr : Int) (cur : Array Value) (hD : w.heap[D]? = some (.cells #[.slice (some ⟨g, 0, none⟩) l cap, .int .i64 0, .int .i8 lr] 183 (0, 0)))
    (hg : w.heap[g]? = some (.cells cur 5 (0, 0))) (hcs : cur.size = cap) (hlc : l ≤ cap) (hn : 1 ≤ n) (hroom : cap - l < n) (hlim : l + n ≤ 140737488355328) (hgD : g ≠ D) (h1 : ∀ v ∈ cur.toList.take l, v.oneCell' = true) :
    Calls Tryz.prog 138 #[.pointer (some ⟨D, 0, none⟩), .int .i64 n] w fun e w' => e = .returned (.int .i64 l) ∧ Grew D l n lr (cur.toList.take l) w w' := by
  have hmax : cap ≤ maxLen := by simp only [maxLen]; omega
  have hIs : Lib.IsBuffer 183 5 0 D (cur.toList.take l) w := ⟨Nat.zero_le _, _, lr, hD, ⟨by simp, Or.inr ⟨g, cap, cur, by simp <;> omega, Nat.zero_le _, hg, by simp <;> omega, hmax, by omega, by simp⟩⟩, by simp [Value.ownBlock] <;> omega⟩
  have hlen : (cur.toList.take l).length = l := by simp <;> omega
  have hLen := Tryz.Buffer_Len 0 D _ w hIs
  rw [hlen] at hLen
  have HLEN := Lib.hid hLen
  clear hIs hlen hLen
  have c0 : w.cell? ⟨D, 0, none⟩ = some (.slice (some ⟨g, 0, none⟩) l cap) := blockCell hD 0
  have c1 : w.cell? ⟨D, 1, none⟩ = some (.int .i64 0) := blockCell hD 1
  have f0 := blockFrozen hD 0
  have f1 := blockFrozen hD 1
  have hDlt := blockLt hD
  have HD := Lib.hid hD
  have HG := Lib.hid hg
  have HC := Lib.hid hcs
  have H1 := Lib.hid h1
  clear hD hg hcs h1
  go_enter Tryz.func138, Tryz.ntmps138
  go_wp2_with fail
  refine HLEN.out.mono ?_
  rintro e w1 ⟨rfl, k, rfl⟩
  have hq : ¬ (n : Int) ≤ (cap : Int) / 2 - (l : Int) := by omega
  have hcb : cap ≤ 140737488355328 := by omega
  have HCB := Lib.hid hcb
  clear hcb
  have hnil := fun (w : World) => Lib.run_eql_slice_nil (P := Tryz.prog) (t := 51) (w := w)
  have t0 : ((l : Int) == 0) = true ∨ ((l : Int) == 0) = false := by cases h : ((l : Int) == 0) <;> simp
  rcases t0 with t0 | t0
  all_goals
    go_wp2_with fail
    refine (Tryz.Buffer_tryGrow_none D (some ⟨g, 0, none⟩) l cap n (w.drewN k) c0 hlc hmax hroom).mono ?_
    rintro e w2 ⟨rfl, rfl⟩
    go_wp2_with fail
    have hg2 : (w.drewN (k + 1)).heap[g]? = _ := HG.out
    have HG2 := Lib.hid hg2
    clear hg2
    have hwn : IntKind.i64.wrap (n : Int) = (n : Int) := IntWalk.i64_in _ (by constructor <;> omega)
    go_region_with ((go_at_call 149; refine (Tryz.bytes_growSlice_row g l cap n cur (w.drewN (k + 1)) HG2.out HC.out hlc hn hlim HCB.out H1.out).mono ?_; rintro e w3 ⟨cap2, cells, rfl, hn3, hsz, htk, hroom2, hm2, hb3⟩; have hD3 : w3.heap[D]? = some (.cells #[.slice (some ⟨g, 0, none⟩) l cap, .int .i64 0, .int .i8 lr] 183 (0, 0)) := (hb3.block D hDlt).trans HD.out; have d0 := blockFrozen hD3 0; have d1 := blockFrozen hD3 1; have e0 : w3.cell? ⟨D, 0, none⟩ = some (.slice (some ⟨g, 0, none⟩) l cap) := blockCell hD3 0; have e1 : w3.cell? ⟨D, 1, none⟩ = some (.int .i64 0) := blockCell hD3 1))
    go_wp2_with fail
    all_goals
      refine bodyPost_ret (v := .int .i64 l) (by simp [results, Tryz.results138, go_sem]) rfl ⟨rfl, ?_⟩
      rw [← htk]
      exact grew_of w w3 D l n _ cap2 (k + 1) lr cells hb3 hD3 hn3 hsz hroom2 hm2 hDlt _
end Go.Proofs.YtjmahgefijncaaaGreatFmt

/- bytes.Buffer's grow, where it holds nothing. -/
namespace Go.Proofs.YtjmahgefijncaaaGreatFmt
open Go Go.RowKit

theorem info_byteB : ∃ i, Tryz.prog.info? 5 = some i ∧ i.zero = some (.int .u8 0) ∧ i.size = 1 ∧ i.bytes = 1 := info_parts (by kernel_rfl)

set_option maxHeartbeats 1000000 in
set_option maxRecDepth 100000 in
theorem grow_nil_small (w : World) (D n : Nat) (lr : Int) (hD : w.heap[D]? = some (.cells #[.slice none 0 0, .int .i64 0, .int .i8 lr] 183 (0, 0))) (hn : 1 ≤ n) (h64 : n ≤ 64) :
    Calls Tryz.prog 138 #[.pointer (some ⟨D, 0, none⟩), .int .i64 n] w fun e w' => e = .returned (.int .i64 0) ∧ Grew D 0 n lr [] w w' := by
  have hIs : Lib.IsBuffer 183 5 0 D [] w := ⟨Nat.zero_le _, _, lr, hD, ⟨by simp, Or.inl ⟨rfl, rfl⟩⟩, by simp [Value.ownBlock]⟩
  have hLen := Tryz.Buffer_Len 0 D _ w hIs
  have HLEN := Lib.hid hLen
  clear hIs hLen
  have c0 : w.cell? ⟨D, 0, none⟩ = some (.slice none 0 0) := blockCell hD 0
  have c1 : w.cell? ⟨D, 1, none⟩ = some (.int .i64 0) := blockCell hD 1
  have f0 := blockFrozen hD 0
  have f1 := blockFrozen hD 1
  have hDlt := blockLt hD
  obtain ⟨i0, hi, hz0, hz1, hz2⟩ := info_byteB
  obtain ⟨M, hM⟩ : ∃ M, M = madeCells (Value.int .u8 0).cells ((64 : Int).toNat * i0.size) := ⟨_, rfl⟩
  have hMs : M.size = 64 := by rw [hM, size_madeCells, hz1]; rfl
  have hmk : ∀ W : World, (Instr.makeSlice 51 (.int .i64 (n : Int)) (.int .i64 64)).run Tryz.prog W = .ok (.slice (some ⟨W.heap.size, 0, none⟩) n 64) (W.alloc (.cells M 5)) := fun W => by
    have h := run_makeSlice W 51 5 i0 (.int .u8 0) Tryz.underlying51 hi hz0 .i64 .i64 (n : Int) 64 (by omega) (by omega) (by rw [hz1]; decide) (by rw [hz2]; decide) (by decide)
    rw [← hM] at h
    simpa using h
  clear hM
  have hnil : ∀ W, (binOp .eql 51 (.slice none 0 0) (.slice none 0 0)).run Tryz.prog W = .ok (.bool true) W := fun W => Lib.run_eql_slice_nil_nil W _ _ Tryz.underlying51
  have c0a : ∀ k o, ((w.drewN k).alloc o).cell? ⟨D, 0, none⟩ = some (.slice none 0 0) := fun k o => (World.cell?_of_block (a := ⟨D, 0, none⟩) (Below.heap_alloc (w.drewN k) o D hDlt)).trans c0
  have f0a : ∀ k o, ((w.drewN k).alloc o).frozen? ⟨D, 0, none⟩ = false := fun k o => (World.frozen?_of_block (a := ⟨D, 0, none⟩) (Below.heap_alloc (w.drewN k) o D hDlt)).trans f0
  have HD := Lib.hid hD
  clear hD
  go_enter Tryz.func138, Tryz.ntmps138
  go_wp2_with fail
  refine HLEN.out.mono ?_
  rintro e w1 ⟨rfl, k, rfl⟩
  go_wp2_with fail
  refine (Tryz.Buffer_tryGrow_none D none 0 0 n (w.drewN k) c0 (Nat.le_refl _) (Nat.zero_le _) (by omega)).mono ?_
  rintro e w2 ⟨rfl, rfl⟩
  go_wp2_with fail
  go_ret
  refine ⟨rfl, ?_⟩
  have h1 := blockSet ((Below.heap_alloc (w.drewN k) (.cells M 5) D hDlt).trans HD.out) 0 (.slice (some ⟨w.heap.size, 0, none⟩) n 64)
  refine ⟨w.heap.size, 64, M, Nat.le_refl _, by simpa using h1, ?_, hMs, by omega, by decide, by simp, ?_⟩
  · rw [Below.heap_setCell _ _ _ _ (by show w.heap.size ≠ D; omega)]
    exact heap_alloc_new (w.drewN k) _
  · exact (((Keep.refl w.heap.size D w).drewN k).alloc (Nat.le_refl _) _).setCell (Or.inr rfl) _

set_option maxHeartbeats 4000000 in
set_option maxRecDepth 100000 in
theorem grow_nil_big (w : World) (D n : Nat) (lr : Int) (hD : w.heap[D]? = some (.cells #[.slice none 0 0, .int .i64 0, .int .i8 lr] 183 (0, 0))) (h64 : 64 < n) (hlim : n ≤ 140737488355328) :
    Calls Tryz.prog 138 #[.pointer (some ⟨D, 0, none⟩), .int .i64 n] w fun e w' => e = .returned (.int .i64 0) ∧ Grew D 0 n lr [] w w' := by
  have hn : 1 ≤ n := by omega
  have hIs : Lib.IsBuffer 183 5 0 D [] w := ⟨Nat.zero_le _, _, lr, hD, ⟨by simp, Or.inl ⟨rfl, rfl⟩⟩, by simp [Value.ownBlock]⟩
  have hLen := Tryz.Buffer_Len 0 D _ w hIs
  have HLEN := Lib.hid hLen
  clear hIs hLen
  have c0 : w.cell? ⟨D, 0, none⟩ = some (.slice none 0 0) := blockCell hD 0
  have c1 : w.cell? ⟨D, 1, none⟩ = some (.int .i64 0) := blockCell hD 1
  have f0 := blockFrozen hD 0
  have f1 := blockFrozen hD 1
  have hDlt := blockLt hD
  have hnil : ∀ W, (binOp .eql 51 (.slice none 0 0) (.slice none 0 0)).run Tryz.prog W = .ok (.bool true) W := fun W => Lib.run_eql_slice_nil_nil W _ _ Tryz.underlying51
  have hwn : IntKind.i64.wrap (n : Int) = (n : Int) := IntWalk.i64_in _ (by constructor <;> omega)
  have HD := Lib.hid hD
  clear hD
  go_enter Tryz.func138, Tryz.ntmps138
  go_wp2_with fail
  refine HLEN.out.mono ?_
  rintro e w1 ⟨rfl, k, rfl⟩
  go_wp2_with fail
  refine (Tryz.Buffer_tryGrow_none D none 0 0 n (w.drewN k) c0 (Nat.le_refl _) (Nat.zero_le _) (by omega)).mono ?_
  rintro e w2 ⟨rfl, rfl⟩
  go_wp2_with fail
  go_region_with ((go_at_call 149; refine (Tryz.bytes_growSlice_nil n (w.drewN (k + 1)) hn hlim).mono ?_; rintro e w3 ⟨cap2, cells, rfl, hn3, hsz, hroom2, hm2, hb3⟩; have hD3 : w3.heap[D]? = some (.cells #[.slice none 0 0, .int .i64 0, .int .i8 lr] 183 (0, 0)) := (hb3.block D hDlt).trans HD.out; have d0 := blockFrozen hD3 0; have d1 := blockFrozen hD3 1; have e0 : w3.cell? ⟨D, 0, none⟩ = some (.slice none 0 0) := blockCell hD3 0; have e1 : w3.cell? ⟨D, 1, none⟩ = some (.int .i64 0) := blockCell hD3 1))
  all_goals
    go_wp2_with fail
    go_ret
    refine ⟨rfl, ?_⟩
    have hG := grew_of w w3 D 0 n _ cap2 (k + 1) lr cells hb3 hD3 hn3 hsz (by omega) hm2 hDlt (.slice (some ⟨w.heap.size, 0, none⟩) 0 cap2)
    simpa using hG
end Go.Proofs.YtjmahgefijncaaaGreatFmt

/- bytes.Buffer's Write, with its frame exact. -/
namespace Go.Proofs.YtjmahgefijncaaaGreatFmt
open Go Go.RowKit

/-- A bytes.Buffer that nobody has read from: what it holds, and its row. -/
def BufAt (w : World) (D : Nat) (row : Option Nat) (bs : List Value) : Prop :=
  match row with
  | none => bs = [] ∧ ∃ lr, w.heap[D]? = some (.cells #[.slice none 0 0, .int .i64 0, .int .i8 lr] 183 (0, 0))
  | some g => g ≠ D ∧ ∃ lr cap cur, w.heap[D]? = some (.cells #[.slice (some ⟨g, 0, none⟩) bs.length cap, .int .i64 0, .int .i8 lr] 183 (0, 0)) ∧
      w.heap[g]? = some (.cells cur 5 (0, 0)) ∧ cur.size = cap ∧ bs.length ≤ cap ∧ cap ≤ maxLen ∧ cur.toList.take bs.length = bs

theorem BufAt.kept {w w' : World} {D : Nat} {row : Option Nat} {bs : List Value} (h : BufAt w D row bs) (hD : w'.heap[D]? = w.heap[D]?) (hg : ∀ g, row = some g → w'.heap[g]? = w.heap[g]?) : BufAt w' D row bs := by
  cases row with
  | none => exact ⟨h.1, by rw [hD]; exact h.2⟩
  | some g => exact ⟨h.1, by rw [hD, hg g rfl]; exact h.2⟩

/-- What Write leaves. -/
def Wrote (D : Nat) (row : Option Nat) (bs : List Value) (w w' : World) : Prop :=
  ∃ row', BufAt w' D row' bs ∧ (row' = row ∨ ∃ g, row' = some g ∧ w.heap.size ≤ g) ∧ Only (fun k => k = D ∨ row = some k) w w'

end Go.Proofs.YtjmahgefijncaaaGreatFmt

/- bytes.Buffer's Write: the walks. -/
namespace Go.Proofs.YtjmahgefijncaaaGreatFmt
open Go Go.RowKit

theorem byte_size : (Tryz.prog.info? 5).map (·.size) = some 1 := by kernel_rfl

/-- The tail of every way: the row has room and the new bytes go to it. -/
theorem wrote_of {w W1 : World} {D g l n cap : Nat} {row : Option Nat} {bs cs : List Value} {cur : Array Value} {lr : Int}
    (hD : W1.heap[D]? = some (.cells #[.slice (some ⟨g, 0, none⟩) (l + n) cap, .int .i64 0, .int .i8 lr] 183 (0, 0))) (hg : W1.heap[g]? = some (.cells cur 5 (0, 0))) (hgD : g ≠ D)
    (hl : bs.length = l) (hn : cs.length = n) (hcs : cur.size = cap) (hlc : l + n ≤ cap) (hcm : cap ≤ maxLen) (htk : cur.toList.take l = bs) (hrow : some g = row ∨ w.heap.size ≤ g)
    (hf : Only (fun k => k = D ∨ row = some k) w W1) :
    Wrote D row (bs ++ cs) w (W1.setRow g (cur.toList.take l ++ cs ++ cur.toList.drop (l + cs.length)).toArray) := by
  refine ⟨some g, ⟨hgD, lr, cap, _, ?_, setRow_heap W1 g cur _ 5 _ hg, ?_, ?_, hcm, ?_⟩, ?_, hf.setRow ?_ _⟩
  · rw [setRow_other W1 g D _ (fun e => hgD e.symm), hD, List.length_append, hl, hn]
  · simp; omega
  · simp; omega
  · rw [htk]
    exact List.take_left' rfl
  · rcases hrow with h | h
    · exact Or.inl h
    · exact Or.inr ⟨g, rfl, h⟩
  · rcases hrow with h | h
    · exact Or.inr (Or.inr h.symm)
    · exact Or.inl h

set_option maxHeartbeats 1000000 in
set_option maxRecDepth 100000 in
/-- Write where the row has room. -/
theorem write_room (w : World) (D g : Nat) (bs cs : List Value) (cap : Nat) (lr : Int) (cur : Array Value) (a : Addr) (n c : Nat) (hgD : g ≠ D)
    (hD : w.heap[D]? = some (.cells #[.slice (some ⟨g, 0, none⟩) bs.length cap, .int .i64 0, .int .i8 lr] 183 (0, 0))) (hg : w.heap[g]? = some (.cells cur 5 (0, 0)))
    (hcs : cur.size = cap) (hcm : cap ≤ maxLen) (htk : cur.toList.take bs.length = bs) (hroom : bs.length + n ≤ cap) (hn : cs.length = n) (hn1 : 1 ≤ n)
    (hab : a.block ≠ D) (hsrc : ∀ j v, cs[j]? = some v → w.cell? (a.add j) = some v) (h1c : ∀ v ∈ cs, v.oneCell' = true) :
    Calls Tryz.prog 123 #[.pointer (some ⟨D, 0, none⟩), .slice (some a) n c] w fun e w' => e = .returned (.tuple #[.int .i64 n, .nilIface]) ∧ Wrote D (some g) (bs ++ cs) w w' := by
  have c2 : w.cell? ⟨D, 2, none⟩ = some (.int .i8 lr) := blockCell hD 2
  have f2 := blockFrozen hD 2
  have hD1 : (w.setCell ⟨D, 2, none⟩ (.int .i8 0)).heap[D]? = some (.cells #[.slice (some ⟨g, 0, none⟩) bs.length cap, .int .i64 0, .int .i8 0] 183 (0, 0)) := by simpa using blockSet hD 2 (.int .i8 0)
  have d0 : (w.setCell ⟨D, 2, none⟩ (.int .i8 0)).cell? ⟨D, 0, none⟩ = some (.slice (some ⟨g, 0, none⟩) bs.length cap) := blockCell hD1 0
  have g0 := blockFrozen hD1 0
  have hD2 : ((w.setCell ⟨D, 2, none⟩ (.int .i8 0)).setCell ⟨D, 0, none⟩ (.slice (some ⟨g, 0, none⟩) (bs.length + n) cap)).heap[D]? = some (.cells #[.slice (some ⟨g, 0, none⟩) (bs.length + n) cap, .int .i64 0, .int .i8 0] 183 (0, 0)) := by simpa using blockSet hD1 0 (.slice (some ⟨g, 0, none⟩) (bs.length + n) cap)
  have e0 : ((w.setCell ⟨D, 2, none⟩ (.int .i8 0)).setCell ⟨D, 0, none⟩ (.slice (some ⟨g, 0, none⟩) (bs.length + n) cap)).cell? ⟨D, 0, none⟩ = some (.slice (some ⟨g, 0, none⟩) (bs.length + n) cap) := blockCell hD2 0
  have hne : ¬ cap = bs.length := by omega
  have hle : bs.length ≤ bs.length + n := Nat.le_add_right _ _
  have hg1 : ((w.setCell ⟨D, 2, none⟩ (.int .i8 0)).setCell ⟨D, 0, none⟩ (.slice (some ⟨g, 0, none⟩) (bs.length + n) cap)).heap[g]? = some (.cells cur 5 (0, 0)) := by
    rw [Below.heap_setCell _ _ _ _ (by show g ≠ D; exact hgD), Below.heap_setCell _ _ _ _ (by show g ≠ D; exact hgD)]; exact hg
  have hsrc1 : ∀ j v, cs[j]? = some v → ((w.setCell ⟨D, 2, none⟩ (.int .i8 0)).setCell ⟨D, 0, none⟩ (.slice (some ⟨g, 0, none⟩) (bs.length + n) cap)).cell? (a.add j) = some v := fun j v hj =>
    (World.cell?_of_block (w := w) (by rw [Below.heap_setCell _ _ _ _ (by rw [Lib.block_add]; exact hab), Below.heap_setCell _ _ _ _ (by rw [Lib.block_add]; exact hab)])).trans (hsrc j v hj)
  have hcp := run_copy_row (P := Tryz.prog) _ 51 51 3 5 g bs.length n (cap - bs.length) a n c cur 5 cs Tryz.underlying51 byte_size hg1 (by rw [hn]; exact (Nat.min_self n).symm) hsrc1 (by rw [hn]; omega) h1c
  rw [hn] at hcp
  have hcm' := hcm
  unfold maxLen at hcm'
  have hW := wrote_of (w := w) (row := some g) (cs := cs) hD2 hg1 hgD rfl hn hcs hroom hcm htk (Or.inl rfl) (((Only.refl _ w).setCell (Or.inr (Or.inl rfl)) _).setCell (Or.inr (Or.inl rfl)) _)
  rw [hn, List.append_assoc] at hW
  have HW := Lib.hid hW
  clear hW hD hg hD1 hD2 hg1 htk hsrc hsrc1 h1c
  go_enter Tryz.func123, Tryz.ntmps123
  go_wp2_with fail
  refine (Tryz.Buffer_tryGrow_room D _ _ cap n _ d0 g0 (by omega) hcm (by omega)).mono ?_
  rintro e w2 ⟨rfl, rfl⟩
  go_wp2_with fail
  go_ret2
  exact ⟨rfl, HW.out⟩

set_option maxHeartbeats 1000000 in
set_option maxRecDepth 100000 in
/-- Write where there is no room: grow's answer given. -/
theorem write_grow (w : World) (D : Nat) (row : Option Nat) (ao : Option Addr) (bs cs : List Value) (cap : Nat) (lr : Int) (a : Addr) (n c : Nat) (hlc : bs.length ≤ cap)
    (hD : w.heap[D]? = some (.cells #[.slice ao bs.length cap, .int .i64 0, .int .i8 lr] 183 (0, 0))) (hcm : cap ≤ maxLen) (hno : cap - bs.length < n) (hn : cs.length = n)
    (hgrow : Calls Tryz.prog 138 #[.pointer (some ⟨D, 0, none⟩), .int .i64 n] (w.setCell ⟨D, 2, none⟩ (.int .i8 0)) fun e w' => e = .returned (.int .i64 bs.length) ∧ Grew D bs.length n 0 bs (w.setCell ⟨D, 2, none⟩ (.int .i8 0)) w')
    (hab : a.block ≠ D) (hsrc : ∀ j v, cs[j]? = some v → w.cell? (a.add j) = some v) (h1c : ∀ v ∈ cs, v.oneCell' = true) (hlim : bs.length + n ≤ 140737488355328) :
    Calls Tryz.prog 123 #[.pointer (some ⟨D, 0, none⟩), .slice (some a) n c] w fun e w' => e = .returned (.tuple #[.int .i64 n, .nilIface]) ∧ Wrote D row (bs ++ cs) w w' := by
  have c2 : w.cell? ⟨D, 2, none⟩ = some (.int .i8 lr) := blockCell hD 2
  have f2 := blockFrozen hD 2
  have hDlt := blockLt hD
  have hD1 : (w.setCell ⟨D, 2, none⟩ (.int .i8 0)).heap[D]? = some (.cells #[.slice ao bs.length cap, .int .i64 0, .int .i8 0] 183 (0, 0)) := by simpa using blockSet hD 2 (.int .i8 0)
  have d0 : (w.setCell ⟨D, 2, none⟩ (.int .i8 0)).cell? ⟨D, 0, none⟩ = some (.slice ao bs.length cap) := blockCell hD1 0
  have hk0 : Only (fun k => k = D ∨ row = some k) w (w.setCell ⟨D, 2, none⟩ (.int .i8 0)) := (Only.refl _ w).setCell (Or.inr (Or.inl rfl)) _
  have hsz : (w.setCell ⟨D, 2, none⟩ (.int .i8 0)).heap.size = w.heap.size := by simp [World.setCell]
  have hsrc1 : ∀ j v, cs[j]? = some v → (w.setCell ⟨D, 2, none⟩ (.int .i8 0)).cell? (a.add j) = some v := fun j v hj =>
    (World.cell?_of_block (w := w) (by rw [Below.heap_setCell _ _ _ _ (by rw [Lib.block_add]; exact hab)])).trans (hsrc j v hj)
  have HG := Lib.hid hgrow
  have HK := Lib.hid hk0
  have HSZ := Lib.hid hsz
  have HSRC := Lib.hid hsrc1
  have HL := Lib.hid hlim
  clear hgrow hk0 hsz hD hD1 hsrc hsrc1 hlim
  go_enter Tryz.func123, Tryz.ntmps123
  go_wp2_with fail
  refine (Tryz.Buffer_tryGrow_none D _ _ cap n _ d0 hlc hcm hno).mono ?_
  rintro e w2 ⟨rfl, rfl⟩
  go_wp2_with fail
  refine HG.out.mono ?_
  rintro e W1 ⟨rfl, G, cap2, cells, hG, hDG, hGG, hcs2, hroom2, hcm2, htk2, hk2⟩
  have hG' : w.heap.size ≤ G := by rw [HSZ.out] at hG; exact hG
  have hGD : G ≠ D := by omega
  have k0 : W1.cell? ⟨D, 0, none⟩ = some (.slice (some ⟨G, 0, none⟩) (bs.length + n) cap2) := blockCell hDG 0
  have hne : ¬ cap2 = bs.length := by omega
  have hle : bs.length ≤ bs.length + n := Nat.le_add_right _ _
  have hle2 : bs.length ≤ cap2 := by omega
  have hsrc2 : ∀ j v, cs[j]? = some v → W1.cell? (a.add j) = some v := fun j v hj =>
    (hk2.cell (p := a.add j) (World.block_lt_of_cell? _ _ (HSRC.out j v hj)) (by rw [Lib.block_add]; exact hab)).trans (HSRC.out j v hj)
  have hcp := run_copy_row (P := Tryz.prog) _ 51 51 3 5 G bs.length n (cap2 - bs.length) a n c cells 5 cs Tryz.underlying51 byte_size hGG (by rw [hn]; exact (Nat.min_self n).symm) hsrc2 (by rw [hn]; omega) h1c
  rw [hn] at hcp
  have hcm' := hcm2
  unfold maxLen at hcm'
  have hW := wrote_of (w := w) (row := row) (cs := cs) hDG hGG hGD rfl hn hcs2 hroom2 hcm2 htk2 (Or.inr hG') (HK.out.trans2 (Only.ofKeep hk2) (fun i _ e => Or.inl e))
  rw [hn, List.append_assoc] at hW
  have HW := Lib.hid hW
  have HCP := Lib.hid hcm2
  clear hW hDG hGG htk2 hsrc2 hcm2
  go_wp2_with fail
  go_ret2
  exact ⟨rfl, HW.out⟩

set_option maxHeartbeats 1000000 in
set_option maxRecDepth 100000 in
/-- Write of nothing. -/
theorem write_zero (w : World) (D : Nat) (row : Option Nat) (bs : List Value) (h : BufAt w D row bs) (ao : Option Addr) (c : Nat) :
    Calls Tryz.prog 123 #[.pointer (some ⟨D, 0, none⟩), .slice ao 0 c] w fun e w' => e = .returned (.tuple #[.int .i64 (0 : Nat), .nilIface]) ∧ Wrote D row (bs ++ []) w w' := by
  obtain ⟨bo, cap, lr, hD, hlc, hcm, hback, hbo⟩ : ∃ bo cap lr, w.heap[D]? = some (.cells #[.slice bo bs.length cap, .int .i64 0, .int .i8 lr] 183 (0, 0)) ∧ bs.length ≤ cap ∧ cap ≤ maxLen ∧
      (∀ w' lr', w'.heap[D]? = some (.cells #[.slice bo bs.length cap, .int .i64 0, .int .i8 lr'] 183 (0, 0)) → (∀ k, k ≠ D → w'.heap[k]? = w.heap[k]?) → BufAt w' D row bs) ∧ (bo = none ∧ cap = 0 ∨ ∃ g, bo = some ⟨g, 0, none⟩) := by
    cases row with
    | none =>
      obtain ⟨rfl, lr, hD⟩ := h
      exact ⟨none, 0, lr, hD, Nat.le_refl _, by decide, fun w' lr' h' _ => ⟨rfl, lr', h'⟩, Or.inl ⟨rfl, rfl⟩⟩
    | some g =>
      obtain ⟨hgD, lr, cap, cur, hD, hg, h1, h2, h3, h4⟩ := h
      exact ⟨some ⟨g, 0, none⟩, cap, lr, hD, h2, h3, fun w' lr' h' hk => ⟨hgD, lr', cap, cur, h', by rw [hk g hgD]; exact hg, h1, h2, h3, h4⟩, Or.inr ⟨g, rfl⟩⟩
  have c2 : w.cell? ⟨D, 2, none⟩ = some (.int .i8 lr) := blockCell hD 2
  have f2 := blockFrozen hD 2
  have hD1 : (w.setCell ⟨D, 2, none⟩ (.int .i8 0)).heap[D]? = some (.cells #[.slice bo bs.length cap, .int .i64 0, .int .i8 0] 183 (0, 0)) := by simpa using blockSet hD 2 (.int .i8 0)
  have d0 : (w.setCell ⟨D, 2, none⟩ (.int .i8 0)).cell? ⟨D, 0, none⟩ = some (.slice bo bs.length cap) := blockCell hD1 0
  have g0 := blockFrozen hD1 0
  have hD2 : ((w.setCell ⟨D, 2, none⟩ (.int .i8 0)).setCell ⟨D, 0, none⟩ (.slice bo bs.length cap)).heap[D]? = some (.cells #[.slice bo bs.length cap, .int .i64 0, .int .i8 0] 183 (0, 0)) := by simpa using blockSet hD1 0 (.slice bo bs.length cap)
  have e0 : ((w.setCell ⟨D, 2, none⟩ (.int .i8 0)).setCell ⟨D, 0, none⟩ (.slice bo bs.length cap)).cell? ⟨D, 0, none⟩ = some (.slice bo bs.length cap) := blockCell hD2 0
  have hW : Wrote D row (bs ++ []) w ((w.setCell ⟨D, 2, none⟩ (.int .i8 0)).setCell ⟨D, 0, none⟩ (.slice bo bs.length cap)) := by
    rw [List.append_nil]
    refine ⟨row, hback _ 0 hD2 (fun k hk => by rw [Below.heap_setCell _ _ _ _ hk, Below.heap_setCell _ _ _ _ hk]), Or.inl rfl, ((Only.refl _ w).setCell (Or.inr (Or.inl rfl)) _).setCell (Or.inr (Or.inl rfl)) _⟩
  have HW := Lib.hid hW
  have hcp := fun (w : World) (d : Option Addr) (dl dc : Nat) => run_copy_none (P := Tryz.prog) w 51 51 3 5 d ao dl dc 0 c Tryz.underlying51 byte_size (Nat.zero_min _)
  have HCM := Lib.hid hcm
  clear hW hD hD1 hD2 hback hcm
  go_enter Tryz.func123, Tryz.ntmps123
  rcases hbo with ⟨rfl, rfl⟩ | ⟨g, rfl⟩
  · have hl0 : bs.length = 0 := Nat.le_zero.1 hlc
    rw [hl0] at d0 e0 HW
    go_wp2_with fail
    refine (Tryz.Buffer_tryGrow_room D none 0 0 0 _ d0 g0 (Nat.le_refl _) (Nat.zero_le _) (Nat.le_refl _)).mono ?_
    rintro e w2 ⟨rfl, rfl⟩
    go_wp2_with fail
    go_ret2
    exact ⟨rfl, HW.out⟩
  · go_wp2_with fail
    refine (Tryz.Buffer_tryGrow_room D _ bs.length cap 0 _ d0 g0 hlc HCM.out (Nat.zero_le _)).mono ?_
    rintro e w2 ⟨rfl, rfl⟩
    have hcm' := HCM.out
    unfold maxLen at hcm'
    by_cases hcl : cap = bs.length
    all_goals
      go_wp2_with fail
      go_ret2
      refine ⟨rfl, ?_⟩
      have hW := HW.out
      first
        | exact hW
        | (rw [hcl] at hW; exact hW)

/-- A slice of bytes that reads cs, out of a block other than D. -/
def Src (w : World) (D : Nat) (cs : List Value) (v : Value) : Prop :=
  ∃ ao c, v = .slice ao cs.length c ∧ (cs = [] ∨ ∃ a, ao = some a ∧ a.block ≠ D ∧ ∀ j v, cs[j]? = some v → w.cell? (a.add j) = some v)

/-- Write, whatever lies there. -/
theorem write_any (w : World) (D : Nat) (row : Option Nat) (bs cs : List Value) (v : Value) (n : Int) (h : BufAt w D row bs) (hs : Src w D cs v) (hn : n = (cs.length : Int))
    (h1 : ∀ v ∈ bs, v.oneCell' = true) (h1c : ∀ v ∈ cs, v.oneCell' = true) (hlim : bs.length + cs.length ≤ 140737488355328) :
    Calls Tryz.prog 123 #[.pointer (some ⟨D, 0, none⟩), v] w fun e w' => e = .returned (.tuple #[.int .i64 n, .nilIface]) ∧ Wrote D row (bs ++ cs) w w' := by
  subst hn
  obtain ⟨ao, c, rfl, hs⟩ := hs
  by_cases h0 : cs.length = 0
  · have : cs = [] := List.length_eq_zero_iff.1 h0
    subst this
    exact write_zero w D row bs h ao c
  · obtain ⟨a, rfl, hab, hsrc⟩ : ∃ a, ao = some a ∧ a.block ≠ D ∧ ∀ j v, cs[j]? = some v → w.cell? (a.add j) = some v := hs.resolve_left (fun e => h0 (by rw [e]; rfl))
    have hn1 : 1 ≤ cs.length := by omega
    cases row with
    | none =>
      obtain ⟨rfl, lr, hD⟩ := h
      have hD1 : (w.setCell ⟨D, 2, none⟩ (.int .i8 0)).heap[D]? = some (.cells #[.slice none 0 0, .int .i64 0, .int .i8 0] 183 (0, 0)) := by simpa using blockSet hD 2 (.int .i8 0)
      refine write_grow w D none none [] cs 0 lr a cs.length c (Nat.le_refl _) hD (by decide) (by show 0 - 0 < cs.length; omega) rfl ?_ hab hsrc h1c hlim
      by_cases h64 : cs.length ≤ 64
      · exact grow_nil_small _ D cs.length 0 hD1 hn1 h64
      · exact grow_nil_big _ D cs.length 0 hD1 (by omega) (by simpa using hlim)
    | some g =>
      obtain ⟨hgD, lr, cap, cur, hD, hg, k1, k2, k3, k4⟩ := h
      by_cases hroom : bs.length + cs.length ≤ cap
      · exact write_room w D g bs cs cap lr cur a cs.length c hgD hD hg k1 k3 k4 hroom rfl hn1 hab hsrc h1c
      · have hD1 : (w.setCell ⟨D, 2, none⟩ (.int .i8 0)).heap[D]? = some (.cells #[.slice (some ⟨g, 0, none⟩) bs.length cap, .int .i64 0, .int .i8 0] 183 (0, 0)) := by simpa using blockSet hD 2 (.int .i8 0)
        refine write_grow w D (some g) (some ⟨g, 0, none⟩) bs cs cap lr a cs.length c k2 hD k3 (by omega) rfl ?_ hab hsrc h1c hlim
        have hgr := grow_row (w.setCell ⟨D, 2, none⟩ (.int .i8 0)) D g bs.length cap cs.length 0 cur hD1 (by rw [Below.heap_setCell _ _ _ _ (by show g ≠ D; exact hgD)]; exact hg) k1 k2 hn1 (by omega) hlim hgD (by rw [k4]; exact h1)
        rw [k4] at hgr
        exact hgr
end Go.Proofs.YtjmahgefijncaaaGreatFmt

