/- bytes.Buffer's grow: which blocks it turns, and how. -/
import Derived.Test.YtdfehaonngccjaaGreatDoorZ5
import Derived.Test.YtdfehaonngccjaaGreatDoorShelf
import Derived.Deep.QuietTactic
import Derived.BigQuiet
import Derived.Deep.RegionWith
import Derived.WalkSpells
import Derived.Outline
import Derived.Laws.MakeOwn
import Derived.OwnWalk
set_option linter.unusedVariables false
set_option linter.unusedSimpArgs false
namespace Go.Proofs.YtdfehaonngccjaaGreatDoor
open Go Go.RowKit

/-- What grow leaves: a new row, with room. -/
def Grew (D l n : Nat) (lr : Int) (old : List Value) (w w' : World) : Prop :=
  ∃ (G cap2 : Nat) (cells : Array Value), w.heap.size ≤ G ∧ w'.heap[D]? = some (.cells #[.slice (some ⟨G, 0, none⟩) (l + n) cap2, .int .i64 0, .int .i8 lr] 122 (0, 0)) ∧
    w'.heap[G]? = some (.cells cells 5 (0, 0)) ∧ cells.size = cap2 ∧ l + n ≤ cap2 ∧ cap2 ≤ maxLen ∧ cells.toList.take l = old ∧ Keep w.heap.size D w w'

theorem keep_below {w w' : World} {k : Nat} (h : Below (w.drewN k).heap.size (w.drewN k) w') (D : Nat) : Keep w.heap.size D w w' :=
  ⟨h.os, h.tape, h.output, h.size, fun i hi _ => h.block i hi⟩

theorem grew_of (w w3 : World) (D l n : Nat) (x : Value) (cap2 k : Nat) (lr : Int) (cells : Array Value) (hb : Below (w.drewN k).heap.size (w.drewN k) w3)
    (hD : w3.heap[D]? = some (.cells #[x, .int .i64 0, .int .i8 lr] 122 (0, 0))) (hn3 : w3.heap[w.heap.size]? = some (.cells cells 5 (0, 0))) (hsz : cells.size = cap2) (hroom : l + n ≤ cap2) (hm : cap2 ≤ maxLen) (hDlt : D < w.heap.size) (y : Value) :
    Grew D l n lr (cells.toList.take l) w (((w3.setCell ⟨D, 0, none⟩ y).setCell ⟨D, 1, none⟩ (.int .i64 0)).setCell ⟨D, 0, none⟩ (.slice (some ⟨w.heap.size, 0, none⟩) (l + n) cap2)) := by
  have h1 := blockSet hD 0 y
  have h2 := blockSet h1 1 (.int .i64 0)
  have h3 := blockSet h2 0 (.slice (some ⟨w.heap.size, 0, none⟩) (l + n) cap2)
  refine ⟨w.heap.size, cap2, cells, Nat.le_refl _, by simpa using h3, ?_, hsz, hroom, hm, rfl, (((keep_below hb D).setCell (Or.inr rfl) _).setCell (Or.inr rfl) _).setCell (Or.inr rfl) _⟩
  rw [Below.heap_setCell _ _ _ _ (by show w.heap.size ≠ D; omega), Below.heap_setCell _ _ _ _ (by show w.heap.size ≠ D; omega), Below.heap_setCell _ _ _ _ (by show w.heap.size ≠ D; omega)]
  exact hn3

set_option maxHeartbeats 8000000 in
set_option maxRecDepth 100000 in
theorem grow_row (w : World) (D g l cap n : Nat) (lr : Int) (cur : Array Value) (hD : w.heap[D]? = some (.cells #[.slice (some ⟨g, 0, none⟩) l cap, .int .i64 0, .int .i8 lr] 122 (0, 0)))
    (hg : w.heap[g]? = some (.cells cur 5 (0, 0))) (hcs : cur.size = cap) (hlc : l ≤ cap) (hn : 1 ≤ n) (hroom : cap - l < n) (hlim : l + n ≤ 140737488355328) (hgD : g ≠ D) (h1 : ∀ v ∈ cur.toList.take l, v.oneCell' = true) :
    Calls Tryz.prog 69 #[.pointer (some ⟨D, 0, none⟩), .int .i64 n] w fun e w' => e = .returned (.int .i64 l) ∧ Grew D l n lr (cur.toList.take l) w w' := by
  have hmax : cap ≤ maxLen := by simp only [maxLen]; omega
  have hIs : Lib.IsBuffer 122 5 0 D (cur.toList.take l) w := ⟨Nat.zero_le _, _, lr, hD, ⟨by simp, Or.inr ⟨g, cap, cur, by simp <;> omega, Nat.zero_le _, hg, by simp <;> omega, hmax, by omega, by simp⟩⟩, by simp [Value.ownBlock] <;> omega⟩
  have hlen : (cur.toList.take l).length = l := by simp <;> omega
  have hLen := Tryz.Buffer_Len 0 D _ w hIs
  rw [hlen] at hLen
  have HLEN := Lib.hid hLen
  clear hIs hlen hLen
  have c0 : w.cell? ⟨D, 0, none⟩ = some (.slice (some ⟨g, 0, none⟩) l cap) := blockCell hD 0
  have c1 : w.cell? ⟨D, 1, none⟩ = some (.int .i64 0) := blockCell hD 1
  have f0 := blockFrozen hD 0
  have f1 := blockFrozen hD 1
  have hDlt := blockLt hD
  have HD := Lib.hid hD
  have HG := Lib.hid hg
  have HC := Lib.hid hcs
  have H1 := Lib.hid h1
  clear hD hg hcs h1
  go_enter Tryz.func69, Tryz.ntmps69
  go_wp2_with fail
  refine HLEN.out.mono ?_
  rintro e w1 ⟨rfl, k, rfl⟩
  have hq : ¬ (n : Int) ≤ (cap : Int) / 2 - (l : Int) := by omega
  have hcb : cap ≤ 140737488355328 := by omega
  have HCB := Lib.hid hcb
  clear hcb
  have hnil := fun (w : World) => Lib.run_eql_slice_nil (P := Tryz.prog) (t := 25) (w := w)
  have t0 : ((l : Int) == 0) = true ∨ ((l : Int) == 0) = false := by cases h : ((l : Int) == 0) <;> simp
  rcases t0 with t0 | t0
  all_goals
    go_wp2_with fail
    refine (Tryz.Buffer_tryGrow_none D (some ⟨g, 0, none⟩) l cap n (w.drewN k) c0 hlc hmax hroom).mono ?_
    rintro e w2 ⟨rfl, rfl⟩
    go_wp2_with fail
    have hg2 : (w.drewN (k + 1)).heap[g]? = _ := HG.out
    have HG2 := Lib.hid hg2
    clear hg2
    have hwn : IntKind.i64.wrap (n : Int) = (n : Int) := IntWalk.i64_in _ (by constructor <;> omega)
    go_region_with ((go_at_call 83; refine (Tryz.bytes_growSlice_row g l cap n cur (w.drewN (k + 1)) HG2.out HC.out hlc hn hlim HCB.out H1.out).mono ?_; rintro e w3 ⟨cap2, cells, rfl, hn3, hsz, htk, hroom2, hm2, hb3⟩; have hD3 : w3.heap[D]? = some (.cells #[.slice (some ⟨g, 0, none⟩) l cap, .int .i64 0, .int .i8 lr] 122 (0, 0)) := (hb3.block D hDlt).trans HD.out; have d0 := blockFrozen hD3 0; have d1 := blockFrozen hD3 1; have e0 : w3.cell? ⟨D, 0, none⟩ = some (.slice (some ⟨g, 0, none⟩) l cap) := blockCell hD3 0; have e1 : w3.cell? ⟨D, 1, none⟩ = some (.int .i64 0) := blockCell hD3 1))
    go_wp2_with fail
    all_goals
      refine bodyPost_ret (v := .int .i64 l) (by simp [results, Tryz.results69, go_sem]) rfl ⟨rfl, ?_⟩
      rw [← htk]
      exact grew_of w w3 D l n _ cap2 (k + 1) lr cells hb3 hD3 hn3 hsz hroom2 hm2 hDlt _
end Go.Proofs.YtdfehaonngccjaaGreatDoor

/- bytes.Buffer's grow, where it holds nothing. -/
namespace Go.Proofs.YtdfehaonngccjaaGreatDoor
open Go Go.RowKit

theorem info_byte : ∃ i, Tryz.prog.info? 5 = some i ∧ i.zero = some (.int .u8 0) ∧ i.size = 1 ∧ i.bytes = 1 := info_parts (by kernel_rfl)

set_option maxHeartbeats 1000000 in
set_option maxRecDepth 100000 in
theorem grow_nil_small (w : World) (D n : Nat) (lr : Int) (hD : w.heap[D]? = some (.cells #[.slice none 0 0, .int .i64 0, .int .i8 lr] 122 (0, 0))) (hn : 1 ≤ n) (h64 : n ≤ 64) :
    Calls Tryz.prog 69 #[.pointer (some ⟨D, 0, none⟩), .int .i64 n] w fun e w' => e = .returned (.int .i64 0) ∧ Grew D 0 n lr [] w w' := by
  have hIs : Lib.IsBuffer 122 5 0 D [] w := ⟨Nat.zero_le _, _, lr, hD, ⟨by simp, Or.inl ⟨rfl, rfl⟩⟩, by simp [Value.ownBlock]⟩
  have hLen := Tryz.Buffer_Len 0 D _ w hIs
  have HLEN := Lib.hid hLen
  clear hIs hLen
  have c0 : w.cell? ⟨D, 0, none⟩ = some (.slice none 0 0) := blockCell hD 0
  have c1 : w.cell? ⟨D, 1, none⟩ = some (.int .i64 0) := blockCell hD 1
  have f0 := blockFrozen hD 0
  have f1 := blockFrozen hD 1
  have hDlt := blockLt hD
  obtain ⟨i0, hi, hz0, hz1, hz2⟩ := info_byte
  obtain ⟨M, hM⟩ : ∃ M, M = madeCells (Value.int .u8 0).cells ((64 : Int).toNat * i0.size) := ⟨_, rfl⟩
  have hMs : M.size = 64 := by rw [hM, size_madeCells, hz1]; rfl
  have hmk : ∀ W : World, (Instr.makeSlice 25 (.int .i64 (n : Int)) (.int .i64 64)).run Tryz.prog W = .ok (.slice (some ⟨W.heap.size, 0, none⟩) n 64) (W.alloc (.cells M 5)) := fun W => by
    have h := run_makeSlice W 25 5 i0 (.int .u8 0) Tryz.underlying25 hi hz0 .i64 .i64 (n : Int) 64 (by omega) (by omega) (by rw [hz1]; decide) (by rw [hz2]; decide) (by decide)
    rw [← hM] at h
    simpa using h
  clear hM
  have hnil : ∀ W, (binOp .eql 25 (.slice none 0 0) (.slice none 0 0)).run Tryz.prog W = .ok (.bool true) W := fun W => Lib.run_eql_slice_nil_nil W _ _ Tryz.underlying25
  have c0a : ∀ k o, ((w.drewN k).alloc o).cell? ⟨D, 0, none⟩ = some (.slice none 0 0) := fun k o => (World.cell?_of_block (a := ⟨D, 0, none⟩) (Below.heap_alloc (w.drewN k) o D hDlt)).trans c0
  have f0a : ∀ k o, ((w.drewN k).alloc o).frozen? ⟨D, 0, none⟩ = false := fun k o => (World.frozen?_of_block (a := ⟨D, 0, none⟩) (Below.heap_alloc (w.drewN k) o D hDlt)).trans f0
  have HD := Lib.hid hD
  clear hD
  go_enter Tryz.func69, Tryz.ntmps69
  go_wp2_with fail
  refine HLEN.out.mono ?_
  rintro e w1 ⟨rfl, k, rfl⟩
  go_wp2_with fail
  refine (Tryz.Buffer_tryGrow_none D none 0 0 n (w.drewN k) c0 (Nat.le_refl _) (Nat.zero_le _) (by omega)).mono ?_
  rintro e w2 ⟨rfl, rfl⟩
  go_wp2_with fail
  go_ret
  refine ⟨rfl, ?_⟩
  have h1 := blockSet ((Below.heap_alloc (w.drewN k) (.cells M 5) D hDlt).trans HD.out) 0 (.slice (some ⟨w.heap.size, 0, none⟩) n 64)
  refine ⟨w.heap.size, 64, M, Nat.le_refl _, by simpa using h1, ?_, hMs, by omega, by decide, by simp, ?_⟩
  · rw [Below.heap_setCell _ _ _ _ (by show w.heap.size ≠ D; omega)]
    exact heap_alloc_new (w.drewN k) _
  · exact (((Keep.refl w.heap.size D w).drewN k).alloc (Nat.le_refl _) _).setCell (Or.inr rfl) _

set_option maxHeartbeats 4000000 in
set_option maxRecDepth 100000 in
theorem grow_nil_big (w : World) (D n : Nat) (lr : Int) (hD : w.heap[D]? = some (.cells #[.slice none 0 0, .int .i64 0, .int .i8 lr] 122 (0, 0))) (h64 : 64 < n) (hlim : n ≤ 140737488355328) :
    Calls Tryz.prog 69 #[.pointer (some ⟨D, 0, none⟩), .int .i64 n] w fun e w' => e = .returned (.int .i64 0) ∧ Grew D 0 n lr [] w w' := by
  have hn : 1 ≤ n := by omega
  have hIs : Lib.IsBuffer 122 5 0 D [] w := ⟨Nat.zero_le _, _, lr, hD, ⟨by simp, Or.inl ⟨rfl, rfl⟩⟩, by simp [Value.ownBlock]⟩
  have hLen := Tryz.Buffer_Len 0 D _ w hIs
  have HLEN := Lib.hid hLen
  clear hIs hLen
  have c0 : w.cell? ⟨D, 0, none⟩ = some (.slice none 0 0) := blockCell hD 0
  have c1 : w.cell? ⟨D, 1, none⟩ = some (.int .i64 0) := blockCell hD 1
  have f0 := blockFrozen hD 0
  have f1 := blockFrozen hD 1
  have hDlt := blockLt hD
  have hnil : ∀ W, (binOp .eql 25 (.slice none 0 0) (.slice none 0 0)).run Tryz.prog W = .ok (.bool true) W := fun W => Lib.run_eql_slice_nil_nil W _ _ Tryz.underlying25
  have hwn : IntKind.i64.wrap (n : Int) = (n : Int) := IntWalk.i64_in _ (by constructor <;> omega)
  have HD := Lib.hid hD
  clear hD
  go_enter Tryz.func69, Tryz.ntmps69
  go_wp2_with fail
  refine HLEN.out.mono ?_
  rintro e w1 ⟨rfl, k, rfl⟩
  go_wp2_with fail
  refine (Tryz.Buffer_tryGrow_none D none 0 0 n (w.drewN k) c0 (Nat.le_refl _) (Nat.zero_le _) (by omega)).mono ?_
  rintro e w2 ⟨rfl, rfl⟩
  go_wp2_with fail
  go_region_with ((go_at_call 83; refine (Tryz.bytes_growSlice_nil n (w.drewN (k + 1)) hn hlim).mono ?_; rintro e w3 ⟨cap2, cells, rfl, hn3, hsz, hroom2, hm2, hb3⟩; have hD3 : w3.heap[D]? = some (.cells #[.slice none 0 0, .int .i64 0, .int .i8 lr] 122 (0, 0)) := (hb3.block D hDlt).trans HD.out; have d0 := blockFrozen hD3 0; have d1 := blockFrozen hD3 1; have e0 : w3.cell? ⟨D, 0, none⟩ = some (.slice none 0 0) := blockCell hD3 0; have e1 : w3.cell? ⟨D, 1, none⟩ = some (.int .i64 0) := blockCell hD3 1))
  all_goals
    go_wp2_with fail
    go_ret
    refine ⟨rfl, ?_⟩
    have hG := grew_of w w3 D 0 n _ cap2 (k + 1) lr cells hb3 hD3 hn3 hsz (by omega) hm2 hDlt (.slice (some ⟨w.heap.size, 0, none⟩) 0 cap2)
    simpa using hG
end Go.Proofs.YtdfehaonngccjaaGreatDoor

/- bytes.Buffer's Write, with its frame exact. -/
namespace Go.Proofs.YtdfehaonngccjaaGreatDoor
open Go Go.RowKit

/-- Old blocks stand but for those of S. -/
structure Only (S : Nat → Prop) (w w' : World) : Prop where
  os : w'.os = w.os
  tape : w'.tape = w.tape
  output : w'.output = w.output
  size : w.heap.size ≤ w'.heap.size
  block : ∀ k, k < w.heap.size → ¬ S k → w'.heap[k]? = w.heap[k]?

namespace Only
variable {S : Nat → Prop} {a w w' : World}
theorem refl (S : Nat → Prop) (w : World) : Only S w w := ⟨rfl, rfl, rfl, Nat.le_refl _, fun _ _ _ => rfl⟩
theorem trans (h : Only S a w) (k : Only S w w') : Only S a w' :=
  ⟨k.os.trans h.os, k.tape.trans h.tape, k.output.trans h.output, Nat.le_trans h.size k.size, fun i hi hs => (k.block i (Nat.lt_of_lt_of_le hi h.size) hs).trans (h.block i hi hs)⟩
theorem weaken (h : Only S w w') {T : Nat → Prop} (hT : ∀ k, k < w.heap.size → S k → T k) : Only T w w' :=
  ⟨h.os, h.tape, h.output, h.size, fun k hk hs => h.block k hk (fun e => hs (hT k hk e))⟩
theorem trans2 {T : Nat → Prop} (h : Only S a w) (k : Only T w w') (hT : ∀ i, i < a.heap.size → T i → S i) : Only S a w' :=
  ⟨k.os.trans h.os, k.tape.trans h.tape, k.output.trans h.output, Nat.le_trans h.size k.size, fun i hi hs => (k.block i (Nat.lt_of_lt_of_le hi h.size) (fun e => hs (hT i hi e))).trans (h.block i hi hs)⟩
theorem ofKeep {D : Nat} (h : Keep w.heap.size D w w') : Only (· = D) w w' := ⟨h.os, h.tape, h.output, h.size, fun k hk hr => h.block k hk hr⟩
theorem toKeep {B D : Nat} (h : Only S w w') (hS : ∀ k, S k → B ≤ k ∨ k = D) (hB : B ≤ w.heap.size) : Keep B D w w' :=
  ⟨h.os, h.tape, h.output, h.size, fun k hk hr => h.block k (by omega) (fun e => by rcases hS k e with h1 | h1 <;> omega)⟩
theorem drew (h : Only S a w) : Only S a w.drew := ⟨h.os, h.tape, h.output, h.size, h.block⟩
theorem drewN (h : Only S a w) (n : Nat) : Only S a (w.drewN n) := ⟨h.os, h.tape, h.output, h.size, h.block⟩
theorem alloc (h : Only S a w) (o : Obj) : Only S a (w.alloc o) :=
  ⟨h.os, h.tape, h.output, by have := (Below.refl w.heap.size w).alloc (Nat.le_refl _) o; exact Nat.le_trans h.size this.size, fun k hk hs => (Below.heap_alloc w o k (Nat.lt_of_lt_of_le hk h.size)).trans (h.block k hk hs)⟩
theorem setCell (h : Only S a w) {p : Addr} (hp : a.heap.size ≤ p.block ∨ S p.block) (u : Value) : Only S a (w.setCell p u) :=
  ⟨h.os, h.tape, h.output, by simp [World.setCell]; exact h.size, fun k hk hs => (Below.heap_setCell _ _ _ _ (fun e => by rcases hp with hp | hp; omega; exact hs (e ▸ hp))).trans (h.block k hk hs)⟩
theorem setRow (h : Only S a w) {g : Nat} (hp : a.heap.size ≤ g ∨ S g) (cs : Array Value) : Only S a (w.setRow g cs) :=
  ⟨h.os, h.tape, h.output, by simp [World.setRow]; exact h.size, fun k hk hs => (setRow_other w g k cs (fun e => by rcases hp with hp | hp; omega; exact hs (e ▸ hp))).trans (h.block k hk hs)⟩
theorem same {b : World} (h : Only S a w) (k : Same w b) : Only S a b := ⟨k.os.trans h.os, k.tape.trans h.tape, k.output.trans h.output, by rw [k.heap]; exact h.size, fun i hi hs => by rw [k.heap]; exact h.block i hi hs⟩
theorem ofSame (k : Same w w') : Only S w w' := (refl S w).same k
theorem cell (h : Only S w w') {p : Addr} (hp : p.block < w.heap.size) (hr : ¬ S p.block) : w'.cell? p = w.cell? p := World.cell?_of_block (w := w) (h.block p.block hp hr)
end Only

/-- A bytes.Buffer that nobody has read from: what it holds, and its row. -/
def BufAt (w : World) (D : Nat) (row : Option Nat) (bs : List Value) : Prop :=
  match row with
  | none => bs = [] ∧ ∃ lr, w.heap[D]? = some (.cells #[.slice none 0 0, .int .i64 0, .int .i8 lr] 122 (0, 0))
  | some g => g ≠ D ∧ ∃ lr cap cur, w.heap[D]? = some (.cells #[.slice (some ⟨g, 0, none⟩) bs.length cap, .int .i64 0, .int .i8 lr] 122 (0, 0)) ∧
      w.heap[g]? = some (.cells cur 5 (0, 0)) ∧ cur.size = cap ∧ bs.length ≤ cap ∧ cap ≤ maxLen ∧ cur.toList.take bs.length = bs

theorem BufAt.kept {w w' : World} {D : Nat} {row : Option Nat} {bs : List Value} (h : BufAt w D row bs) (hD : w'.heap[D]? = w.heap[D]?) (hg : ∀ g, row = some g → w'.heap[g]? = w.heap[g]?) : BufAt w' D row bs := by
  cases row with
  | none => exact ⟨h.1, by rw [hD]; exact h.2⟩
  | some g => exact ⟨h.1, by rw [hD, hg g rfl]; exact h.2⟩

/-- What Write leaves. -/
def Wrote (D : Nat) (row : Option Nat) (bs : List Value) (w w' : World) : Prop :=
  ∃ row', BufAt w' D row' bs ∧ (row' = row ∨ ∃ g, row' = some g ∧ w.heap.size ≤ g) ∧ Only (fun k => k = D ∨ row = some k) w w'

end Go.Proofs.YtdfehaonngccjaaGreatDoor

