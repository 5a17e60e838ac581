/- bytes.Buffer's grow, where it holds nothing. -/
import Derived.Test.YtjmahgefijncaaaGreatFmtJ12
import Derived.Laws.MakeOwn
import Derived.OwnWalk
import Derived.Test.YtjmahgefijncaaaGreatFmtJ1
import Derived.Lib.BufferSrc
import Derived.Test.YtjmahgefijncaaaGreatFmtJ11
import Derived.Laws.IdiomStrings
set_option linter.unusedVariables false
set_option linter.unusedSimpArgs false
namespace Go.Proofs.YtjmahgefijncaaaGreatFmt
open Go Go.RowKit

theorem info_byteB : ∃ i, Tryz.prog.info? 5 = some i ∧ i.zero = some (.int .u8 0) ∧ i.size = 1 ∧ i.bytes = 1 := info_parts (by kernel_rfl)

set_option maxHeartbeats 1000000 in
set_option maxRecDepth 100000 in
theorem grow_nil_small (w : World) (D n : Nat) (lr : Int) (hD : w.heap[D]? = some (.cells #[.slice none 0 0, .int .i64 0, .int .i8 lr] 183 (0, 0))) (hn : 1 ≤ n) (h64 : n ≤ 64) :
    Calls Tryz.prog 138 #[.pointer (some ⟨D, 0, none⟩), .int .i64 n] w fun e w' => e = .returned (.int .i64 0) ∧ Grew D 0 n lr [] w w' := by
  have hIs : Lib.IsBuffer 183 5 0 D [] w := ⟨Nat.zero_le _, _, lr, hD, ⟨by simp, Or.inl ⟨rfl, rfl⟩⟩, by simp [Value.ownBlock]⟩
  have hLen := Tryz.Buffer_Len 0 D _ w hIs
  have HLEN := Lib.hid hLen
  clear hIs hLen
  have c0 : w.cell? ⟨D, 0, none⟩ = some (.slice none 0 0) := blockCell hD 0
  have c1 : w.cell? ⟨D, 1, none⟩ = some (.int .i64 0) := blockCell hD 1
  have f0 := blockFrozen hD 0
  have f1 := blockFrozen hD 1
  have hDlt := blockLt hD
  obtain ⟨i0, hi, hz0, hz1, hz2⟩ := info_byteB
  obtain ⟨M, hM⟩ : ∃ M, M = madeCells (Value.int .u8 0).cells ((64 : Int).toNat * i0.size) := ⟨_, rfl⟩
  have hMs : M.size = 64 := by rw [hM, size_madeCells, hz1]; rfl
  have hmk : ∀ W : World, (Instr.makeSlice 51 (.int .i64 (n : Int)) (.int .i64 64)).run Tryz.prog W = .ok (.slice (some ⟨W.heap.size, 0, none⟩) n 64) (W.alloc (.cells M 5)) := fun W => by
    have h := run_makeSlice W 51 5 i0 (.int .u8 0) Tryz.underlying51 hi hz0 .i64 .i64 (n : Int) 64 (by omega) (by omega) (by rw [hz1]; decide) (by rw [hz2]; decide) (by decide)
    rw [← hM] at h
    simpa using h
  clear hM
  have hnil : ∀ W, (binOp .eql 51 (.slice none 0 0) (.slice none 0 0)).run Tryz.prog W = .ok (.bool true) W := fun W => Lib.run_eql_slice_nil_nil W _ _ Tryz.underlying51
  have c0a : ∀ k o, ((w.drewN k).alloc o).cell? ⟨D, 0, none⟩ = some (.slice none 0 0) := fun k o => (World.cell?_of_block (a := ⟨D, 0, none⟩) (Below.heap_alloc (w.drewN k) o D hDlt)).trans c0
  have f0a : ∀ k o, ((w.drewN k).alloc o).frozen? ⟨D, 0, none⟩ = false := fun k o => (World.frozen?_of_block (a := ⟨D, 0, none⟩) (Below.heap_alloc (w.drewN k) o D hDlt)).trans f0
  have HD := Lib.hid hD
  clear hD
  go_enter Tryz.func138, Tryz.ntmps138
  go_wp2_with fail
  refine HLEN.out.mono ?_
  rintro e w1 ⟨rfl, k, rfl⟩
  go_wp2_with fail
  refine (Tryz.Buffer_tryGrow_none D none 0 0 n (w.drewN k) c0 (Nat.le_refl _) (Nat.zero_le _) (by omega)).mono ?_
  rintro e w2 ⟨rfl, rfl⟩
  go_wp2_with fail
  go_ret
  refine ⟨rfl, ?_⟩
  have h1 := blockSet ((Below.heap_alloc (w.drewN k) (.cells M 5) D hDlt).trans HD.out) 0 (.slice (some ⟨w.heap.size, 0, none⟩) n 64)
  refine ⟨w.heap.size, 64, M, Nat.le_refl _, by simpa using h1, ?_, hMs, by omega, by decide, by simp, ?_⟩
  · rw [Below.heap_setCell _ _ _ _ (by show w.heap.size ≠ D; omega)]
    exact heap_alloc_new (w.drewN k) _
  · exact (((Keep.refl w.heap.size D w).drewN k).alloc (Nat.le_refl _) _).setCell (Or.inr rfl) _

set_option maxHeartbeats 4000000 in
set_option maxRecDepth 100000 in
theorem grow_nil_big (w : World) (D n : Nat) (lr : Int) (hD : w.heap[D]? = some (.cells #[.slice none 0 0, .int .i64 0, .int .i8 lr] 183 (0, 0))) (h64 : 64 < n) (hlim : n ≤ 140737488355328) :
    Calls Tryz.prog 138 #[.pointer (some ⟨D, 0, none⟩), .int .i64 n] w fun e w' => e = .returned (.int .i64 0) ∧ Grew D 0 n lr [] w w' := by
  have hn : 1 ≤ n := by omega
  have hIs : Lib.IsBuffer 183 5 0 D [] w := ⟨Nat.zero_le _, _, lr, hD, ⟨by simp, Or.inl ⟨rfl, rfl⟩⟩, by simp [Value.ownBlock]⟩
  have hLen := Tryz.Buffer_Len 0 D _ w hIs
  have HLEN := Lib.hid hLen
  clear hIs hLen
  have c0 : w.cell? ⟨D, 0, none⟩ = some (.slice none 0 0) := blockCell hD 0
  have c1 : w.cell? ⟨D, 1, none⟩ = some (.int .i64 0) := blockCell hD 1
  have f0 := blockFrozen hD 0
  have f1 := blockFrozen hD 1
  have hDlt := blockLt hD
  have hnil : ∀ W, (binOp .eql 51 (.slice none 0 0) (.slice none 0 0)).run Tryz.prog W = .ok (.bool true) W := fun W => Lib.run_eql_slice_nil_nil W _ _ Tryz.underlying51
  have hwn : IntKind.i64.wrap (n : Int) = (n : Int) := IntWalk.i64_in _ (by constructor <;> omega)
  have HD := Lib.hid hD
  clear hD
  go_enter Tryz.func138, Tryz.ntmps138
  go_wp2_with fail
  refine HLEN.out.mono ?_
  rintro e w1 ⟨rfl, k, rfl⟩
  go_wp2_with fail
  refine (Tryz.Buffer_tryGrow_none D none 0 0 n (w.drewN k) c0 (Nat.le_refl _) (Nat.zero_le _) (by omega)).mono ?_
  rintro e w2 ⟨rfl, rfl⟩
  go_wp2_with fail
  go_region_with ((go_at_call 149; refine (Tryz.bytes_growSlice_nil n (w.drewN (k + 1)) hn hlim).mono ?_; rintro e w3 ⟨cap2, cells, rfl, hn3, hsz, hroom2, hm2, hb3⟩; have hD3 : w3.heap[D]? = some (.cells #[.slice none 0 0, .int .i64 0, .int .i8 lr] 183 (0, 0)) := (hb3.block D hDlt).trans HD.out; have d0 := blockFrozen hD3 0; have d1 := blockFrozen hD3 1; have e0 : w3.cell? ⟨D, 0, none⟩ = some (.slice none 0 0) := blockCell hD3 0; have e1 : w3.cell? ⟨D, 1, none⟩ = some (.int .i64 0) := blockCell hD3 1))
  all_goals
    go_wp2_with fail
    go_ret
    refine ⟨rfl, ?_⟩
    have hG := grew_of w w3 D 0 n _ cap2 (k + 1) lr cells hb3 hD3 hn3 hsz (by omega) hm2 hDlt (.slice (some ⟨w.heap.size, 0, none⟩) 0 cap2)
    simpa using hG
end Go.Proofs.YtjmahgefijncaaaGreatFmt

/- bytes.Buffer's Write, with its frame exact. -/
namespace Go.Proofs.YtjmahgefijncaaaGreatFmt
open Go Go.RowKit

/-- A bytes.Buffer that nobody has read from: what it holds, and its row. -/
def BufAt (w : World) (D : Nat) (row : Option Nat) (bs : List Value) : Prop :=
  match row with
  | none => bs = [] ∧ ∃ lr, w.heap[D]? = some (.cells #[.slice none 0 0, .int .i64 0, .int .i8 lr] 183 (0, 0))
  | some g => g ≠ D ∧ ∃ lr cap cur, w.heap[D]? = some (.cells #[.slice (some ⟨g, 0, none⟩) bs.length cap, .int .i64 0, .int .i8 lr] 183 (0, 0)) ∧
      w.heap[g]? = some (.cells cur 5 (0, 0)) ∧ cur.size = cap ∧ bs.length ≤ cap ∧ cap ≤ maxLen ∧ cur.toList.take bs.length = bs

theorem BufAt.kept {w w' : World} {D : Nat} {row : Option Nat} {bs : List Value} (h : BufAt w D row bs) (hD : w'.heap[D]? = w.heap[D]?) (hg : ∀ g, row = some g → w'.heap[g]? = w.heap[g]?) : BufAt w' D row bs := by
  cases row with
  | none => exact ⟨h.1, by rw [hD]; exact h.2⟩
  | some g => exact ⟨h.1, by rw [hD, hg g rfl]; exact h.2⟩

/-- What Write leaves. -/
def Wrote (D : Nat) (row : Option Nat) (bs : List Value) (w w' : World) : Prop :=
  ∃ row', BufAt w' D row' bs ∧ (row' = row ∨ ∃ g, row' = some g ∧ w.heap.size ≤ g) ∧ Only (fun k => k = D ∨ row = some k) w w'

end Go.Proofs.YtjmahgefijncaaaGreatFmt

/- bytes.Buffer's Write: the walks. -/
namespace Go.Proofs.YtjmahgefijncaaaGreatFmt
open Go Go.RowKit

theorem byte_size : (Tryz.prog.info? 5).map (·.size) = some 1 := by kernel_rfl

/-- The tail of every way: the row has room and the new bytes go to it. -/
theorem wrote_of {w W1 : World} {D g l n cap : Nat} {row : Option Nat} {bs cs : List Value} {cur : Array Value} {lr : Int}
    (hD : W1.heap[D]? = some (.cells #[.slice (some ⟨g, 0, none⟩) (l + n) cap, .int .i64 0, .int .i8 lr] 183 (0, 0))) (hg : W1.heap[g]? = some (.cells cur 5 (0, 0))) (hgD : g ≠ D)
    (hl : bs.length = l) (hn : cs.length = n) (hcs : cur.size = cap) (hlc : l + n ≤ cap) (hcm : cap ≤ maxLen) (htk : cur.toList.take l = bs) (hrow : some g = row ∨ w.heap.size ≤ g)
    (hf : Only (fun k => k = D ∨ row = some k) w W1) :
    Wrote D row (bs ++ cs) w (W1.setRow g (cur.toList.take l ++ cs ++ cur.toList.drop (l + cs.length)).toArray) := by
  refine ⟨some g, ⟨hgD, lr, cap, _, ?_, setRow_heap W1 g cur _ 5 _ hg, ?_, ?_, hcm, ?_⟩, ?_, hf.setRow ?_ _⟩
  · rw [setRow_other W1 g D _ (fun e => hgD e.symm), hD, List.length_append, hl, hn]
  · simp; omega
  · simp; omega
  · rw [htk]
    exact List.take_left' rfl
  · rcases hrow with h | h
    · exact Or.inl h
    · exact Or.inr ⟨g, rfl, h⟩
  · rcases hrow with h | h
    · exact Or.inr (Or.inr h.symm)
    · exact Or.inl h

set_option maxHeartbeats 1000000 in
set_option maxRecDepth 100000 in
/-- Write where the row has room. -/
theorem write_room (w : World) (D g : Nat) (bs cs : List Value) (cap : Nat) (lr : Int) (cur : Array Value) (a : Addr) (n c : Nat) (hgD : g ≠ D)
    (hD : w.heap[D]? = some (.cells #[.slice (some ⟨g, 0, none⟩) bs.length cap, .int .i64 0, .int .i8 lr] 183 (0, 0))) (hg : w.heap[g]? = some (.cells cur 5 (0, 0)))
    (hcs : cur.size = cap) (hcm : cap ≤ maxLen) (htk : cur.toList.take bs.length = bs) (hroom : bs.length + n ≤ cap) (hn : cs.length = n) (hn1 : 1 ≤ n)
    (hab : a.block ≠ D) (hsrc : ∀ j v, cs[j]? = some v → w.cell? (a.add j) = some v) (h1c : ∀ v ∈ cs, v.oneCell' = true) :
    Calls Tryz.prog 123 #[.pointer (some ⟨D, 0, none⟩), .slice (some a) n c] w fun e w' => e = .returned (.tuple #[.int .i64 n, .nilIface]) ∧ Wrote D (some g) (bs ++ cs) w w' := by
  have c2 : w.cell? ⟨D, 2, none⟩ = some (.int .i8 lr) := blockCell hD 2
  have f2 := blockFrozen hD 2
  have hD1 : (w.setCell ⟨D, 2, none⟩ (.int .i8 0)).heap[D]? = some (.cells #[.slice (some ⟨g, 0, none⟩) bs.length cap, .int .i64 0, .int .i8 0] 183 (0, 0)) := by simpa using blockSet hD 2 (.int .i8 0)
  have d0 : (w.setCell ⟨D, 2, none⟩ (.int .i8 0)).cell? ⟨D, 0, none⟩ = some (.slice (some ⟨g, 0, none⟩) bs.length cap) := blockCell hD1 0
  have g0 := blockFrozen hD1 0
  have hD2 : ((w.setCell ⟨D, 2, none⟩ (.int .i8 0)).setCell ⟨D, 0, none⟩ (.slice (some ⟨g, 0, none⟩) (bs.length + n) cap)).heap[D]? = some (.cells #[.slice (some ⟨g, 0, none⟩) (bs.length + n) cap, .int .i64 0, .int .i8 0] 183 (0, 0)) := by simpa using blockSet hD1 0 (.slice (some ⟨g, 0, none⟩) (bs.length + n) cap)
  have e0 : ((w.setCell ⟨D, 2, none⟩ (.int .i8 0)).setCell ⟨D, 0, none⟩ (.slice (some ⟨g, 0, none⟩) (bs.length + n) cap)).cell? ⟨D, 0, none⟩ = some (.slice (some ⟨g, 0, none⟩) (bs.length + n) cap) := blockCell hD2 0
  have hne : ¬ cap = bs.length := by omega
  have hle : bs.length ≤ bs.length + n := Nat.le_add_right _ _
  have hg1 : ((w.setCell ⟨D, 2, none⟩ (.int .i8 0)).setCell ⟨D, 0, none⟩ (.slice (some ⟨g, 0, none⟩) (bs.length + n) cap)).heap[g]? = some (.cells cur 5 (0, 0)) := by
    rw [Below.heap_setCell _ _ _ _ (by show g ≠ D; exact hgD), Below.heap_setCell _ _ _ _ (by show g ≠ D; exact hgD)]; exact hg
  have hsrc1 : ∀ j v, cs[j]? = some v → ((w.setCell ⟨D, 2, none⟩ (.int .i8 0)).setCell ⟨D, 0, none⟩ (.slice (some ⟨g, 0, none⟩) (bs.length + n) cap)).cell? (a.add j) = some v := fun j v hj =>
    (World.cell?_of_block (w := w) (by rw [Below.heap_setCell _ _ _ _ (by rw [Lib.block_add]; exact hab), Below.heap_setCell _ _ _ _ (by rw [Lib.block_add]; exact hab)])).trans (hsrc j v hj)
  have hcp := run_copy_row (P := Tryz.prog) _ 51 51 3 5 g bs.length n (cap - bs.length) a n c cur 5 cs Tryz.underlying51 byte_size hg1 (by rw [hn]; exact (Nat.min_self n).symm) hsrc1 (by rw [hn]; omega) h1c
  rw [hn] at hcp
  have hcm' := hcm
  unfold maxLen at hcm'
  have hW := wrote_of (w := w) (row := some g) (cs := cs) hD2 hg1 hgD rfl hn hcs hroom hcm htk (Or.inl rfl) (((Only.refl _ w).setCell (Or.inr (Or.inl rfl)) _).setCell (Or.inr (Or.inl rfl)) _)
  rw [hn, List.append_assoc] at hW
  have HW := Lib.hid hW
  clear hW hD hg hD1 hD2 hg1 htk hsrc hsrc1 h1c
  go_enter Tryz.func123, Tryz.ntmps123
  go_wp2_with fail
  refine (Tryz.Buffer_tryGrow_room D _ _ cap n _ d0 g0 (by omega) hcm (by omega)).mono ?_
  rintro e w2 ⟨rfl, rfl⟩
  go_wp2_with fail
  go_ret2
  exact ⟨rfl, HW.out⟩

set_option maxHeartbeats 1000000 in
set_option maxRecDepth 100000 in
/-- Write where there is no room: grow's answer given. -/
theorem write_grow (w : World) (D : Nat) (row : Option Nat) (ao : Option Addr) (bs cs : List Value) (cap : Nat) (lr : Int) (a : Addr) (n c : Nat) (hlc : bs.length ≤ cap)
    (hD : w.heap[D]? = some (.cells #[.slice ao bs.length cap, .int .i64 0, .int .i8 lr] 183 (0, 0))) (hcm : cap ≤ maxLen) (hno : cap - bs.length < n) (hn : cs.length = n)
    (hgrow : Calls Tryz.prog 138 #[.pointer (some ⟨D, 0, none⟩), .int .i64 n] (w.setCell ⟨D, 2, none⟩ (.int .i8 0)) fun e w' => e = .returned (.int .i64 bs.length) ∧ Grew D bs.length n 0 bs (w.setCell ⟨D, 2, none⟩ (.int .i8 0)) w')
    (hab : a.block ≠ D) (hsrc : ∀ j v, cs[j]? = some v → w.cell? (a.add j) = some v) (h1c : ∀ v ∈ cs, v.oneCell' = true) (hlim : bs.length + n ≤ 140737488355328) :
    Calls Tryz.prog 123 #[.pointer (some ⟨D, 0, none⟩), .slice (some a) n c] w fun e w' => e = .returned (.tuple #[.int .i64 n, .nilIface]) ∧ Wrote D row (bs ++ cs) w w' := by
  have c2 : w.cell? ⟨D, 2, none⟩ = some (.int .i8 lr) := blockCell hD 2
  have f2 := blockFrozen hD 2
  have hDlt := blockLt hD
  have hD1 : (w.setCell ⟨D, 2, none⟩ (.int .i8 0)).heap[D]? = some (.cells #[.slice ao bs.length cap, .int .i64 0, .int .i8 0] 183 (0, 0)) := by simpa using blockSet hD 2 (.int .i8 0)
  have d0 : (w.setCell ⟨D, 2, none⟩ (.int .i8 0)).cell? ⟨D, 0, none⟩ = some (.slice ao bs.length cap) := blockCell hD1 0
  have hk0 : Only (fun k => k = D ∨ row = some k) w (w.setCell ⟨D, 2, none⟩ (.int .i8 0)) := (Only.refl _ w).setCell (Or.inr (Or.inl rfl)) _
  have hsz : (w.setCell ⟨D, 2, none⟩ (.int .i8 0)).heap.size = w.heap.size := by simp [World.setCell]
  have hsrc1 : ∀ j v, cs[j]? = some v → (w.setCell ⟨D, 2, none⟩ (.int .i8 0)).cell? (a.add j) = some v := fun j v hj =>
    (World.cell?_of_block (w := w) (by rw [Below.heap_setCell _ _ _ _ (by rw [Lib.block_add]; exact hab)])).trans (hsrc j v hj)
  have HG := Lib.hid hgrow
  have HK := Lib.hid hk0
  have HSZ := Lib.hid hsz
  have HSRC := Lib.hid hsrc1
  have HL := Lib.hid hlim
  clear hgrow hk0 hsz hD hD1 hsrc hsrc1 hlim
  go_enter Tryz.func123, Tryz.ntmps123
  go_wp2_with fail
  refine (Tryz.Buffer_tryGrow_none D _ _ cap n _ d0 hlc hcm hno).mono ?_
  rintro e w2 ⟨rfl, rfl⟩
  go_wp2_with fail
  refine HG.out.mono ?_
  rintro e W1 ⟨rfl, G, cap2, cells, hG, hDG, hGG, hcs2, hroom2, hcm2, htk2, hk2⟩
  have hG' : w.heap.size ≤ G := by rw [HSZ.out] at hG; exact hG
  have hGD : G ≠ D := by omega
  have k0 : W1.cell? ⟨D, 0, none⟩ = some (.slice (some ⟨G, 0, none⟩) (bs.length + n) cap2) := blockCell hDG 0
  have hne : ¬ cap2 = bs.length := by omega
  have hle : bs.length ≤ bs.length + n := Nat.le_add_right _ _
  have hle2 : bs.length ≤ cap2 := by omega
  have hsrc2 : ∀ j v, cs[j]? = some v → W1.cell? (a.add j) = some v := fun j v hj =>
    (hk2.cell (p := a.add j) (World.block_lt_of_cell? _ _ (HSRC.out j v hj)) (by rw [Lib.block_add]; exact hab)).trans (HSRC.out j v hj)
  have hcp := run_copy_row (P := Tryz.prog) _ 51 51 3 5 G bs.length n (cap2 - bs.length) a n c cells 5 cs Tryz.underlying51 byte_size hGG (by rw [hn]; exact (Nat.min_self n).symm) hsrc2 (by rw [hn]; omega) h1c
  rw [hn] at hcp
  have hcm' := hcm2
  unfold maxLen at hcm'
  have hW := wrote_of (w := w) (row := row) (cs := cs) hDG hGG hGD rfl hn hcs2 hroom2 hcm2 htk2 (Or.inr hG') (HK.out.trans2 (Only.ofKeep hk2) (fun i _ e => Or.inl e))
  rw [hn, List.append_assoc] at hW
  have HW := Lib.hid hW
  have HCP := Lib.hid hcm2
  clear hW hDG hGG htk2 hsrc2 hcm2
  go_wp2_with fail
  go_ret2
  exact ⟨rfl, HW.out⟩

set_option maxHeartbeats 1000000 in
set_option maxRecDepth 100000 in
/-- Write of nothing. -/
theorem write_zero (w : World) (D : Nat) (row : Option Nat) (bs : List Value) (h : BufAt w D row bs) (ao : Option Addr) (c : Nat) :
    Calls Tryz.prog 123 #[.pointer (some ⟨D, 0, none⟩), .slice ao 0 c] w fun e w' => e = .returned (.tuple #[.int .i64 (0 : Nat), .nilIface]) ∧ Wrote D row (bs ++ []) w w' := by
  obtain ⟨bo, cap, lr, hD, hlc, hcm, hback, hbo⟩ : ∃ bo cap lr, w.heap[D]? = some (.cells #[.slice bo bs.length cap, .int .i64 0, .int .i8 lr] 183 (0, 0)) ∧ bs.length ≤ cap ∧ cap ≤ maxLen ∧
      (∀ w' lr', w'.heap[D]? = some (.cells #[.slice bo bs.length cap, .int .i64 0, .int .i8 lr'] 183 (0, 0)) → (∀ k, k ≠ D → w'.heap[k]? = w.heap[k]?) → BufAt w' D row bs) ∧ (bo = none ∧ cap = 0 ∨ ∃ g, bo = some ⟨g, 0, none⟩) := by
    cases row with
    | none =>
      obtain ⟨rfl, lr, hD⟩ := h
      exact ⟨none, 0, lr, hD, Nat.le_refl _, by decide, fun w' lr' h' _ => ⟨rfl, lr', h'⟩, Or.inl ⟨rfl, rfl⟩⟩
    | some g =>
      obtain ⟨hgD, lr, cap, cur, hD, hg, h1, h2, h3, h4⟩ := h
      exact ⟨some ⟨g, 0, none⟩, cap, lr, hD, h2, h3, fun w' lr' h' hk => ⟨hgD, lr', cap, cur, h', by rw [hk g hgD]; exact hg, h1, h2, h3, h4⟩, Or.inr ⟨g, rfl⟩⟩
  have c2 : w.cell? ⟨D, 2, none⟩ = some (.int .i8 lr) := blockCell hD 2
  have f2 := blockFrozen hD 2
  have hD1 : (w.setCell ⟨D, 2, none⟩ (.int .i8 0)).heap[D]? = some (.cells #[.slice bo bs.length cap, .int .i64 0, .int .i8 0] 183 (0, 0)) := by simpa using blockSet hD 2 (.int .i8 0)
  have d0 : (w.setCell ⟨D, 2, none⟩ (.int .i8 0)).cell? ⟨D, 0, none⟩ = some (.slice bo bs.length cap) := blockCell hD1 0
  have g0 := blockFrozen hD1 0
  have hD2 : ((w.setCell ⟨D, 2, none⟩ (.int .i8 0)).setCell ⟨D, 0, none⟩ (.slice bo bs.length cap)).heap[D]? = some (.cells #[.slice bo bs.length cap, .int .i64 0, .int .i8 0] 183 (0, 0)) := by simpa using blockSet hD1 0 (.slice bo bs.length cap)
  have e0 : ((w.setCell ⟨D, 2, none⟩ (.int .i8 0)).setCell ⟨D, 0, none⟩ (.slice bo bs.length cap)).cell? ⟨D, 0, none⟩ = some (.slice bo bs.length cap) := blockCell hD2 0
  have hW : Wrote D row (bs ++ []) w ((w.setCell ⟨D, 2, none⟩ (.int .i8 0)).setCell ⟨D, 0, none⟩ (.slice bo bs.length cap)) := by
    rw [List.append_nil]
    refine ⟨row, hback _ 0 hD2 (fun k hk => by rw [Below.heap_setCell _ _ _ _ hk, Below.heap_setCell _ _ _ _ hk]), Or.inl rfl, ((Only.refl _ w).setCell (Or.inr (Or.inl rfl)) _).setCell (Or.inr (Or.inl rfl)) _⟩
  have HW := Lib.hid hW
  have hcp := fun (w : World) (d : Option Addr) (dl dc : Nat) => run_copy_none (P := Tryz.prog) w 51 51 3 5 d ao dl dc 0 c Tryz.underlying51 byte_size (Nat.zero_min _)
  have HCM := Lib.hid hcm
  clear hW hD hD1 hD2 hback hcm
  go_enter Tryz.func123, Tryz.ntmps123
  rcases hbo with ⟨rfl, rfl⟩ | ⟨g, rfl⟩
  · have hl0 : bs.length = 0 := Nat.le_zero.1 hlc
    rw [hl0] at d0 e0 HW
    go_wp2_with fail
    refine (Tryz.Buffer_tryGrow_room D none 0 0 0 _ d0 g0 (Nat.le_refl _) (Nat.zero_le _) (Nat.le_refl _)).mono ?_
    rintro e w2 ⟨rfl, rfl⟩
    go_wp2_with fail
    go_ret2
    exact ⟨rfl, HW.out⟩
  · go_wp2_with fail
    refine (Tryz.Buffer_tryGrow_room D _ bs.length cap 0 _ d0 g0 hlc HCM.out (Nat.zero_le _)).mono ?_
    rintro e w2 ⟨rfl, rfl⟩
    have hcm' := HCM.out
    unfold maxLen at hcm'
    by_cases hcl : cap = bs.length
    all_goals
      go_wp2_with fail
      go_ret2
      refine ⟨rfl, ?_⟩
      have hW := HW.out
      first
        | exact hW
        | (rw [hcl] at hW; exact hW)

/-- A slice of bytes that reads cs, out of a block other than D. -/
def Src (w : World) (D : Nat) (cs : List Value) (v : Value) : Prop :=
  ∃ ao c, v = .slice ao cs.length c ∧ (cs = [] ∨ ∃ a, ao = some a ∧ a.block ≠ D ∧ ∀ j v, cs[j]? = some v → w.cell? (a.add j) = some v)

/-- Write, whatever lies there. -/
theorem write_any (w : World) (D : Nat) (row : Option Nat) (bs cs : List Value) (v : Value) (n : Int) (h : BufAt w D row bs) (hs : Src w D cs v) (hn : n = (cs.length : Int))
    (h1 : ∀ v ∈ bs, v.oneCell' = true) (h1c : ∀ v ∈ cs, v.oneCell' = true) (hlim : bs.length + cs.length ≤ 140737488355328) :
    Calls Tryz.prog 123 #[.pointer (some ⟨D, 0, none⟩), v] w fun e w' => e = .returned (.tuple #[.int .i64 n, .nilIface]) ∧ Wrote D row (bs ++ cs) w w' := by
  subst hn
  obtain ⟨ao, c, rfl, hs⟩ := hs
  by_cases h0 : cs.length = 0
  · have : cs = [] := List.length_eq_zero_iff.1 h0
    subst this
    exact write_zero w D row bs h ao c
  · obtain ⟨a, rfl, hab, hsrc⟩ : ∃ a, ao = some a ∧ a.block ≠ D ∧ ∀ j v, cs[j]? = some v → w.cell? (a.add j) = some v := hs.resolve_left (fun e => h0 (by rw [e]; rfl))
    have hn1 : 1 ≤ cs.length := by omega
    cases row with
    | none =>
      obtain ⟨rfl, lr, hD⟩ := h
      have hD1 : (w.setCell ⟨D, 2, none⟩ (.int .i8 0)).heap[D]? = some (.cells #[.slice none 0 0, .int .i64 0, .int .i8 0] 183 (0, 0)) := by simpa using blockSet hD 2 (.int .i8 0)
      refine write_grow w D none none [] cs 0 lr a cs.length c (Nat.le_refl _) hD (by decide) (by show 0 - 0 < cs.length; omega) rfl ?_ hab hsrc h1c hlim
      by_cases h64 : cs.length ≤ 64
      · exact grow_nil_small _ D cs.length 0 hD1 hn1 h64
      · exact grow_nil_big _ D cs.length 0 hD1 (by omega) (by simpa using hlim)
    | some g =>
      obtain ⟨hgD, lr, cap, cur, hD, hg, k1, k2, k3, k4⟩ := h
      by_cases hroom : bs.length + cs.length ≤ cap
      · exact write_room w D g bs cs cap lr cur a cs.length c hgD hD hg k1 k3 k4 hroom rfl hn1 hab hsrc h1c
      · have hD1 : (w.setCell ⟨D, 2, none⟩ (.int .i8 0)).heap[D]? = some (.cells #[.slice (some ⟨g, 0, none⟩) bs.length cap, .int .i64 0, .int .i8 0] 183 (0, 0)) := by simpa using blockSet hD 2 (.int .i8 0)
        refine write_grow w D (some g) (some ⟨g, 0, none⟩) bs cs cap lr a cs.length c k2 hD k3 (by omega) rfl ?_ hab hsrc h1c hlim
        have hgr := grow_row (w.setCell ⟨D, 2, none⟩ (.int .i8 0)) D g bs.length cap cs.length 0 cur hD1 (by rw [Below.heap_setCell _ _ _ _ (by show g ≠ D; exact hgD)]; exact hg) k1 k2 hn1 (by omega) hlim hgD (by rw [k4]; exact h1)
        rw [k4] at hgr
        exact hgr
end Go.Proofs.YtjmahgefijncaaaGreatFmt

/- DecodeString; Len and Bytes of a buffer. -/
namespace Go.Proofs.YtjmahgefijncaaaGreatFmt
open Go Go.RowKit

theorem decode_any (w : World) (G c : Nat) (l : List UInt8) (hsrc : ∀ j v, (Lib.byteCells l)[j]? = some v → w.cell? ⟨G, j, none⟩ = some v) :
    Calls Tryz.prog 125 #[.slice (some ⟨G, 0, none⟩) l.length c] w fun e w' => e = .returned (.string ⟨l.toArray⟩) ∧ w = w' := by
  have hr := run_convert_bytes_back (P := Tryz.prog) w 51 9 5 ⟨G, 0, none⟩ c l Tryz.underlying51 Tryz.underlying5 Tryz.underlying9 (fun j hj => by
    have := hsrc j (.int .u8 (l[j]).toNat) (by simp [Lib.byteCells, List.getElem?_eq_getElem hj])
    have hadd : (⟨G, 0, none⟩ : Addr).add j = ⟨G, j, none⟩ := by unfold Addr.add; split <;> simp_all
    rw [hadd]; exact this)
  clear hsrc
  go_enter Tryz.func125, Tryz.ntmps125
  go_wp2
  go_ret
  exact ⟨rfl, rfl⟩

theorem BufAt.isBuffer {w : World} {D : Nat} {row : Option Nat} {bs : List Value} (h : BufAt w D row bs) : Lib.IsBuffer 183 5 0 D bs w := by
  cases row with
  | none =>
    obtain ⟨rfl, lr, hD⟩ := h
    exact ⟨Nat.zero_le _, _, lr, hD, ⟨by simp, Or.inl ⟨rfl, rfl⟩⟩, by simp [Value.ownBlock]⟩
  | some g =>
    obtain ⟨hgD, lr, cap, cur, hD, hg, h1, h2, h3, h4⟩ := h
    refine ⟨Nat.zero_le _, _, lr, hD, ⟨by simp, Or.inr ⟨g, cap, cur, by simp, Nat.zero_le _, hg, by simpa using h2, h3, by simpa using h1, by simpa using h4⟩⟩, ?_⟩
    simp [Value.ownBlock]
    omega

/-- What a slice of the buffer's bytes reads; its row is of bytes. -/
def Reads (w : World) (bs : List Value) (v : Value) : Prop :=
  ∃ ao c, v = .slice ao bs.length c ∧ (bs = [] ∨ ∃ g, ao = some ⟨g, 0, none⟩ ∧ (∃ cur, w.heap[g]? = some (.cells cur 5 (0, 0))) ∧ ∀ j v, bs[j]? = some v → w.cell? ⟨g, j, none⟩ = some v)

theorem buf_bytes (w : World) (D : Nat) (row : Option Nat) (bs : List Value) (h : BufAt w D row bs) :
    Calls Tryz.prog 147 #[.pointer (some ⟨D, 0, none⟩)] w fun e w' => ∃ v, e = .returned v ∧ Reads w' bs v ∧ Same w w' := by
  refine (Tryz.Buffer_Bytes 0 D bs w h.isBuffer).mono fun e w' he => ?_
  obtain ⟨v, rfl, ho, n, rfl⟩ := he
  refine ⟨v, rfl, ?_, (Same.refl w).drewN n⟩
  rcases ho with ⟨hl, ⟨hv, h0⟩ | ⟨g, cap, cur, hv, _, hg, hn, hm, hcs, htk⟩⟩
  · exact ⟨none, 0, by rw [hv, h0], Or.inl (List.length_eq_zero_iff.1 h0)⟩
  · refine ⟨_, cap, hv, Or.inr ⟨g, rfl, ⟨cur, hg⟩, fun j v hj => ?_⟩⟩
    rw [blockCell hg j]
    rw [Nat.mul_one] at htk
    rw [← htk] at hj
    simp only [List.getElem?_take] at hj
    split at hj
    · simpa using hj
    · cases hj

theorem buf_len (w : World) (D : Nat) (row : Option Nat) (bs : List Value) (h : BufAt w D row bs) :
    Calls Tryz.prog 100 #[.pointer (some ⟨D, 0, none⟩)] w fun e w' => e = .returned (.int .i64 bs.length) ∧ Same w w' := by
  refine (Tryz.Buffer_Len 0 D bs w h.isBuffer).mono fun e w' he => ?_
  obtain ⟨rfl, n, rfl⟩ := he
  exact ⟨rfl, (Same.refl w).drewN n⟩
end Go.Proofs.YtjmahgefijncaaaGreatFmt

/- encodeHighTag: the tags from 31 on. -/
namespace Go.Proofs.YtjmahgefijncaaaGreatFmt
open Go Go.RowKit

/-- A digit of seven bits, marked but for the lowest. -/
def tagDigit (t j : Nat) : Nat := t / 128 ^ j % 128 + (if j = 0 then 0 else 128)
def lowDigits (t j : Nat) : List UInt8 := (List.range j).map fun k => UInt8.ofNat (tagDigit t k)

theorem tagDigit_lt (t j : Nat) : tagDigit t j < 256 := by unfold tagDigit; split <;> omega
theorem lowDigits_length (t j : Nat) : (lowDigits t j).length = j := by simp [lowDigits]
theorem lowDigits_succ (t j : Nat) : lowDigits t (j + 1) = lowDigits t j ++ [UInt8.ofNat (tagDigit t j)] := by simp [lowDigits, List.range_succ]
theorem byteCells_append (a b : List UInt8) : Lib.byteCells (a ++ b) = Lib.byteCells a ++ Lib.byteCells b := by simp [Lib.byteCells]

theorem and127u {x : Nat} (h : x < 2 ^ 64) : bits .and .u64 (x : Int) 127 = ((x % 128 : Nat) : Int) := by
  have := bits_mask .u64 64 (by decide) wraps_u64 7 (by decide) (x : Int) (by omega) (by omega)
  simpa using this
theorem or128u {x : Nat} (h : x < 128) : bits .or .u64 (x : Int) 128 = ((x + 128 : Nat) : Int) := by
  have e := (bits_nat .u64 64 (by decide) wraps_u64 x 128 (by omega) (by omega)).2
  have k : ∀ y, y < 128 → y ||| 128 = y + 128 := by decide +kernel
  rw [← k x h]; exact e

theorem owned_base {w : World} {base : Nat} {e : TypeId} {size : Nat} {v : Value} {n : Nat} {xs : List Value} (h : w.ownsRow base e size v n xs) (g : Nat) (hg : v.ownBlock = some g) : base ≤ g := by
  rcases h.2 with ⟨rfl, _⟩ | ⟨g', cap, cur, rfl, hb, _⟩
  · simp [Value.ownBlock] at hg
  · simp [Value.ownBlock] at hg; omega

theorem one_cell (W : World) (t : TypeId) (v u : Value) (j : Nat) (hv : v = u) (x : Value) (hj : [u][j]? = some x) : (W.alloc (.cells #[v] t)).cell? ((⟨W.heap.size, 0, none⟩ : Addr).add j) = some x := by
  subst hv
  match j, hj with
  | 0, hj =>
    simp at hj
    subst hj
    exact blockCell (heap_alloc_new W _) 0

/-- What a round leaves. -/
theorem hightag_step {w wr w1 : World} {t j d : Nat} {v' : Value} {row : Option Nat} (hd : d = tagDigit t j) (hnx : Below w.heap.size w wr) (hr : ∀ g, row = some g → w.heap.size ≤ g) (o : Obj)
    (hown : w1.ownsRow w.heap.size 5 1 v' (j + 1) (Lib.byteCells (lowDigits t j) ++ [.int .u8 (d : Int)])) (hg : (wr.alloc o).grownBy w1 row) :
    w1.ownsRow w.heap.size 5 1 v' (j + 1) (Lib.byteCells (lowDigits t (j + 1))) ∧ Below w.heap.size w w1 := by
  constructor
  · rw [lowDigits_succ, byteCells_append]
    have : Lib.byteCells [UInt8.ofNat (tagDigit t j)] = [.int .u8 (d : Int)] := by
      simp [Lib.byteCells, hd]
      have := tagDigit_lt t j
      omega
    rw [this]; exact hown
  · have h1 := hnx.alloc hnx.size o
    exact h1.trans ⟨hg.os, hg.tape, hg.output, hg.size, fun k hk => hg.block k (Nat.lt_of_lt_of_le hk h1.size) (fun e => by have := hr k e.symm; omega)⟩

theorem swap_rows {t i j q cap : Nat} {cur2 : Array Value} (hs2 : cur2.size = cap) (hn : j ≤ cap) (hij : i < j / 2) (hq : q = j - 1 - i)
    (h : ∀ k, k < j → cur2[k]? = some (.int .u8 (tagDigit t (if k < i ∨ j ≤ k + i then j - 1 - k else k) : Int))) :
    ∀ k, k < j → ((cur2.setIfInBounds i (.int .u8 (tagDigit t q : Int))).setIfInBounds q (.int .u8 (tagDigit t i : Int)))[k]? = some (.int .u8 (tagDigit t (if k < i + 1 ∨ j ≤ k + (i + 1) then j - 1 - k else k) : Int)) := by
  intro k hk
  by_cases h1 : k = q
  · subst h1
    rw [Array.getElem?_setIfInBounds_self_of_lt (by simp; omega), if_pos (by omega), show j - 1 - k = i by omega]
  · rw [Array.getElem?_setIfInBounds_ne (by omega)]
    by_cases h2 : k = i
    · subst h2
      rw [Array.getElem?_setIfInBounds_self_of_lt (by omega), if_pos (by omega), hq]
    · rw [Array.getElem?_setIfInBounds_ne (by omega), h k hk]
      by_cases h3 : k < i ∨ j ≤ k + i
      · rw [if_pos h3, if_pos (by omega)]
      · rw [if_neg h3, if_neg (by omega)]

theorem mid_rows {t j : Nat} {cur2 : Array Value} (h : ∀ k, k < j → cur2[k]? = some (.int .u8 (tagDigit t (if k < j / 2 ∨ j ≤ k + j / 2 then j - 1 - k else k) : Int))) {k : Nat} {v : Value}
    (hk : (Lib.byteCells (lowDigits t j).reverse)[k]? = some v) : cur2[k]? = some v := by
  have hlt : k < j := by
    have := (List.getElem?_eq_some_iff.1 hk).1
    simpa [Lib.byteCells, lowDigits] using this
  rw [h k hlt, ← hk]
  have hd := tagDigit_lt t (j - 1 - k)
  have e : (if k < j / 2 ∨ j ≤ k + j / 2 then j - 1 - k else k) = j - 1 - k := by split <;> omega
  rw [e]
  simp [Lib.byteCells, lowDigits, hlt]
  omega

theorem tagMore_eq : ∀ (m f n : Nat), m ≤ f → n / 128 ^ m = 0 → (m = 0 ∨ n / 128 ^ (m - 1) ≠ 0) → Ber.tagMore f n = ((List.range m).map fun k => UInt8.ofNat (n / 128 ^ k % 128 + 128)).reverse
  | 0, f, n, _, h, _ => by
    have : n = 0 := by simpa using h
    subst this
    cases f <;> simp [Ber.tagMore]
  | m + 1, 0, n, hm, _, _ => by omega
  | m + 1, f + 1, n, hm, h, hmin => by
    have hn0 : n ≠ 0 := by
      rintro rfl
      rcases hmin with h | h
      · omega
      · simp at h
    have ih := tagMore_eq m f (n / 128) (by omega) (by rw [Nat.div_div_eq_div_mul, Nat.mul_comm, ← Nat.pow_succ]; exact h) (by
      rcases Nat.eq_zero_or_pos m with h0 | h0
      · exact Or.inl h0
      · refine Or.inr ?_
        rw [Nat.div_div_eq_div_mul, Nat.mul_comm, ← Nat.pow_succ, show (m - 1).succ = m by omega]
        exact hmin.resolve_left (by omega))
    simp only [Ber.tagMore]
    rw [if_neg hn0, ih, List.range_succ_eq_map, List.map_cons, List.reverse_cons, List.map_map]
    congr 2
    · congr 1
      funext k
      simp only [Function.comp]
      rw [Nat.div_div_eq_div_mul, Nat.mul_comm, ← Nat.pow_succ]
    · simp

theorem tagBytes_eq (t j : Nat) (h0 : 0 < j) (hj : j ≤ 10) (h : t / 128 ^ j = 0) (hmin : t / 128 ^ (j - 1) ≠ 0) : Ber.tagBytes t = (lowDigits t j).reverse := by
  obtain ⟨m, rfl⟩ : ∃ m, j = m + 1 := ⟨j - 1, by omega⟩
  have hn0 : t ≠ 0 := by rintro rfl; simp at hmin
  have ih := tagMore_eq m 10 (t / 128) (by omega) (by rw [Nat.div_div_eq_div_mul, Nat.mul_comm, ← Nat.pow_succ]; exact h) (by
    rcases Nat.eq_zero_or_pos m with h0 | h0
    · exact Or.inl h0
    · refine Or.inr ?_
      rw [Nat.div_div_eq_div_mul, Nat.mul_comm, ← Nat.pow_succ, show (m - 1).succ = m by omega]
      simpa using hmin)
  unfold Ber.tagBytes
  rw [if_neg hn0, ih]
  simp only [lowDigits]
  rw [List.range_succ_eq_map, List.map_cons, List.reverse_cons, List.map_map]
  congr 2
  · congr 1
    funext k
    simp only [Function.comp, tagDigit]
    rw [Nat.div_div_eq_div_mul, Nat.mul_comm, ← Nat.pow_succ]
    simp
  · simp [tagDigit]

set_option maxRecDepth 100000 in
set_option maxHeartbeats 4000000 in
theorem hightag_any (w : World) (t : Nat) (ht : t < 2 ^ 64) (h0 : t ≠ 0) :
    Calls Tryz.prog 153 #[.int .u64 t] w fun e w' => ∃ v, e = .returned v ∧ Reads w' (Lib.byteCells (Ber.tagBytes t)) v ∧ Below w.heap.size w w' := by
  obtain ⟨i0, hi, hz0, hz1, hz2⟩ := info_byteB
  have hm4 : ∀ W : World, ∃ M : Array Value, M.size = 4 ∧ (Instr.makeSlice 51 (.int .i64 0) (.int .i64 4)).run Tryz.prog W = .ok (.slice (some ⟨W.heap.size, 0, none⟩) 0 4) (W.alloc (.cells M 5)) := fun W => by
    have h := run_makeSlice W 51 5 i0 (.int .u8 0) Tryz.underlying51 hi hz0 .i64 .i64 0 4 (by omega) (by omega) (by rw [hz1]; decide) (by rw [hz2]; decide) (by decide)
    have h2 := size_madeCells (Value.int .u8 0).cells (Int.toNat 4 * i0.size)
    exact ⟨madeCells (Value.int .u8 0).cells (Int.toNat 4 * i0.size), by rw [h2, hz1]; rfl, by simpa using h⟩
  obtain ⟨M, hM, hmk⟩ := hm4 w
  clear hm4
  go_enter Tryz.func153, Tryz.ntmps153
  go_wp2_with fail
  go_loopw [0, 3] (fun t0 t3 wr => ∃ j : Nat, j ≤ 10 ∧ (j = 0 ∨ t / 128 ^ (j - 1) ≠ 0) ∧ t0 = .int .u64 ((t / 128 ^ j : Nat) : Int) ∧ wr.ownsRow w.heap.size 5 1 t3 j (Lib.byteCells (lowDigits t j)) ∧ Below w.heap.size w wr) (fun t0 _ _ => (intOf t0).toNat)
  case atStart => exact ⟨0, by omega, Or.inl rfl, by simp, World.ownsRow_made w _ 4 (Nat.le_refl _) (by decide) (by omega), (Below.refl _ w).alloc (Nat.le_refl _) _⟩
  case round =>
    obtain ⟨j, hj, hjm, rfl, hown, hnx⟩ := hrel
    have HJM := Lib.hid hjm
    clear hjm
    obtain ⟨ao, cap, rfl⟩ : ∃ ao cap, u3 = .slice ao j cap := by
      rcases hown.2 with ⟨h1, h2⟩ | ⟨g, cap, cur, h1, _⟩
      · exact ⟨none, 0, by rw [h1, h2]⟩
      · exact ⟨_, cap, h1⟩
    obtain ⟨r, hr⟩ : ∃ r, r = t / 128 ^ j := ⟨_, rfl⟩
    rw [← hr]
    have hr64 : r < 2 ^ 64 := Nat.lt_of_le_of_lt (by rw [hr]; exact Nat.div_le_self _ _) ht
    have hand := and127u hr64
    have hor : bits .or .u64 ((r : Int) % 128) 128 = ((r % 128 + 128 : Nat) : Int) := by have := or128u (x := r % 128) (by omega); rw [← this]; congr 1
    have hnext : r / 128 = t / 128 ^ (j + 1) := by rw [hr, Nat.div_div_eq_div_mul, Nat.pow_succ]
    have HR := Lib.hid hr
    have HN := Lib.hid hnext
    have H64 := Lib.hid hr64
    clear hr hnext
    by_cases hz : r = 0
    · have hz1 : ((r : Int) != 0) = false := by rw [hz]; rfl
      subst hz
      have hj0 : 0 < j := by
        rcases Nat.eq_zero_or_pos j with h | h
        · exfalso; apply h0; rw [h] at HR; have := HR.out; simpa using this.symm
        · exact h
      obtain ⟨g, cap', cur, hv, hgb, hgc, hn, hm, hcs, htk⟩ : ∃ g cap' cur, Value.slice ao j cap = .slice (some ⟨g, 0, none⟩) j cap' ∧ w.heap.size ≤ g ∧ wr.heap[g]? = some (.cells cur 5 (0, 0)) ∧ j ≤ cap' ∧ cap' ≤ maxLen ∧ cur.size = cap' * 1 ∧ cur.toList.take (j * 1) = Lib.byteCells (lowDigits t j) := by
        rcases hown.2 with ⟨_, h⟩ | h
        · omega
        · exact h
      obtain ⟨rfl, rfl⟩ : ao = some ⟨g, 0, none⟩ ∧ cap = cap' := by injection hv with h1 _ h2; exact ⟨h1, h2⟩
      have HOWN := Lib.hid hown
      clear hown hv
      go_wp2_with fail
      have hrow0 : ∀ k, k < j → cur[k]? = some (.int .u8 (tagDigit t k : Int)) := by
        intro k hk
        have h1 : (cur.toList.take (j * 1))[k]? = (Lib.byteCells (lowDigits t j))[k]? := by rw [htk]
        rw [Nat.mul_one, List.getElem?_take, if_pos hk] at h1
        rw [← Array.getElem?_toList, h1]
        have := tagDigit_lt t k
        simp [Lib.byteCells, lowDigits, List.getElem?_range hk]
        omega
      clear htk
      go_loopw [5] (fun t5 w2 => ∃ (i : Nat) (cur2 : Array Value), i ≤ j / 2 ∧ t5 = .int .i64 i ∧ w2.heap[g]? = some (.cells cur2 5 (0, 0)) ∧ cur2.size = cap ∧ Below w.heap.size w w2 ∧
        ∀ k, k < j → cur2[k]? = some (.int .u8 (tagDigit t (if k < i ∨ j ≤ k + i then j - 1 - k else k) : Int))) (fun t5 _ => j - (intOf t5).toNat)
      case atStart => exact ⟨0, cur, Nat.zero_le _, rfl, hgc, by omega, hnx, fun k hk => by rw [if_neg (by omega)]; exact hrow0 k hk⟩
      case round =>
        obtain ⟨i, cur2, hi2, rfl, hg2, hs2, hnx2, hrow⟩ := hrel
        by_cases hij : i < j / 2
        · obtain ⟨q, hq⟩ : ∃ q : Nat, q = j - 1 - i := ⟨_, rfl⟩
          have hqi : (j : Int) - 1 - (i : Int) = (q : Int) := by omega
          have hqj : q < j := by omega
          have hiq : i ≠ q := by omega
          have hgd : wr.drew.heap[g]? = some (.cells cur2 5 (0, 0)) := hg2
          have ci := (blockCell hgd i).trans (hrow i (by omega))
          rw [if_neg (by omega)] at ci
          have cq := (blockCell hgd q).trans (hrow q (by omega))
          rw [if_neg (by omega)] at cq
          have fi := blockFrozen hgd i
          have fq := blockFrozen hgd q
          have hgd2 : (wr.setCell ⟨g, i, none⟩ (.int .u8 (tagDigit t q : Int))).drew.heap[g]? = some (.cells (cur2.setIfInBounds i (.int .u8 (tagDigit t q : Int))) 5 (0, 0)) := blockSet hg2 i _
          have cq2 : (wr.setCell ⟨g, i, none⟩ (.int .u8 (tagDigit t q : Int))).drew.cell? ⟨g, q, none⟩ = some (.int .u8 (tagDigit t q : Int)) := by
            rw [blockCell hgd2 q, Array.getElem?_setIfInBounds_ne hiq, hrow q (by omega), if_neg (by omega)]
          have fq2 := blockFrozen hgd2 q
          have hwq : IntKind.i64.wrap (q : Int) = (q : Int) := IntWalk.i64_in _ (by constructor <;> omega)
          have HROW := Lib.hid hrow
          have HQ := Lib.hid hq
          clear hrow hq
          go_wp2_with fail
          go_region
          go_wp2
          go_roundw
          case rel => exact ⟨i + 1, _, by omega, by go_num, blockSet hgd2 q (.int .u8 (tagDigit t i : Int)), by simp [hs2], ((hnx2.setCell (p := ⟨g, i, none⟩) hgb (.int .u8 (tagDigit t q : Int))).setCell (p := ⟨g, q, none⟩) hgb (.int .u8 (tagDigit t i : Int))).drew, swap_rows hs2 hn hij HQ.out HROW.out⟩
          case measure => simp [intOf]; omega
        · obtain rfl : i = j / 2 := by omega
          have HROW := Lib.hid hrow
          clear hrow
          go_wp2_with fail
          go_ret
          refine ⟨_, rfl, ⟨some ⟨g, 0, none⟩, cap, ?_, Or.inr ⟨g, rfl, ⟨cur2, hg2⟩, ?_⟩⟩, hnx2⟩
          · rw [tagBytes_eq t j hj0 hj HR.out.symm (HJM.out.resolve_left (by omega))]; simp [Lib.byteCells, lowDigits]
          · intro k v hk
            rw [tagBytes_eq t j hj0 hj HR.out.symm (HJM.out.resolve_left (by omega))] at hk
            exact (blockCell hg2 k).trans (mid_rows HROW.out hk)
    · have hne : ((r : Int) != 0) = true := by rw [bne_iff_ne]; omega
      have hj9 : j < 10 := by
        rcases Nat.lt_or_ge j 10 with h | h
        · exact h
        · exfalso
          apply hz
          rw [HR.out]
          exact Nat.div_eq_of_lt (Nat.lt_of_lt_of_le ht (Nat.le_trans (by decide : 2 ^ 64 ≤ 128 ^ 10) (Nat.pow_le_pow_right (by decide) h)))
      by_cases hj0 : j = 0
      · subst hj0
        go_wp2_with (first
          | (at_builtin; refine wpList_append_own _ rfl _ _ 51 rfl w.heap.size 5 i0 (.int .u8 0) 1 1 Tryz.underlying51 hi hz0 hz1 hz2 rfl (by decide) _ _ _ rfl (hown.alloc _) ⟨wr.heap.size, 0, none⟩ 1 1 [.int .u8 ((r % 128 : Nat) : Int)] rfl rfl (fun j u hj => one_cell wr 5 _ _ j (by simp) u hj) (by intro u hu; simp at hu; subst hu; rfl) (by decide) (by decide) (by have := hnx.size; simp; omega) ?_))
        · intro v' w1 hown' hgrow _
          have R := hightag_step (t := t) (d := r % 128) (by unfold tagDigit; rw [HR.out]; simp) hnx (fun g hg => owned_base hown g hg) _ hown' hgrow
          clear hown' hgrow hown
          go_wp2
          go_roundw
          case rel => exact ⟨1, by omega, Or.inr (by have := HR.out; simp at this; simp; omega), by rw [← HN.out]; simp, R.1, R.2⟩
          case measure => simp [intOf]; omega
      · have hjb : ((j : Int) != 0) = true := by rw [bne_iff_ne]; omega
        have hcv : IntKind.u8.wrap ((r % 128 + 128 : Nat) : Int) = ((r % 128 + 128 : Nat) : Int) := by rw [IntKind.wrap_u8]; omega
        have hmax : j + 1 ≤ maxLen := by simp only [maxLen]; omega
        go_wp2_with (first
          | (at_builtin; refine wpList_append_own _ rfl _ _ 51 rfl w.heap.size 5 i0 (.int .u8 0) 1 1 Tryz.underlying51 hi hz0 hz1 hz2 rfl (by decide) _ _ _ rfl (hown.alloc _) ⟨wr.heap.size, 0, none⟩ 1 1 [.int .u8 ((r % 128 + 128 : Nat) : Int)] rfl rfl (fun j u hj => one_cell wr 5 _ _ j (by simp) u hj) (by intro u hu; simp at hu; subst hu; rfl) (by exact hmax) (by omega) (by have := hnx.size; simp; omega) ?_))
        · intro v' w1 hown' hgrow _
          have R := hightag_step (t := t) (d := r % 128 + 128) (by unfold tagDigit; rw [HR.out, if_neg hj0]) hnx (fun g hg => owned_base hown g hg) _ hown' hgrow
          clear hown' hgrow hown
          go_wp2
          go_roundw
          case rel => exact ⟨j + 1, by omega, Or.inr (by rw [Nat.add_sub_cancel, ← HR.out]; exact hz), by rw [← HN.out]; simp, R.1, R.2⟩
          case measure => simp [intOf]; omega
end Go.Proofs.YtjmahgefijncaaaGreatFmt

/- encodeIdentifier. -/
namespace Go.Proofs.YtjmahgefijncaaaGreatFmt
open Go Go.RowKit

theorem or_u8 {x y : Nat} (hx : x < 256) (hy : y < 256) : bits .or .u8 (x : Int) (y : Int) = ((x ||| y : Nat) : Int) := (bits_nat .u8 8 (by decide) wraps_u8 x y (by omega) (by omega)).2
theorem or_cls : ∀ c, c < 4 → ∀ b : Bool, (c * 64 ||| (if b then 32 else 0)) = c * 64 + (if b then 32 else 0) := by decide +kernel
theorem or_tag : ∀ c, c < 4 → ∀ b : Bool, ∀ t, t < 32 → (c * 64 + (if b then 32 else 0)) ||| t = c * 64 + (if b then 32 else 0) + t := by decide +kernel

theorem alloc2_new (w : World) (a b : Obj) : ((w.alloc a).alloc b).heap[w.heap.size + 1]? = some b := by have := heap_alloc_new (w.alloc a) b; simpa using this

theorem reads_of_owned {w : World} {base n : Nat} {v : Value} {xs : List Value} (h : w.ownsRow base 5 1 v n xs) : Reads w xs v := by
  obtain ⟨hl, ⟨hv, h0⟩ | ⟨g, cap, cur, hv, _, hg, hn, hm, hcs, htk⟩⟩ := h
  · have : xs = [] := List.length_eq_zero_iff.1 (by omega)
    exact ⟨none, 0, by rw [hv, this]; rfl, Or.inl this⟩
  · refine ⟨_, cap, by rw [hv, show n = xs.length by omega], Or.inr ⟨g, rfl, ⟨cur, hg⟩, fun j v hj => ?_⟩⟩
    rw [blockCell hg j]
    rw [Nat.mul_one] at htk
    rw [← htk] at hj
    simp only [List.getElem?_take] at hj
    split at hj
    · simpa using hj
    · cases hj

theorem tagBytes_len (t : Nat) (h : t ≠ 0) : 0 < (Ber.tagBytes t).length ∧ (Ber.tagBytes t).length ≤ 12 := by
  have hm : ∀ f n, (Ber.tagMore f n).length ≤ f := by
    intro f
    induction f with
    | zero => intro n; simp [Ber.tagMore]
    | succ f ih => intro n; simp only [Ber.tagMore]; split <;> simp; exact ih _
  have := hm 10 (t / 128)
  unfold Ber.tagBytes
  rw [if_neg h]
  simp
  omega

set_option maxRecDepth 100000 in
set_option maxHeartbeats 4000000 in
theorem identOf_any (w : World) (c : Nat) (hc : c < 4) (b : Bool) (t : Nat) (ht : t < 2 ^ 64) :
    Calls Tryz.prog 145 #[tagValue c b t] w fun e w' => ∃ v, e = .returned v ∧ Reads w' (Lib.byteCells (Ber.identBytes c b t)) v ∧ Below w.heap.size w w' := by
  obtain ⟨y, hy, hy1, hyb⟩ : ∃ y : Nat, ((if b then 32 else 0 : Int)) = (y : Int) ∧ y = (if b then 32 else 0) ∧ y ≤ 32 := by cases b <;> exact ⟨_, rfl, rfl, by decide⟩
  have o1 : bits .or .u8 0 ((c * 64 : Nat) : Int) = ((c * 64 : Nat) : Int) := by have := or_u8 (x := 0) (y := c * 64) (by omega) (by omega); simpa using this
  have o2 : bits .or .u8 ((c * 64 : Nat) : Int) (y : Int) = ((c * 64 + y : Nat) : Int) := by rw [or_u8 (by omega) (by omega), hy1, or_cls c hc b]
  obtain ⟨x, hx⟩ : ∃ x : Nat, x = c * 64 := ⟨_, rfl⟩
  obtain ⟨s, hs⟩ : ∃ s : Nat, s = c * 64 + y := ⟨_, rfl⟩
  have hx256 : x < 256 := by omega
  have hs256 : s < 256 := by omega
  unfold tagValue
  rw [hy]
  rw [← hs, ← hx] at o2
  rw [← hx] at o1 ⊢
  have h0s := heap_alloc_new w (.cells #[.int .u8 x, .int .u8 y, .int .u64 t] 168)
  have HS := Lib.hid hs
  have HX := Lib.hid hx
  have HY := Lib.hid hy1
  clear hy hy1 hs hx h0s
  go_enter Tryz.func145, Tryz.ntmps145
  go_wp2
  go_region
  go_wp2
  go_region
  by_cases h31 : t < 31
  · have o3 : bits .or .u8 (s : Int) (t : Int) = ((s + t : Nat) : Int) := by rw [or_u8 (by omega) (by omega), HS.out, HY.out, or_tag c hc b t (by omega)]
    have hwt : IntKind.u8.wrap (t : Int) = (t : Int) := by rw [IntKind.wrap_u8]; omega
    have htb : decide ((t : Int) < 31) = true := by simp; omega
    go_wp2
    go_region
    go_wp2
    go_ret
    have hn := alloc2_new w (.cells #[.int .u8 x, .int .u8 y, .int .u64 t] 168) (.cells #[.int .u8 ((s : Int) + t)] 5)
    refine ⟨_, rfl, ⟨some ⟨w.heap.size + 1, 0, none⟩, 1, ?_, Or.inr ⟨w.heap.size + 1, rfl, ⟨_, hn⟩, fun j v hj => ?_⟩⟩, ((((Below.refl _ w).alloc (Nat.le_refl _) _).alloc (by simp) _).drew.drew.drew)⟩
    · simp [Ber.identBytes, h31, Lib.byteCells]
    · have h256 : s + t < 256 := by
        have := HS.out; have := HX.out; have := HY.out
        cases b <;> simp at * <;> omega
      refine (blockCell hn j).trans ?_
      rw [← hj]
      simp [Ber.identBytes, h31, Lib.byteCells, ← HY.out, ← HS.out]
      match j with
      | 0 => simp; omega
      | j + 1 => simp
  · have o3 : bits .or .u8 (s : Int) 31 = ((s + 31 : Nat) : Int) := by have := or_u8 (x := s) (y := 31) (by omega) (by omega); rw [show ((31 : Nat) : Int) = 31 from rfl] at this; rw [this, HS.out, HY.out, or_tag c hc b 31 (by omega)]
    have htb : decide ((t : Int) < 31) = false := by simp; omega
    obtain ⟨i0, hi, hz0, hz1, hz2⟩ := info_byteB
    have hlen : (Lib.byteCells (Ber.tagBytes t)).length ≤ 12 ∧ Lib.byteCells (Ber.tagBytes t) ≠ [] := by
      have h := tagBytes_len t (by omega)
      simp only [Lib.byteCells, List.length_map, ne_eq, List.map_eq_nil_iff]
      exact ⟨h.2, fun e => by rw [e] at h; simp at h⟩
    have h1c : ∀ v ∈ Lib.byteCells (Ber.tagBytes t), v.oneCell' = true := by intro v hv; simp [Lib.byteCells] at hv; obtain ⟨_, _, rfl⟩ := hv; rfl
    obtain ⟨cs, hcs⟩ : ∃ cs, cs = Lib.byteCells (Ber.tagBytes t) := ⟨_, rfl⟩
    rw [← hcs] at hlen h1c
    have HCS := Lib.hid hcs
    clear hcs
    go_wp2_with fail
    refine (hightag_any _ t ht (by omega)).mono ?_
    rintro e w1 ⟨v, rfl, hv, hb1⟩
    rw [← HCS.out] at hv
    obtain ⟨ao, cp, rfl, hv⟩ := hv
    obtain ⟨g, rfl, -, hsrc⟩ := hv.resolve_left hlen.2
    have hb0 : Below w.heap.size w w1 := (((Below.refl _ w).alloc (Nat.le_refl _) _).alloc (by simp) _).drew.drew.trans (hb1.mono (by simp; omega))
    have hrow : w1.heap[w.heap.size + 1]? = some (.cells #[.int .u8 ((s : Int) + 31)] 5 (0, 0)) := (hb1.block _ (by simp)).trans (alloc2_new w (.cells #[.int .u8 x, .int .u8 y, .int .u64 t] 168) _)
    have hown : w1.ownsRow w.heap.size 5 1 (.slice (some ⟨w.heap.size + 1, 0, none⟩) 1 1) 1 [.int .u8 ((s : Int) + 31)] := ⟨by simp, Or.inr ⟨_, 1, _, rfl, by omega, hrow, by omega, by decide, by simp, by simp⟩⟩
    have hsz := hb0.size
    have hmx : 1 + cs.length ≤ maxLen := by simp only [maxLen]; omega
    have hsrc2 : ∀ j u, cs[j]? = some u → w1.cell? ((⟨g, 0, none⟩ : Addr).add j) = some u := by
      intro j u hj
      have hadd : (⟨g, 0, none⟩ : Addr).add j = ⟨g, j, none⟩ := by unfold Addr.add; split <;> simp_all
      rw [hadd]; exact hsrc j u hj
    have HB := Lib.hid hb0
    clear hb0 hb1 hv hsrc hrow
    go_wp2_with (first
      | (at_builtin; refine wpList_append_own _ rfl _ _ 51 rfl w.heap.size 5 i0 (.int .u8 0) 1 1 Tryz.underlying51 hi hz0 hz1 hz2 rfl (by decide) _ _ _ rfl hown ⟨g, 0, none⟩ cs.length cp cs rfl (by simp) hsrc2 h1c hmx (by omega) hsz ?_))
    intro v' w2 hown' hgrow _
    have hb2 : Below w.heap.size w w2 := HB.out.trans ⟨hgrow.os, hgrow.tape, hgrow.output, hgrow.size, fun k hk => hgrow.block k (by omega) (by simp [Value.ownBlock]; omega)⟩
    have hrd := reads_of_owned hown'
    have HRD := Lib.hid hrd
    have HB2 := Lib.hid hb2
    clear hrd hb2 hgrow hown' hown
    go_wp2
    go_ret
    refine ⟨_, rfl, ?_, HB2.out⟩
    have e1 : Lib.byteCells (Ber.identBytes c b t) = [.int .u8 ((s : Int) + 31)] ++ cs := by
      have h256 : s + 31 < 256 := by
        have := HS.out; have := HX.out; have := HY.out
        cases b <;> simp at * <;> omega
      rw [HCS.out]
      simp [Ber.identBytes, h31, Lib.byteCells, ← HY.out, ← HS.out]
      omega
    rw [e1]
    exact HRD.out
end Go.Proofs.YtjmahgefijncaaaGreatFmt

