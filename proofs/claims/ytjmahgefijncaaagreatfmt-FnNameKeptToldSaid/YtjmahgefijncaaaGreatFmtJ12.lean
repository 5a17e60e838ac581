/- bytes.Buffer's grow: which blocks it turns, and how. -/
import Derived.Test.YtjmahgefijncaaaGreatFmtShelfB
import Derived.Test.YtjmahgefijncaaaGreatFmtJ1
import Derived.Deep.QuietTactic
import Derived.BigQuiet
import Derived.Deep.RegionWith
import Derived.WalkSpells
import Derived.Outline
set_option linter.unusedVariables false
set_option linter.unusedSimpArgs false
namespace Go.Proofs.YtjmahgefijncaaaGreatFmt
open Go Go.RowKit

/-- What grow leaves: a new row, with room. -/
def Grew (D l n : Nat) (lr : Int) (old : List Value) (w w' : World) : Prop :=
  ∃ (G cap2 : Nat) (cells : Array Value), w.heap.size ≤ G ∧ w'.heap[D]? = some (.cells #[.slice (some ⟨G, 0, none⟩) (l + n) cap2, .int .i64 0, .int .i8 lr] 183 (0, 0)) ∧
    w'.heap[G]? = some (.cells cells 5 (0, 0)) ∧ cells.size = cap2 ∧ l + n ≤ cap2 ∧ cap2 ≤ maxLen ∧ cells.toList.take l = old ∧ Keep w.heap.size D w w'

theorem keep_below {w w' : World} {k : Nat} (h : Below (w.drewN k).heap.size (w.drewN k) w') (D : Nat) : Keep w.heap.size D w w' :=
  ⟨h.os, h.tape, h.output, h.size, fun i hi _ => h.block i hi⟩

theorem grew_of (w w3 : World) (D l n : Nat) (x : Value) (cap2 k : Nat) (lr : Int) (cells : Array Value) (hb : Below (w.drewN k).heap.size (w.drewN k) w3)
    (hD : w3.heap[D]? = some (.cells #[x, .int .i64 0, .int .i8 lr] 183 (0, 0))) (hn3 : w3.heap[w.heap.size]? = some (.cells cells 5 (0, 0))) (hsz : cells.size = cap2) (hroom : l + n ≤ cap2) (hm : cap2 ≤ maxLen) (hDlt : D < w.heap.size) (y : Value) :
    Grew D l n lr (cells.toList.take l) w (((w3.setCell ⟨D, 0, none⟩ y).setCell ⟨D, 1, none⟩ (.int .i64 0)).setCell ⟨D, 0, none⟩ (.slice (some ⟨w.heap.size, 0, none⟩) (l + n) cap2)) := by
  have h1 := blockSet hD 0 y
  have h2 := blockSet h1 1 (.int .i64 0)
  have h3 := blockSet h2 0 (.slice (some ⟨w.heap.size, 0, none⟩) (l + n) cap2)
  refine ⟨w.heap.size, cap2, cells, Nat.le_refl _, by simpa using h3, ?_, hsz, hroom, hm, rfl, (((keep_below hb D).setCell (Or.inr rfl) _).setCell (Or.inr rfl) _).setCell (Or.inr rfl) _⟩
  rw [Below.heap_setCell _ _ _ _ (by show w.heap.size ≠ D; omega), Below.heap_setCell _ _ _ _ (by show w.heap.size ≠ D; omega), Below.heap_setCell _ _ _ _ (by show w.heap.size ≠ D; omega)]
  exact hn3

set_option maxHeartbeats 8000000 in
set_option maxRecDepth 100000 in
theorem grow_row (w : World) (D g l cap n : Nat) (lr : Int) (cur : Array Value) (hD : w.heap[D]? = some (.cells #[.slice (some ⟨g, 0, none⟩) l cap, .int .i64 0, .int .i8 lr] 183 (0, 0)))
    (hg : w.heap[g]? = some (.cells cur 5 (0, 0))) (hcs : cur.size = cap) (hlc : l ≤ cap) (hn : 1 ≤ n) (hroom : cap - l < n) (hlim : l + n ≤ 140737488355328) (hgD : g ≠ D) (h1 : ∀ v ∈ cur.toList.take l, v.oneCell' = true) :
    Calls Tryz.prog 138 #[.pointer (some ⟨D, 0, none⟩), .int .i64 n] w fun e w' => e = .returned (.int .i64 l) ∧ Grew D l n lr (cur.toList.take l) w w' := by
  have hmax : cap ≤ maxLen := by simp only [maxLen]; omega
  have hIs : Lib.IsBuffer 183 5 0 D (cur.toList.take l) w := ⟨Nat.zero_le _, _, lr, hD, ⟨by simp, Or.inr ⟨g, cap, cur, by simp <;> omega, Nat.zero_le _, hg, by simp <;> omega, hmax, by omega, by simp⟩⟩, by simp [Value.ownBlock] <;> omega⟩
  have hlen : (cur.toList.take l).length = l := by simp <;> omega
  have hLen := Tryz.Buffer_Len 0 D _ w hIs
  rw [hlen] at hLen
  have HLEN := Lib.hid hLen
  clear hIs hlen hLen
  have c0 : w.cell? ⟨D, 0, none⟩ = some (.slice (some ⟨g, 0, none⟩) l cap) := blockCell hD 0
  have c1 : w.cell? ⟨D, 1, none⟩ = some (.int .i64 0) := blockCell hD 1
  have f0 := blockFrozen hD 0
  have f1 := blockFrozen hD 1
  have hDlt := blockLt hD
  have HD := Lib.hid hD
  have HG := Lib.hid hg
  have HC := Lib.hid hcs
  have H1 := Lib.hid h1
  clear hD hg hcs h1
  go_enter Tryz.func138, Tryz.ntmps138
  go_wp2_with fail
  refine HLEN.out.mono ?_
  rintro e w1 ⟨rfl, k, rfl⟩
  have hq : ¬ (n : Int) ≤ (cap : Int) / 2 - (l : Int) := by omega
  have hcb : cap ≤ 140737488355328 := by omega
  have HCB := Lib.hid hcb
  clear hcb
  have hnil := fun (w : World) => Lib.run_eql_slice_nil (P := Tryz.prog) (t := 51) (w := w)
  have t0 : ((l : Int) == 0) = true ∨ ((l : Int) == 0) = false := by cases h : ((l : Int) == 0) <;> simp
  rcases t0 with t0 | t0
  all_goals
    go_wp2_with fail
    refine (Tryz.Buffer_tryGrow_none D (some ⟨g, 0, none⟩) l cap n (w.drewN k) c0 hlc hmax hroom).mono ?_
    rintro e w2 ⟨rfl, rfl⟩
    go_wp2_with fail
    have hg2 : (w.drewN (k + 1)).heap[g]? = _ := HG.out
    have HG2 := Lib.hid hg2
    clear hg2
    have hwn : IntKind.i64.wrap (n : Int) = (n : Int) := IntWalk.i64_in _ (by constructor <;> omega)
    go_region_with ((go_at_call 149; refine (Tryz.bytes_growSlice_row g l cap n cur (w.drewN (k + 1)) HG2.out HC.out hlc hn hlim HCB.out H1.out).mono ?_; rintro e w3 ⟨cap2, cells, rfl, hn3, hsz, htk, hroom2, hm2, hb3⟩; have hD3 : w3.heap[D]? = some (.cells #[.slice (some ⟨g, 0, none⟩) l cap, .int .i64 0, .int .i8 lr] 183 (0, 0)) := (hb3.block D hDlt).trans HD.out; have d0 := blockFrozen hD3 0; have d1 := blockFrozen hD3 1; have e0 : w3.cell? ⟨D, 0, none⟩ = some (.slice (some ⟨g, 0, none⟩) l cap) := blockCell hD3 0; have e1 : w3.cell? ⟨D, 1, none⟩ = some (.int .i64 0) := blockCell hD3 1))
    go_wp2_with fail
    all_goals
      refine bodyPost_ret (v := .int .i64 l) (by simp [results, Tryz.results138, go_sem]) rfl ⟨rfl, ?_⟩
      rw [← htk]
      exact grew_of w w3 D l n _ cap2 (k + 1) lr cells hb3 hD3 hn3 hsz hroom2 hm2 hDlt _
end Go.Proofs.YtjmahgefijncaaaGreatFmt

