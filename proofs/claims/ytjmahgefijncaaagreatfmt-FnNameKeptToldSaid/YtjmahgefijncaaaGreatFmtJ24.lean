/- unicode/utf8.word; what utf8.Valid reads. -/
import Derived.Test.YtjmahgefijncaaaGreatFmtJ1
import Derived.Test.YtjmahgefijncaaaGreatFmtProg
import Derived.Test.YtjmahgefijncaaaGreatFmtJ16
import Derived.Test.YtjmahgefijncaaaGreatFmtJ2
import Derived.Deep.QuietTactic
import Derived.BigQuiet
import Derived.RegionTactic
import Derived.Deep.LoopGhost
import Derived.Deep.RegionWith
import Derived.Deep.DeepCutAuto
set_option linter.unusedVariables false
set_option linter.unusedSimpArgs false
namespace Go.Proofs.YtjmahgefijncaaaGreatFmt
open Go Go.RowKit

def word8 (b0 b1 b2 b3 b4 b5 b6 b7 : Int) : Int := bits BinOp.or IntKind.u64 (bits BinOp.or IntKind.u64 (bits BinOp.or IntKind.u64 (bits BinOp.or IntKind.u64 (bits BinOp.or IntKind.u64 (bits BinOp.or IntKind.u64 (bits BinOp.or IntKind.u64 (IntKind.u64.wrap b0) (IntKind.u64.wrap (IntKind.u64.wrap b1 * 256))) (IntKind.u64.wrap (IntKind.u64.wrap b2 * 65536))) (IntKind.u64.wrap (IntKind.u64.wrap b3 * 16777216))) (IntKind.u64.wrap (IntKind.u64.wrap b4 * 4294967296))) (IntKind.u64.wrap (IntKind.u64.wrap b5 * 1099511627776))) (IntKind.u64.wrap (IntKind.u64.wrap b6 * 281474976710656))) (IntKind.u64.wrap (IntKind.u64.wrap b7 * 72057594037927936))
set_option maxRecDepth 100000 in
set_option maxHeartbeats 8000000 in
theorem word_any (b0 b1 b2 b3 b4 b5 b6 b7 : Int) (w : World) (G o n c : Nat) (hn : 8 ≤ n) (hn2 : n < 1000000) (c0 : w.cell? ⟨G, o, none⟩ = some (.int .u8 b0)) (c1 : w.cell? ⟨G, o + 1, none⟩ = some (.int .u8 b1)) (c2 : w.cell? ⟨G, o + 2, none⟩ = some (.int .u8 b2)) (c3 : w.cell? ⟨G, o + 3, none⟩ = some (.int .u8 b3))
    (c4 : w.cell? ⟨G, o + 4, none⟩ = some (.int .u8 b4)) (c5 : w.cell? ⟨G, o + 5, none⟩ = some (.int .u8 b5)) (c6 : w.cell? ⟨G, o + 6, none⟩ = some (.int .u8 b6)) (c7 : w.cell? ⟨G, o + 7, none⟩ = some (.int .u8 b7)) :
    Calls Tryz.prog 143 #[.slice (some ⟨G, o, none⟩) n c] w fun e w' => e = .returned (.int .u64 (word8 b0 b1 b2 b3 b4 b5 b6 b7)) ∧ ∃ m, w' = w.drewN m := by
  · have n0 : (0 : Int) < (n : Int) := by omega
    have n1 : (1 : Int) < (n : Int) := by omega
    have n2 : (2 : Int) < (n : Int) := by omega
    have n3 : (3 : Int) < (n : Int) := by omega
    have n4 : (4 : Int) < (n : Int) := by omega
    have n5 : (5 : Int) < (n : Int) := by omega
    have n6 : (6 : Int) < (n : Int) := by omega
    have n7 : (7 : Int) < (n : Int) := by omega
    go_enter Tryz.func143, Tryz.ntmps143
    go_wp2_with fail
    go_quiet (fail)
    go_wp2_with fail
    go_ret
    exact ⟨rfl, _, rfl⟩

/-- What Valid reads: bytes, and two tables. -/
structure UtvMem (w : World) (G L : Nat) (l : Nat → Nat) : Prop where
  cell : ∀ j, j < L → w.cell? ⟨G, j, none⟩ = some (.int .u8 (l j : Int))
  byte : ∀ j, l j < 256
  tab : UtvTab w
theorem UtvMem.stays {w w' : World} {G L : Nat} {l : Nat → Nat} (h : UtvMem w G L l) (hb : Below w.heap.size w w') : UtvMem w' G L l := by
  refine ⟨fun j hj => ?_, h.byte, h.tab.stays hb⟩
  have := h.cell j hj
  exact (hb.cell (World.block_lt_of_cell? w ⟨G, j, none⟩ this)).trans this

def wordAt (l : Nat → Nat) (o : Nat) : Int := word8 (l o) (l (o + 1)) (l (o + 2)) (l (o + 3)) (l (o + 4)) (l (o + 5)) (l (o + 6)) (l (o + 7))
theorem word_mem {w : World} {G L : Nat} {l : Nat → Nat} (h : UtvMem w G L l) (o n c : Nat) (hn : 8 ≤ n) (hn2 : n < 1000000) (ho : o + 8 ≤ L) :
    Calls Tryz.prog 143 #[.slice (some ⟨G, o, none⟩) n c] w fun e w' => e = .returned (.int .u64 (wordAt l o)) ∧ ∃ m, w' = w.drewN m :=
  word_any _ _ _ _ _ _ _ _ w G o n c hn hn2 (h.cell _ (by omega)) (h.cell _ (by omega)) (h.cell _ (by omega)) (h.cell _ (by omega)) (h.cell _ (by omega)) (h.cell _ (by omega)) (h.cell _ (by omega)) (h.cell _ (by omega))

def BoolOut (w : World) (e : Ending) (w' : World) : Prop := (∃ r : Bool, e = .returned (.bool r)) ∧ Below w.heap.size w w'

end Go.Proofs.YtjmahgefijncaaaGreatFmt

