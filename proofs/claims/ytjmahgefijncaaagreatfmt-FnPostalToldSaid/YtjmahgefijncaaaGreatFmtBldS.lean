/- strings.Builder's WriteString. -/
import Derived.Test.YtjmahgefijncaaaGreatFmtBld
import Derived.Lib.AppendStr
namespace Go.Proofs.YtjmahgefijncaaaGreatFmt
open Go Go.RowKit

theorem strCells_bs (s : List UInt8) : Lib.strCells (Nm.bs s) = Lib.byteCells s := by
  simp [Lib.strCells, Lib.byteCells, Nm.bs]

set_option maxRecDepth 100000 in
set_option maxHeartbeats 4000000 in
theorem str_bld (B b : Nat) (l : List Value) (s : List UInt8) (hs0 : s ≠ []) (hsl : s.length < 1000000000) (w : World) (h : Bld B b l w) (hlen : l.length < 1000000000) (hBw : B ≤ w.heap.size) :
    Calls Tryz.prog 73 #[.pointer (some ⟨b, 0, none⟩), .string (Nm.bs s)] w fun e w' => (∃ n, e = .returned (.tuple #[.int .i64 n, .nilIface])) ∧ Bld B b (l ++ Lib.byteCells s) w' ∧ Below B w w' := by
  obtain ⟨i0, hi, hz0, hz1, hz2⟩ := info_byte
  have hssz := bs_size s
  have hspos : 0 < s.length := by cases s with | nil => exact absurd rfl hs0 | cons _ _ => simp
  go_enter Tryz.func73, Tryz.ntmps73
  go_wp2_with fail
  refine (check_bld B b l _ h).mono ?_
  rintro e w1 ⟨rfl, h1, hb1⟩
  have hsz1 := hb1.size
  obtain ⟨hB, v, hbk, hown, hne⟩ := h1
  have hlt := blockLt hbk
  have c0 : w1.cell? ⟨b, 0, none⟩ = some (.pointer (some ⟨b, 0, none⟩)) := blockCell hbk 0
  have c1 : w1.cell? ⟨b, 1, none⟩ = some v := blockCell hbk 1
  have HK := Lib.hid hbk
  clear hbk
  go_wp2_with (at_builtin; refine Lib.wpList_append_own_string _ rfl _ _ 51 9 rfl B 5 i0 Tryz.underlying51 Tryz.underlying9 hi hz0 hz1 hz2 _ _ _ rfl hown (Nm.bs s) rfl ?c3 ?c4 ?c5 ?_)
  case c3 => unfold maxLen; omega
  case c4 => omega
  case c5 => omega
  intro v' w2 hown' hgrow _
  rw [strCells_bs] at hown'
  try rw [hssz] at hown'
  have hb2 : w2.heap[b]? = some (.cells #[.pointer (some ⟨b, 0, none⟩), v] 130 (0, 0)) :=
    (hgrow.block b hlt (fun e => hne e.symm)).trans HK.out
  have d0 : w2.cell? ⟨b, 0, none⟩ = some (.pointer (some ⟨b, 0, none⟩)) := blockCell hb2 0
  have d1 : w2.cell? ⟨b, 1, none⟩ = some v := blockCell hb2 1
  have f1 : w2.frozen? ⟨b, 1, none⟩ = false := blockFrozen hb2 1
  obtain ⟨g, cap, rfl⟩ : ∃ g cap, v' = .slice (some ⟨g, 0, none⟩) (l.length + s.length) cap := by
    rcases hown'.2 with ⟨_, h0⟩ | ⟨g, cap, cur, hv, _⟩
    · omega
    · exact ⟨g, cap, hv⟩
  have hbl : (Lib.byteCells s).length = s.length := by simp [Lib.byteCells]
  have hend : Bld B b (l ++ Lib.byteCells s) (w2.setCell ⟨b, 1, none⟩ (.slice (some ⟨g, 0, none⟩) (l.length + s.length) cap)) := Or.inr (Lib.BuilderAt.put hB hb2 (by rw [List.length_append, hbl]; exact hown') (by decide))
  have hbel : Below B w (w2.setCell ⟨b, 1, none⟩ (.slice (some ⟨g, 0, none⟩) (l.length + s.length) cap)) :=
    (hb1.grown hgrow (by omega) (fun k hk => (hown.lt k hk).1)).setCell (p := ⟨b, 1, none⟩) hB _
  have HE := Lib.hid (And.intro hend hbel)
  clear hend hbel hb2 hgrow hown' hown hb1
  go_wp2_with fail
  go_ret2
  exact ⟨⟨_, rfl⟩, HE.out⟩
end Go.Proofs.YtjmahgefijncaaaGreatFmt
