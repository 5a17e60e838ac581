/- The bytes of a style, one by one: NameText's closure. -/
import Derived.Test.YtjmahgefijncaaaGreatFmtNTxt
import Derived.Test.YtjmahgefijncaaaGreatFmtEnt0
import Derived.Test.YtjmahgefijncaaaGreatFmtOnly
import Derived.BigQuiet
namespace Go.Proofs.YtjmahgefijncaaaGreatFmt
open Go Go.RowKit

/-- The slice v holds bytes. -/
def BytesIn (w : World) (v : Value) (l : List UInt8) : Prop :=
  ∃ o cap, v = .slice o l.length cap ∧ ∀ (j : Nat) (b : UInt8), l[j]? = some b → ∃ g off, o = some ⟨g, off, none⟩ ∧ w.cell? ⟨g, off + j, none⟩ = some (.int .u8 (b.toNat : Int))
theorem BytesIn.stays {w w' : World} {v : Value} {l : List UInt8} (h : BytesIn w v l) (k : Below w.heap.size w w') : BytesIn w' v l := by
  obtain ⟨o, c, hv, h1⟩ := h
  refine ⟨o, c, hv, fun j p hj => ?_⟩
  obtain ⟨b, off, e, c0⟩ := h1 j p hj
  exact ⟨b, off, e, (k.cell (World.block_lt_of_cell? w ⟨b, off + j, none⟩ c0)).trans c0⟩

def stAt (l : List UInt8) (k : Nat) : UInt8 := if l = [] then 0 else (l[k % l.length]?).getD 0
def atOf (l : List UInt8) (k : Nat) : Nat := if l = [] then 0 else k

set_option maxRecDepth 100000 in
set_option maxHeartbeats 8000000 in
theorem next_any (l : List UInt8) (o : Option Addr) (cap sb ab k : Nat) (w : World) (hS : w.cell? ⟨sb, 0, none⟩ = some (.slice o l.length cap)) (hB : BytesIn w (.slice o l.length cap) l)
    (hA : w.heap[ab]? = some (.cells #[.int .i64 (atOf l k : Nat)] 3 (0, 0))) (hne : sb ≠ ab) (hng : l ≠ [] → ∀ g off, o = some ⟨g, off, none⟩ → g ≠ ab) (hl : l.length < 1000000000) (hk : k < 1000000000000) :
    Calls Tryz.prog 53 #[.pointer (some ⟨sb, 0, none⟩), .pointer (some ⟨ab, 0, none⟩)] w fun e w' => e = .returned (.int .u8 ((stAt l k).toNat : Int)) ∧
      w'.heap[ab]? = some (.cells #[.int .i64 (atOf l (k + 1) : Nat)] 3 (0, 0)) ∧ Only (· = ab) w w' := by
  by_cases hnil : l = []
  · subst hnil
    have t1 : (((([] : List UInt8).length : Nat) : Int) == 0) = true := rfl
    have hA2 := Lib.hid hA
    clear hB hA
    go_enter Tryz.func53, Tryz.ntmps53
    go_wp2_with fail
    go_ret
    exact ⟨rfl, hA2.out, Only.refl _ _⟩
  · have hpos : 0 < l.length := by cases l with | nil => exact absurd rfl hnil | cons _ _ => simp
    have ea : ∀ j, atOf l j = j := fun j => by unfold atOf; rw [if_neg hnil]
    rw [ea] at hA
    have t1 : ((l.length : Int) == 0) = false := by rw [beq_eq_false_iff_ne]; omega
    have c0 : w.cell? ⟨ab, 0, none⟩ = some (.int .i64 (k : Int)) := blockCell hA 0
    have f0 := blockFrozen hA 0
    have hlt : k % l.length < l.length := Nat.mod_lt _ hpos
    obtain ⟨b, hb⟩ : ∃ b, l[k % l.length]? = some b := ⟨_, List.getElem?_eq_getElem hlt⟩
    have hres : stAt l k = b := by unfold stAt; rw [if_neg hnil, hb]; rfl
    obtain ⟨o', cap', hv, hr⟩ := hB
    injection hv with e1 _ _
    obtain ⟨g, off, e2, hc⟩ := hr _ b hb
    rw [← e1] at e2
    subst e2
    have hgne : g ≠ ab := hng hnil g off rfl
    have hset := blockSet hA 0 (.int .i64 ((k : Int) + 1))
    have c1 : (w.setCell ⟨ab, 0, none⟩ (.int .i64 ((k : Int) + 1))).cell? ⟨ab, 0, none⟩ = some (.int .i64 ((k : Int) + 1)) := blockCell hset 0
    have hlg := World.block_lt_of_cell? w ⟨g, off + k % l.length, none⟩ hc
    have hls := World.block_lt_of_cell? w ⟨sb, 0, none⟩ hS
    have c2 : (w.setCell ⟨ab, 0, none⟩ (.int .i64 ((k : Int) + 1))).cell? ⟨sb, 0, none⟩ = some (.slice (some ⟨g, off, none⟩) l.length cap) := (World.cell?_of_block (w := w) (Below.heap_setCell _ _ _ _ (fun e => hne e))).trans hS
    have c3 : (w.setCell ⟨ab, 0, none⟩ (.int .i64 ((k : Int) + 1))).cell? ⟨g, off + k % l.length, none⟩ = some (.int .u8 (b.toNat : Int)) := (World.cell?_of_block (w := w) (Below.heap_setCell _ _ _ _ (fun e => hgne e))).trans hc
    have hmod : ((k : Int)).tmod (l.length : Int) = ((k % l.length : Nat) : Int) := by rw [Int.tmod_eq_emod_of_nonneg (by omega)]; exact (Int.natCast_emod ..).symm
    have hmod2 : (k : Int) % (l.length : Int) = ((k % l.length : Nat) : Int) := (Int.natCast_emod ..).symm
    have HOUT := Lib.hid (show (w.setCell ⟨ab, 0, none⟩ (.int .i64 ((k : Int) + 1))).heap[ab]? = some (.cells #[.int .i64 (atOf l (k + 1) : Nat)] 3 (0, 0)) by rw [ea]; simpa using hset)
    have HO := Lib.hid ((Only.refl (· = ab) w).setCell (p := ⟨ab, 0, none⟩) (Or.inr rfl) (.int .i64 ((k : Int) + 1)))
    have HR := Lib.hid hres
    have hd0 : (l.length : Int) ≠ 0 := by omega
    generalize k % l.length = q at *
    have q0 : (0 : Int) ≤ (q : Int) := by omega
    have q1 : (q : Int) < (l.length : Int) := by omega
    clear hset hA hr hres hb e1 hc ea
    go_enter Tryz.func53, Tryz.ntmps53
    go_wp2_with fail
    go_quiet (fail)
    go_wp2_with fail
    go_ret
    exact ⟨by rw [HR.out]; rfl, HOUT.out, HO.out.drewN _⟩
end Go.Proofs.YtjmahgefijncaaaGreatFmt
