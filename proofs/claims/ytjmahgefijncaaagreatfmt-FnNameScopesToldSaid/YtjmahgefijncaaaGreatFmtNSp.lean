/- nameSpecial, nameHex. -/
import Derived.Test.YtjmahgefijncaaaGreatFmtNTxt
import Derived.Test.YtjmahgefijncaaaGreatFmtBackDN
import Derived.Test.YtjmahgefijncaaaGreatFmtEnt0
import Derived.Test.YtjmahgefijncaaaGreatFmtBits
namespace Go.Proofs.YtjmahgefijncaaaGreatFmt
open Go Go.RowKit

def spcList : List UInt8 := [92, 34, 43, 44, 59, 60, 62, 32, 35, 61]
theorem spc_mem (c : UInt8) : NT.spc c = decide (c ∈ spcList) := by
  unfold NT.spc spcList
  rw [Bool.eq_iff_iff]
  simp [or_assoc]

/-- The world behind []byte("..") of a constant: a row, and its mark. -/
def markWorld (w : World) (cs : Array Value) : World := (w.alloc (.cells cs 5)).freeze ⟨w.heap.size, cs.size, none⟩ 1
theorem conv_mark (w : World) (cs : Array Value) (n c : Nat) : (convert 51 51 (.slice (some ⟨w.heap.size, 0, none⟩) n c)).run Tryz.prog (w.alloc (.cells cs 5)) = .ok (.slice (some ⟨w.heap.size, 0, none⟩) n c) (markWorld w cs) := by
  have hsh : (w.alloc (.cells cs 5)).shape? w.heap.size = some (5, cs.size) := by
    simp [World.shape?, World.alloc, -World.alloc_eq]
  simp [convert, run_underlying Tryz.underlying51, run_underlying Tryz.underlying5, markStringish, markWorld, hsh, Result.andThen]
theorem markWorld_size (w : World) (cs : Array Value) : (markWorld w cs).heap.size = w.heap.size + 1 := by
  simp [markWorld, World.freeze, World.alloc, -World.alloc_eq]
theorem markWorld_new (w : World) (cs : Array Value) : (markWorld w cs).heap[w.heap.size]? = some (.cells cs 5 (cs.size, cs.size + 1)) := by
  simp [markWorld, World.freeze, World.alloc, -World.alloc_eq]
  rw [Array.getElem_modify_self]
  simp
theorem markWorld_below (w : World) (cs : Array Value) : Below w.heap.size w (markWorld w cs) := by
  refine ⟨by simp [markWorld, World.freeze, World.alloc, -World.alloc_eq], by simp [markWorld, World.freeze, World.alloc, -World.alloc_eq], by simp [markWorld, World.freeze, World.alloc, -World.alloc_eq], by rw [markWorld_size]; omega, fun k hk => ?_⟩
  have h1 : w.heap.size ≠ k := by omega
  simp [markWorld, World.freeze, World.alloc, -World.alloc_eq, Array.getElem?_modify, Array.getElem?_push, h1, Ne.symm h1]
def u8Row (l : List UInt8) : Array Value := (l.map fun c => Value.int .u8 (c.toNat : Int)).toArray

set_option maxRecDepth 100000 in
set_option maxHeartbeats 8000000 in
theorem special_any (c : UInt8) (w : World) :
    Calls Tryz.prog 79 #[.int .u8 (c.toNat : Int)] w fun e w' => e = .returned (.bool (NT.spc c)) ∧ Below w.heap.size w w' := by
  rw [spc_mem]
  have hcv := conv_mark w (u8Row spcList) 10 10
  have hnew := markWorld_new w (u8Row spcList)
  have hbel := markWorld_below w (u8Row spcList)
  have hread : ∀ (j : Nat) (b : UInt8), spcList[j]? = some b → (markWorld w (u8Row spcList)).cell? ⟨w.heap.size, j, none⟩ = some (.int .u8 (b.toNat : Int)) := fun j b hj => by
    rw [blockCell hnew j]
    simp [u8Row, hj]
  generalize hW : markWorld w (u8Row spcList) = W at *
  have hrow : u8Row spcList = #[.int .u8 92, .int .u8 34, .int .u8 43, .int .u8 44, .int .u8 59, .int .u8 60, .int .u8 62, .int .u8 32, .int .u8 35, .int .u8 61] := rfl
  rw [hrow] at hcv
  have HR := Lib.hid hread
  have HB := Lib.hid hbel
  obtain ⟨sl, hsl⟩ : ∃ sl, sl = spcList := ⟨_, rfl⟩
  have hlen : sl.length = 10 := by rw [hsl]; rfl
  rw [← hsl] at HR
  rw [← hsl]
  clear hread hbel hnew hW hrow hsl
  go_enter Tryz.func79, Tryz.ntmps79
  go_wp2_with fail
  clear hcv
  go_loopw [8] (fun t8 wr => ∃ (i : Nat), t8 = .int .i64 i ∧ i ≤ 10 ∧ wr = W ∧ Hid (c ∉ sl.take i)) (fun t8 _ => 10 - (intOf t8).toNat)
  case atStart => exact ⟨0, rfl, by omega, rfl, Lib.hid (by simp)⟩
  case round =>
    obtain ⟨i, rfl, hi, rfl, HI⟩ := hrel
    by_cases hend : i = 10
    · subst hend
      have hres : decide (c ∈ sl) = false := by
        have := HI.out
        rw [List.take_of_length_le (by omega)] at this
        simpa using this
      have HRS := Lib.hid hres
      clear hres
      go_wp2_with fail
      go_ret
      exact ⟨by rw [HRS.out]; rfl, HB.out⟩
    · have hlt : i < 10 := by omega
      have t1 : decide ((i : Int) < 10) = true := by simp; omega
      obtain ⟨b, hb⟩ : ∃ b, sl[i]? = some b := ⟨_, List.getElem?_eq_getElem (by omega)⟩
      have hc := HR.out i b hb
      have i1 : (i : Int) < 10 := by omega
      by_cases he : c = b
      · subst he
        have q : ((c.toNat : Int) == (c.toNat : Int)) = true := by simp
        have hres : decide (c ∈ sl) = true := by simpa using List.mem_of_getElem? hb
        have HRS := Lib.hid hres
        clear hres hb
        go_wp2_with fail
        go_ret
        exact ⟨by rw [HRS.out]; rfl, HB.out⟩
      · have q : ((c.toNat : Int) == (b.toNat : Int)) = false := by rw [beq_eq_false_iff_ne]; intro h; exact he (UInt8.toNat_inj.1 (by omega))
        have hnext : c ∉ sl.take (i + 1) := by
          rw [take_snoc hb, List.mem_append, not_or]
          exact ⟨HI.out, by simpa using he⟩
        have HN := Lib.hid hnext
        clear hnext hb he
        go_wp2_with fail
        exact ⟨⟨i + 1, by go_num, by omega, trivial, HN⟩, by simp [intOf]; omega⟩
end Go.Proofs.YtjmahgefijncaaaGreatFmt
