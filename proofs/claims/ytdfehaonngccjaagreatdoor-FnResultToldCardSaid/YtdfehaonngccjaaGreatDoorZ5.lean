/- Small callees: LimitReader, ParseInt64, DecodeString, isEOCPacket. -/
import Derived.Test.YtdfehaonngccjaaGreatDoorZ4
import Derived.Lib.ConvBytes
set_option linter.unusedVariables false
set_option linter.unusedSimpArgs false
namespace Go.Proofs.YtdfehaonngccjaaGreatDoor
open Go Go.RowKit

theorem limit_any (w : World) (R : Nat) (n : Int) :
    Calls Tryz.prog 53 #[.iface 60 (.pointer (some ⟨R, 0, none⟩)), .int .i64 n] w fun e w' => e = .returned (.iface 148 (.pointer (some ⟨w.heap.size, 0, none⟩))) ∧ w.alloc (.cells #[.iface 60 (.pointer (some ⟨R, 0, none⟩)), .int .i64 n] 150) = w' := by
  go_enter Tryz.func53, Tryz.ntmps53
  go_wp2
  go_ret
  exact ⟨rfl, rfl⟩

theorem or_step_i {acc v : Nat} (hacc : acc < 256 ^ 7) (hv : v < 256) : bits .or .i64 (wrap64 ((acc : Int) * 256)) (v : Int) = wrap64 ((acc : Int) * 256 + v) := by
  have hor : acc * 256 ||| v = acc * 256 + v := by
    rw [show acc * 256 = 2 ^ 8 * acc by omega]
    exact (Nat.two_pow_add_eq_or_of_lt hv acc).symm
  have h1 : BitVec.ofInt 64 (wrap64 ((acc : Int) * 256)) = BitVec.ofNat 64 (acc * 256) := by
    apply BitVec.eq_of_toNat_eq
    rw [BitVec.toNat_ofInt, BitVec.toNat_ofNat]
    unfold wrap64
    omega
  have hb : (IntKind.i64).bits = 64 := rfl
  show IntKind.i64.wrap ((BitVec.ofInt 64 (wrap64 ((acc : Int) * 256)) ||| BitVec.ofInt 64 (v : Int)).toNat : Int) = _
  rw [h1, BitVec.ofInt_natCast, BitVec.toNat_or, BitVec.toNat_ofNat, BitVec.toNat_ofNat, Nat.mod_eq_of_lt (by omega), Nat.mod_eq_of_lt (by omega), hor]
  rw [IntKind.wrap_i64]; unfold wrap64; omega

/-- The number that at most eight bytes are. -/
def parseOf (l : List UInt8) : Int := if 8 < l.length then 0 else if l.length = 0 then 0 else if Ber.be l < 2 ^ (8 * l.length - 1) then (Ber.be l : Int) else (Ber.be l : Int) - 2 ^ (8 * l.length)

theorem parse_eq (l : List UInt8) (hl : l.length ≤ 8) : wrap64 (wrap64 (Ber.be l : Int) * 2 ^ (64 - l.length * 8)) / 2 ^ (64 - l.length * 8) = parseOf l := by
  have hb := be_lt l.length l rfl
  unfold parseOf
  generalize Ber.be l = x at hb ⊢
  generalize l.length = n at hl hb ⊢
  have hn : n = 0 ∨ n = 1 ∨ n = 2 ∨ n = 3 ∨ n = 4 ∨ n = 5 ∨ n = 6 ∨ n = 7 ∨ n = 8 := by omega
  unfold wrap64
  rcases hn with rfl | rfl | rfl | rfl | rfl | rfl | rfl | rfl | rfl
  all_goals
    simp only [Nat.reduceMul, Nat.reduceSub, Nat.reducePow, Int.reducePow, Nat.reduceLT, Nat.reduceEqDiff, if_false, if_true] at hb ⊢
    first
      | omega
      | (split <;> omega)

/-- The round's head: j bytes are read. -/
def ParInv (l : List UInt8) (w : World) (t2 t4 : Value) (wr : World) : Prop :=
  ∃ j : Nat, j ≤ l.length ∧ t4 = .int .i64 j ∧ t2 = .int .i64 (wrap64 (Ber.be (l.take j))) ∧ w = wr

set_option maxHeartbeats 4000000 in
theorem parse_any (w : World) (G c : Nat) (l : List UInt8) (hl : l.length ≤ 8) (hsrc : ∀ j v, (Lib.byteCells l)[j]? = some v → w.cell? ⟨G, j, none⟩ = some v) :
    Calls Tryz.prog 55 #[.slice (some ⟨G, 0, none⟩) l.length c] w fun e w' => e = .returned (.tuple #[.int .i64 (parseOf l), .nilIface]) ∧ w = w' := by
  have HS := Lib.hid hsrc
  clear hsrc
  go_enter Tryz.func55, Tryz.ntmps55
  go_wp2_with fail
  go_loopw [2, 4] (fun t2 t4 wr => ParInv l w t2 t4 wr) (fun _ t4 _ => l.length - (intOf t4).toNat)
  case atStart => exact ⟨0, by omega, rfl, by simp [Ber.be, wrap64], rfl⟩
  case round =>
    obtain ⟨j, hj, rfl, rfl, rfl⟩ := hrel
    by_cases hjl : j < l.length
    · have hv256 : (l[j]).toNat < 256 := (l[j]).toNat_lt
      have hc : w.cell? ⟨G, j, none⟩ = some (.int .u8 (l[j]).toNat) := HS.out j _ (by simp [Lib.byteCells, List.getElem?_eq_getElem hjl])
      have hacc : Ber.be (l.take j) < 256 ^ j := be_lt _ _ (by simp; omega)
      have h7 : Ber.be (l.take j) < 256 ^ 7 := Nat.lt_of_lt_of_le hacc (Nat.pow_le_pow_right (by decide) (by omega))
      have hnx : Ber.be (l.take (j + 1)) = Ber.be (l.take j) * 256 + (l[j]).toNat := by
        rw [List.take_add_one, List.getElem?_eq_getElem hjl]; exact be_snoc _ _
      have hw : wrap64 (Ber.be (l.take j) : Int) = (Ber.be (l.take j) : Int) := wrap_low (by omega)
      have hO := or_step_i (acc := Ber.be (l.take j)) (v := (l[j]).toNat) h7 hv256
      have HNX := Lib.hid hnx
      clear hnx hacc h7
      go_wp2_with fail
      refine ⟨⟨j + 1, by omega, by go_num, ?_, rfl⟩, by simp [intOf]; omega⟩
      rw [HNX.out]; go_num
    · obtain rfl : j = l.length := by omega
      go_wp2_with fail
      go_ret2
      rw [parse_eq l hl]
      exact ⟨rfl, rfl⟩

set_option maxHeartbeats 4000000 in
/-- isEOCPacket of a packet's block. -/
theorem eoc_any (w : World) (p : Nat) (cls typ tag : Int) (val : Value) (bo : Option Addr) (bn bc : Nat) (dp : Value) (co : Option Addr) (cn cc : Nat) (ds : Value) (fr : Nat × Nat)
    (h : w.heap[p]? = some (.cells #[.int .u8 cls, .int .u8 typ, .int .u64 tag, val, .slice bo bn bc, dp, .slice co cn cc, ds] 92 fr)) :
    Calls Tryz.prog 50 #[.pointer (some ⟨p, 0, none⟩)] w fun e w' => e = .returned (.bool (tag == 0 && cls == 0 && typ == 0 && decide (bn = 0) && decide (cn = 0))) ∧ w = w' := by
  have c0 : w.cell? ⟨p, 0, none⟩ = some (.int .u8 cls) := blockCell h 0
  have c1 : w.cell? ⟨p, 1, none⟩ = some (.int .u8 typ) := blockCell h 1
  have c2 : w.cell? ⟨p, 2, none⟩ = some (.int .u64 tag) := blockCell h 2
  have c4 : w.cell? ⟨p, 4, none⟩ = some (.slice bo bn bc) := blockCell h 4
  have c6 : w.cell? ⟨p, 6, none⟩ = some (.slice co cn cc) := blockCell h 6
  clear h
  have hB : ∀ n : Nat, ((n : Int) == 0) = decide (n = 0) := fun n => by by_cases h : n = 0 <;> simp [h]
  by_cases t0 : (tag == 0) = true <;> by_cases t1 : (cls == 0) = true <;> by_cases t2 : (typ == 0) = true
  all_goals
    try simp only [Bool.not_eq_true] at t0
    try simp only [Bool.not_eq_true] at t1
    try simp only [Bool.not_eq_true] at t2
    go_enter Tryz.func50, Tryz.ntmps50
    go_wp2
    all_goals
      go_ret
      exact ⟨by simp_all, rfl⟩
end Go.Proofs.YtdfehaonngccjaaGreatDoor

