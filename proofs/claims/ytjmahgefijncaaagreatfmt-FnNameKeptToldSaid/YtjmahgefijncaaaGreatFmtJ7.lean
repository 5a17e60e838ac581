/- spec.nameReader in memory: peek, nameDigit, pair. -/
import Derived.Test.YtjmahgefijncaaaGreatFmtJ6
import Derived.Test.YtjmahgefijncaaaGreatFmtJ1
import Derived.Test.YtjmahgefijncaaaGreatFmtJ3
import Derived.Test.YtjmahgefijncaaaGreatFmtJ4
import Derived.BigQuiet
import Derived.BigRegion
import Derived.WalkKit
set_option linter.unusedVariables false
set_option linter.unusedSimpArgs false
namespace Go.Proofs.YtjmahgefijncaaaGreatFmt
open Go Go.RowKit

/-- The reader in block R: its text, where it stands, whether something is left open. -/
def NRd (w : World) (R : Nat) (l : List UInt8) (i : Nat) (o : Bool) : Prop := w.heap[R]? = some (.cells #[.string (Nm.bs l), .int .i64 i, .bool o] 76 (0, 0))
theorem NRd.stays {w w' : World} {R i : Nat} {l : List UInt8} {o : Bool} (h : NRd w R l i o) (k : Below w.heap.size w w') : NRd w' R l i o := (k.block R (blockLt h)).trans h
theorem NRd.at {w : World} {R i : Nat} {l : List UInt8} {o : Bool} (h : NRd w R l i o) (j : Nat) : NRd (w.setCell ⟨R, 1, none⟩ (.int .i64 j)) R l j o := by
  have := blockSet h 1 (.int .i64 (j : Int)); unfold NRd; simpa using this
theorem NRd.opened {w : World} {R i : Nat} {l : List UInt8} {o : Bool} (h : NRd w R l i o) (b : Bool) : NRd (w.setCell ⟨R, 2, none⟩ (.bool b)) R l i b := by
  have := blockSet h 2 (.bool b); unfold NRd; simpa using this
theorem NRd.drewN {w : World} {R i : Nat} {l : List UInt8} {o : Bool} (h : NRd w R l i o) (n : Nat) : NRd (w.drewN n) R l i o := h
theorem NRd.lt {w : World} {R i : Nat} {l : List UInt8} {o : Bool} (h : NRd w R l i o) : R < w.heap.size := blockLt h

/-- A callee's contract in a world behind draws that were counted ahead. -/
theorem quiet_add {P : Program} {f : FuncId} {args : Array Value} {w : World} {k n : Nat} {v : Value}
    (h : Calls P f args (w.drewN (k + n)) fun e w' => e = .returned v ∧ ∃ m, w' = (w.drewN (k + n)).drewN m) : Calls P f args (w.drewN (k + n)) fun e w'' => e = .returned v ∧ ∃ m, w'' = w.drewN (k + m) :=
  h.mono fun _ _ ⟨he, m, hm⟩ => ⟨he, n + m, by rw [hm, World.drewN_drewN, Nat.add_assoc]⟩

theorem Only.setOne {R : Nat} {a w : World} (h : Only (· = R) a w) (j : Nat) (v : Value) : Only (· = R) a (w.setCell ⟨R, j, none⟩ v) :=
  h.trans ⟨rfl, rfl, rfl, by simp [World.setCell], fun k _ hk => Below.heap_setCell _ _ _ _ (by rintro rfl; exact hk rfl)⟩

def peekN (l : List UInt8) (i : Nat) : Nat := match l[i]? with | some b => b.toNat | none => 0

theorem peek_any (w : World) (R : Nat) (l : List UInt8) (i : Nat) (o : Bool) (h : NRd w R l i o) (hi : i ≤ l.length) (hl : l.length < 4000000000) :
    Calls Tryz.prog 63 #[.pointer (some ⟨R, 0, none⟩)] w fun e w' => e = .returned (.int .u8 (peekN l i : Nat)) ∧ ∃ k, w' = w.drewN k := by
  have c0 : w.cell? ⟨R, 0, none⟩ = some (.string (Nm.bs l)) := blockCell h 0
  have c1 : w.cell? ⟨R, 1, none⟩ = some (.int .i64 i) := blockCell h 1
  have hsz := bs_size l
  clear h
  by_cases hend : i = l.length
  · subst hend
    have hp : peekN l l.length = 0 := by unfold peekN; rw [List.getElem?_eq_none (Nat.le_refl _)]
    have t1 : decide ((l.length : Int) < (l.length : Int)) = false := by simp
    go_enter Tryz.func63, Tryz.ntmps63
    go_wp2_with fail
    go_quiet (fail)
    go_wp2_with fail
    go_ret
    exact ⟨by rw [hp]; rfl, _, rfl⟩
  · have hlt : i < l.length := by omega
    have hlt2 : i < (Nm.bs l).size := by rw [hsz]; exact hlt
    have t1 : decide ((i : Int) < (l.length : Int)) = true := by simp; omega
    obtain ⟨b, hb, hget⟩ : ∃ b : UInt8, l[i]? = some b ∧ ((Nm.bs l)[i]'hlt2).toNat = b.toNat := ⟨_, List.getElem?_eq_getElem hlt, by rw [bs_get]⟩
    have hp : peekN l i = b.toNat := by unfold peekN; rw [hb]
    have HP := Lib.hid hp
    clear hp hb
    have i0 : (0 : Int) ≤ (i : Int) := by omega
    have i1 : (i : Int) < ((Nm.bs l).size : Int) := by omega
    go_enter Tryz.func63, Tryz.ntmps63
    go_wp2_with fail
    go_quiet (fail)
    go_wp2_with fail
    go_quiet (fail)
    go_wp2_with fail
    go_ret
    exact ⟨by rw [HP.out]; rfl, _, (World.drewN_drewN ..)⟩

def digI (n : Nat) : Int := match Nm.hexDigit n with | some x => (x : Int) | none => -1
theorem digI_lo {n : Nat} (h : 48 ≤ n ∧ n ≤ 57) : digI n = (n : Int) - 48 := by unfold digI Nm.hexDigit; rw [if_pos h]; simp only []; omega
theorem digI_a {n : Nat} (h : 97 ≤ n ∧ n ≤ 102) : digI n = (n : Int) - 97 + 10 := by unfold digI Nm.hexDigit; rw [if_neg (by omega), if_pos h]; simp only []; omega
theorem digI_A {n : Nat} (h : 65 ≤ n ∧ n ≤ 70) : digI n = (n : Int) - 65 + 10 := by unfold digI Nm.hexDigit; rw [if_neg (by omega), if_neg (by omega), if_pos h]; simp only []; omega
theorem digI_no {n : Nat} (h : ¬ (48 ≤ n ∧ n ≤ 57)) (h2 : ¬ (97 ≤ n ∧ n ≤ 102)) (h3 : ¬ (65 ≤ n ∧ n ≤ 70)) : digI n = -1 := by unfold digI Nm.hexDigit; rw [if_neg h, if_neg h2, if_neg h3]
theorem digit_any (n : Nat) (hn : n < 256) (w : World) :
    Calls Tryz.prog 94 #[.int .u8 n] w fun e w' => e = .returned (.int .i64 (digI n)) ∧ ∃ k, w' = w.drewN k := by
  have hc : (48 ≤ n ∧ n ≤ 57) ∨ (97 ≤ n ∧ n ≤ 102) ∨ (65 ≤ n ∧ n ≤ 70) ∨ n < 48 ∨ (57 < n ∧ n < 65) ∨ (70 < n ∧ n < 97) ∨ 102 < n := by omega
  rcases hc with hc | hc | hc | hc | hc | hc | hc
  all_goals
    first
      | (have hd := digI_lo hc)
      | (have hd := digI_a hc)
      | (have hd := digI_A hc)
      | (have hd := digI_no (n := n) (by omega) (by omega) (by omega))
    first
      | (have q1 : decide ((48 : Int) ≤ (n : Int)) = true := by simp; omega)
      | (have q1 : decide ((48 : Int) ≤ (n : Int)) = false := by simp; omega)
    first
      | (have q2 : decide ((97 : Int) ≤ (n : Int)) = true := by simp; omega)
      | (have q2 : decide ((97 : Int) ≤ (n : Int)) = false := by simp; omega)
    first
      | (have q3 : decide ((65 : Int) ≤ (n : Int)) = true := by simp; omega)
      | (have q3 : decide ((65 : Int) ≤ (n : Int)) = false := by simp; omega)
    first
      | (have r1 : decide ((n : Int) ≤ 57) = true := by simp; omega)
      | (have r1 : decide ((n : Int) ≤ 57) = false := by simp; omega)
    first
      | (have r2 : decide ((n : Int) ≤ 102) = true := by simp; omega)
      | (have r2 : decide ((n : Int) ≤ 102) = false := by simp; omega)
    first
      | (have r3 : decide ((n : Int) ≤ 70) = true := by simp; omega)
      | (have r3 : decide ((n : Int) ≤ 70) = false := by simp; omega)
    rw [hd]
    go_enter Tryz.func94, Tryz.ntmps94
    go_wp2_with fail
    all_goals
      go_ret
      exact ⟨rfl, 0, rfl⟩

/-- pair: two digits, or nothing is read. -/
theorem pair_any (w : World) (R : Nat) (l : List UInt8) (i : Nat) (o : Bool) (h : NRd w R l i o) (hi : i ≤ l.length) (hl : l.length < 4000000000) :
    Calls Tryz.prog 84 #[.pointer (some ⟨R, 0, none⟩)] w fun e w' => Only (· = R) w w' ∧
      match Sp.pair (l.drop i) with
      | none => e = .returned (.tuple #[.int .u8 0, .bool false]) ∧ NRd w' R l i o
      | some (b, _) => e = .returned (.tuple #[.int .u8 (b.toNat : Int), .bool true]) ∧ NRd w' R l (i + 2) o := by
  have c0 : w.cell? ⟨R, 0, none⟩ = some (.string (Nm.bs l)) := blockCell h 0
  have c1 : w.cell? ⟨R, 1, none⟩ = some (.int .i64 i) := blockCell h 1
  have f1 := blockFrozen h 1
  have hsz := bs_size l
  have HH := Lib.hid h
  clear h
  by_cases hend : l.length ≤ i + 1
  · have hp : Sp.pair (l.drop i) = none := by
      have : (l.drop i).length ≤ 1 := by rw [List.length_drop]; omega
      match hd : l.drop i, this with
      | [], _ => rfl
      | [_], _ => rfl
      | _ :: _ :: _, h => simp at h
    rw [hp]
    have t1 : decide ((i : Int) + 1 ≥ (l.length : Int)) = true := by simp; omega
    go_enter Tryz.func84, Tryz.ntmps84
    go_wp2_with fail
    go_quiet (fail)
    go_wp2_with fail
    go_ret2
    exact ⟨(Only.refl _ _).drewN _, rfl, HH.out⟩
  · have hlt : i < l.length := by omega
    have hlt' : i + 1 < l.length := by omega
    have hlt2 : i < (Nm.bs l).size := by rw [hsz]; exact hlt
    have hlt3 : i + 1 < (Nm.bs l).size := by rw [hsz]; exact hlt'
    have t1 : decide ((i : Int) + 1 ≥ (l.length : Int)) = false := by simp; omega
    obtain ⟨b, hb, hget⟩ : ∃ b : UInt8, l[i]? = some b ∧ ((Nm.bs l)[i]'hlt2).toNat = b.toNat := ⟨_, List.getElem?_eq_getElem hlt, by rw [bs_get]⟩
    obtain ⟨c, hc, hget2⟩ : ∃ b : UInt8, l[i + 1]? = some b ∧ ((Nm.bs l)[i + 1]'hlt3).toNat = b.toNat := ⟨_, List.getElem?_eq_getElem hlt', by rw [bs_get]⟩
    have hdr : l.drop i = b :: c :: l.drop (i + 2) := by
      rw [List.drop_eq_getElem_cons hlt, List.drop_eq_getElem_cons hlt']
      rw [List.getElem?_eq_getElem hlt] at hb
      rw [List.getElem?_eq_getElem hlt'] at hc
      rw [Option.some.inj hb, Option.some.inj hc]
    have hp : Sp.pair (l.drop i) = match Nm.hexDigit b.toNat, Nm.hexDigit c.toNat with | some x, some y => some (UInt8.ofNat (x * 16 + y), l.drop (i + 2)) | _, _ => none := by rw [hdr]; rfl
    rw [hp]
    have hbl := UInt8.toNat_lt b
    have hcl := UInt8.toNat_lt c
    have HD1 := Lib.hid (fun w => digit_any b.toNat hbl w)
    have HD2 := Lib.hid (fun w => digit_any c.toNat hcl w)
    clear hp hdr hb hc
    have i0 : (0 : Int) ≤ (i : Int) := by omega
    have i1 : (i : Int) < ((Nm.bs l).size : Int) := by omega
    have i2 : (0 : Int) ≤ (i : Int) + 1 := by omega
    have i3 : (i : Int) + 1 < ((Nm.bs l).size : Int) := by omega
    have i4 : ((i : Int) + 1).toNat = i + 1 := by omega
    unfold digI at HD1 HD2
    have fin : ∀ x y : Nat, Nm.hexDigit b.toNat = some x → Nm.hexDigit c.toNat = some y → x < 16 ∧ y < 16 ∧ bits .or .i64 ((x : Int) * 16) (y : Int) = ((x * 16 + y : Nat) : Int) ∧ ((UInt8.ofNat (x * 16 + y)).toNat : Int) = ((x * 16 + y : Nat) : Int) := fun x y hx hy => by
      have hx16 := (hex_of hx).2.1
      have hy16 := (hex_of hy).2.1
      refine ⟨by omega, by omega, ?_, ?_⟩
      · have key : ∀ x < 16, ∀ y < 16, bits .or .i64 ((x : Nat) * 16 : Int) ((y : Nat) : Int) = ((x * 16 + y : Nat) : Int) := by decide +kernel
        exact key x (by omega) y (by omega)
      · rw [UInt8.toNat_ofNat_of_lt' (show x * 16 + y < UInt8.size by have : UInt8.size = 256 := rfl; omega)]
    have FIN := Lib.hid fin
    clear fin
    rcases hx : Nm.hexDigit b.toNat with _ | x
    · simp only [hx] at HD1
      have t2 : decide ((-1 : Int) < 0) = true := by decide
      rcases hy : Nm.hexDigit c.toNat with _ | y
      all_goals
        simp only [hy] at HD2
        go_enter Tryz.func84, Tryz.ntmps84
        go_wp2_with fail
        go_quiet (fail)
        go_wp2_with fail
        go_quiet (first | with_reducible exact quiet_add (HD1.out _) | with_reducible exact quiet_add (HD2.out _))
        go_wp2_with fail
        go_ret2
        exact ⟨(Only.refl _ _).drewN _, rfl, HH.out⟩
    · have x0 : decide ((x : Int) < 0) = false := decide_eq_false (by omega)
      simp only [hx] at HD1
      rcases hy : Nm.hexDigit c.toNat with _ | y
      · simp only [hy] at HD2
        have t2 : decide ((-1 : Int) < 0) = true := by decide
        go_enter Tryz.func84, Tryz.ntmps84
        go_wp2_with fail
        go_quiet (fail)
        go_wp2_with fail
        go_quiet (first | with_reducible exact quiet_add (HD1.out _) | with_reducible exact quiet_add (HD2.out _))
        go_wp2_with fail
        go_ret2
        exact ⟨(Only.refl _ _).drewN _, rfl, HH.out⟩
      · have y0 : decide ((y : Int) < 0) = false := decide_eq_false (by omega)
        simp only [hy] at HD2
        obtain ⟨hx16, hy16, hor, hnat⟩ := FIN.out x y hx hy
        go_enter Tryz.func84, Tryz.ntmps84
        go_wp2_with fail
        go_quiet (fail)
        go_wp2_with fail
        go_quiet (first | with_reducible exact quiet_add (HD1.out _) | with_reducible exact quiet_add (HD2.out _))
        go_wp2_with fail
        go_ret2
        exact ⟨((Only.refl _ _).drewN _).setOne 1 _, by rw [hnat]; rfl, (HH.out.drewN _).at (i + 2)⟩
end Go.Proofs.YtjmahgefijncaaaGreatFmt

/- Bits of bytes and of 64-bit words, as the readers and writers of BER use them. -/
namespace Go.Proofs.YtjmahgefijncaaaGreatFmt
open Go

theorem wraps_u64 (n : Int) (h₀ : 0 ≤ n) (h₁ : n < 2 ^ 64) : IntKind.u64.wrap n = n := by rw [IntKind.wrap_u64]; omega
theorem and192 {x : Nat} (h : x < 256) : bits .and .u8 (x : Int) 192 = ((x / 64 * 64 : Nat) : Int) := by
  have e := bits_nat .u8 8 (by decide) wraps_u8 x 192 (by omega) (by omega)
  have k : ∀ y, y < 256 → y &&& 192 = y / 64 * 64 := by decide +kernel
  rw [← k x h]; exact e.1
theorem and32 {x : Nat} (h : x < 256) : bits .and .u8 (x : Int) 32 = ((x / 32 % 2 * 32 : Nat) : Int) := by
  have e := bits_nat .u8 8 (by decide) wraps_u8 x 32 (by omega) (by omega)
  have k : ∀ y, y < 256 → y &&& 32 = y / 32 % 2 * 32 := by decide +kernel
  rw [← k x h]; exact e.1
theorem and31 {x : Nat} (h : x < 256) : bits .and .u64 (x : Int) 31 = ((x % 32 : Nat) : Int) := by
  have := bits_mask .u64 64 (by decide) wraps_u64 5 (by decide) (x : Int) (by omega) (by omega)
  simpa using this
theorem and127 {x : Nat} (h : x < 256) : bits .and .u64 (x : Int) 127 = ((x % 128 : Nat) : Int) := by
  have := bits_mask .u64 64 (by decide) wraps_u64 7 (by decide) (x : Int) (by omega) (by omega)
  simpa using this
theorem and128 {x : Nat} (h : x < 256) : bits .and .u64 (x : Int) 128 = ((x / 128 * 128 : Nat) : Int) := by
  have e := bits_nat .u64 64 (by decide) wraps_u64 x 128 (by omega) (by omega)
  have k : ∀ y, y < 256 → y &&& 128 = y / 128 * 128 := by decide +kernel
  rw [← k x h]; exact e.1
theorem or_low {x y : Nat} (hx : x % 128 = 0) (hxl : x < 2 ^ 64) (hy : y < 128) : bits .or .u64 (x : Int) (y : Int) = ((x + y : Nat) : Int) := by
  have := bits_join .u64 64 (by decide) wraps_u64 7 (x : Int) (y : Int) (by omega) (by omega) (by omega) (by omega) (by omega) (by omega)
  simpa using this
end Go.Proofs.YtjmahgefijncaaaGreatFmt

/- nameSpecial, nameHex. -/
namespace Go.Proofs.YtjmahgefijncaaaGreatFmt
open Go Go.RowKit

def spcList : List UInt8 := [92, 34, 43, 44, 59, 60, 62, 32, 35, 61]
theorem spc_mem (c : UInt8) : NT.spc c = decide (c ∈ spcList) := by
  unfold NT.spc spcList
  rw [Bool.eq_iff_iff]
  simp [or_assoc]

/-- The world behind []byte("..") of a constant: a row, and its mark. -/
def markWorld (w : World) (cs : Array Value) : World := (w.alloc (.cells cs 5)).freeze ⟨w.heap.size, cs.size, none⟩ 1
theorem conv_mark (w : World) (cs : Array Value) (n c : Nat) : (convert 51 51 (.slice (some ⟨w.heap.size, 0, none⟩) n c)).run Tryz.prog (w.alloc (.cells cs 5)) = .ok (.slice (some ⟨w.heap.size, 0, none⟩) n c) (markWorld w cs) := by
  have hsh : (w.alloc (.cells cs 5)).shape? w.heap.size = some (5, cs.size) := by
    simp [World.shape?, World.alloc, -World.alloc_eq]
  simp [convert, run_underlying Tryz.underlying51, run_underlying Tryz.underlying5, markStringish, markWorld, hsh, Result.andThen]
theorem markWorld_size (w : World) (cs : Array Value) : (markWorld w cs).heap.size = w.heap.size + 1 := by
  simp [markWorld, World.freeze, World.alloc, -World.alloc_eq]
theorem markWorld_new (w : World) (cs : Array Value) : (markWorld w cs).heap[w.heap.size]? = some (.cells cs 5 (cs.size, cs.size + 1)) := by
  simp [markWorld, World.freeze, World.alloc, -World.alloc_eq]
  rw [Array.getElem_modify_self]
  simp
theorem markWorld_below (w : World) (cs : Array Value) : Below w.heap.size w (markWorld w cs) := by
  refine ⟨by simp [markWorld, World.freeze, World.alloc, -World.alloc_eq], by simp [markWorld, World.freeze, World.alloc, -World.alloc_eq], by simp [markWorld, World.freeze, World.alloc, -World.alloc_eq], by rw [markWorld_size]; omega, fun k hk => ?_⟩
  have h1 : w.heap.size ≠ k := by omega
  simp [markWorld, World.freeze, World.alloc, -World.alloc_eq, Array.getElem?_modify, Array.getElem?_push, h1, Ne.symm h1]
def u8Row (l : List UInt8) : Array Value := (l.map fun c => Value.int .u8 (c.toNat : Int)).toArray

set_option maxRecDepth 100000 in
set_option maxHeartbeats 8000000 in
theorem special_any (c : UInt8) (w : World) :
    Calls Tryz.prog 79 #[.int .u8 (c.toNat : Int)] w fun e w' => e = .returned (.bool (NT.spc c)) ∧ Below w.heap.size w w' := by
  rw [spc_mem]
  have hcv := conv_mark w (u8Row spcList) 10 10
  have hnew := markWorld_new w (u8Row spcList)
  have hbel := markWorld_below w (u8Row spcList)
  have hread : ∀ (j : Nat) (b : UInt8), spcList[j]? = some b → (markWorld w (u8Row spcList)).cell? ⟨w.heap.size, j, none⟩ = some (.int .u8 (b.toNat : Int)) := fun j b hj => by
    rw [blockCell hnew j]
    simp [u8Row, hj]
  generalize hW : markWorld w (u8Row spcList) = W at *
  have hrow : u8Row spcList = #[.int .u8 92, .int .u8 34, .int .u8 43, .int .u8 44, .int .u8 59, .int .u8 60, .int .u8 62, .int .u8 32, .int .u8 35, .int .u8 61] := rfl
  rw [hrow] at hcv
  have HR := Lib.hid hread
  have HB := Lib.hid hbel
  obtain ⟨sl, hsl⟩ : ∃ sl, sl = spcList := ⟨_, rfl⟩
  have hlen : sl.length = 10 := by rw [hsl]; rfl
  rw [← hsl] at HR
  rw [← hsl]
  clear hread hbel hnew hW hrow hsl
  go_enter Tryz.func79, Tryz.ntmps79
  go_wp2_with fail
  clear hcv
  go_loopw [8] (fun t8 wr => ∃ (i : Nat), t8 = .int .i64 i ∧ i ≤ 10 ∧ wr = W ∧ Hid (c ∉ sl.take i)) (fun t8 _ => 10 - (intOf t8).toNat)
  case atStart => exact ⟨0, rfl, by omega, rfl, Lib.hid (by simp)⟩
  case round =>
    obtain ⟨i, rfl, hi, rfl, HI⟩ := hrel
    by_cases hend : i = 10
    · subst hend
      have hres : decide (c ∈ sl) = false := by
        have := HI.out
        rw [List.take_of_length_le (by omega)] at this
        simpa using this
      have HRS := Lib.hid hres
      clear hres
      go_wp2_with fail
      go_ret
      exact ⟨by rw [HRS.out]; rfl, HB.out⟩
    · have hlt : i < 10 := by omega
      have t1 : decide ((i : Int) < 10) = true := by simp; omega
      obtain ⟨b, hb⟩ : ∃ b, sl[i]? = some b := ⟨_, List.getElem?_eq_getElem (by omega)⟩
      have hc := HR.out i b hb
      have i1 : (i : Int) < 10 := by omega
      by_cases he : c = b
      · subst he
        have q : ((c.toNat : Int) == (c.toNat : Int)) = true := by simp
        have hres : decide (c ∈ sl) = true := by simpa using List.mem_of_getElem? hb
        have HRS := Lib.hid hres
        clear hres hb
        go_wp2_with fail
        go_ret
        exact ⟨by rw [HRS.out]; rfl, HB.out⟩
      · have q : ((c.toNat : Int) == (b.toNat : Int)) = false := by rw [beq_eq_false_iff_ne]; intro h; exact he (UInt8.toNat_inj.1 (by omega))
        have hnext : c ∉ sl.take (i + 1) := by
          rw [take_snoc hb, List.mem_append, not_or]
          exact ⟨HI.out, by simpa using he⟩
        have HN := Lib.hid hnext
        clear hnext hb he
        go_wp2_with fail
        exact ⟨⟨i + 1, by go_num, by omega, trivial, HN⟩, by simp [intOf]; omega⟩
end Go.Proofs.YtjmahgefijncaaaGreatFmt

