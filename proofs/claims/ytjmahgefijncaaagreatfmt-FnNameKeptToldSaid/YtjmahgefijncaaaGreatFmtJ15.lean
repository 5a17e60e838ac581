/- Packets in memory. -/
import Derived.Test.YtjmahgefijncaaaGreatFmtJ14
import Derived.Test.YtjmahgefijncaaaGreatFmtJ11
set_option linter.unusedVariables false
set_option linter.unusedSimpArgs false
namespace Go.Proofs.YtjmahgefijncaaaGreatFmt
open Go Go.RowKit

/-- What Value holds. -/
def valOf (c : Nat) (b : Bool) (t : Nat) (data : List UInt8) : Value :=
  if c = 0 ∧ b = false then
    if t = 1 then .iface 4 (.bool (parseOf data != 0))
    else if t = 2 ∨ t = 10 then .iface 2 (.int .i64 (parseOf data))
    else if t = 4 then .iface 9 (.string ⟨data.toArray⟩)
    else .nilIface
  else .nilIface

/-- What ByteValue holds. -/
def BvAt (w : World) (c : Nat) (b : Bool) (data : List UInt8) (bv : Value) : Prop :=
  if c = 0 ∧ b = false then ∃ G cp, bv = .slice (some ⟨G, 0, none⟩) data.length cp ∧ ∀ j v, (Lib.byteCells data)[j]? = some v → w.cell? ⟨G, j, none⟩ = some v
  else bv = .slice none 0 0

mutual
/-- The packet in block p. -/
def Tree (w : World) (p : Nat) : Ber.Pk → Prop
  | .mk c b t data items => ∃ (D : Nat) (row : Option Nat) (C cap : Nat) (bv : Value) (xs : List Value), c < 4 ∧ t < 2 ^ 64 ∧
      w.heap[p]? = some (.cells (PkCells ((c * 64 : Nat) : Int) (if b then 32 else 0) t (valOf c b t data) bv D (.slice (some ⟨C, 0, none⟩) xs.length cap) (.string ⟨#[]⟩)) 171 (0, 0)) ∧
      BufAt w D row (Lib.byteCells (Ber.body (.mk c b t data items))) ∧ KidRow w C cap xs ∧ BvAt w c b data bv ∧ (b = false → items = []) ∧ (b = true → data = []) ∧ Kids w xs items
def Kids (w : World) (xs : List Value) : List Ber.Pk → Prop
  | [] => xs = []
  | x :: r => ∃ q vs, xs = .pointer (some ⟨q, 0, none⟩) :: vs ∧ Tree w q x ∧ Kids w vs r
end

/-- Q holds as long as the blocks from B on stand that are not of Own. -/
def Stable (B : Nat) (w : World) (Own : Nat → Prop) (Q : World → Prop) : Prop :=
  ∀ w2 : World, (∀ k, B ≤ k → k < w.heap.size → ¬ Own k → w2.heap[k]? = w.heap[k]?) → Q w2
theorem Stable.now {B : Nat} {w : World} {Own : Nat → Prop} {Q : World → Prop} (h : Stable B w Own Q) : Q w := h w fun _ _ _ _ => rfl
/-- It stays so behind what turns own blocks alone, whatever own blocks come in place. -/
theorem Stable.only {B : Nat} {w w' : World} {Own Own' S : Nat → Prop} {Q : World → Prop} (h : Stable B w Own Q) (k : Only S w w') (hS : ∀ i, B ≤ i → i < w.heap.size → S i → Own i) (hO : ∀ i, i < w.heap.size → Own' i → Own i) : Stable B w' Own' Q :=
  fun w2 h2 => h w2 fun i hB hi hn => (h2 i hB (Nat.lt_of_lt_of_le hi k.size) (fun e => hn (hO i hi e))).trans (k.block i hi (fun e => hn (hS i hB hi e)))
theorem Stable.lower {B B' : Nat} {w : World} {Own : Nat → Prop} {Q : World → Prop} (h : Stable B w Own Q) (hB : B' ≤ B) : Stable B' w Own Q :=
  fun w2 h2 => h w2 fun i hi hlt hn => h2 i (Nat.le_trans hB hi) hlt hn
theorem Stable.imp {B : Nat} {w : World} {Own : Nat → Prop} {Q Q' : World → Prop} (h : Stable B w Own Q) (k : ∀ w, Q w → Q' w) : Stable B w Own Q' := fun w2 h2 => k _ (h w2 h2)

/-- What readPacket comes to. -/
def PackOut (N B R A : Nat) (l : List UInt8) (i : Nat) (r : Ber.Res) (e : Ending) (w' : World) : Prop :=
  match r with
  | .bad => True
  | .err => ∃ n ev, e = .returned (.tuple #[.pointer none, .int .i64 n, ev]) ∧ ErrAt N B w' ev
  | .ok p rest => ∃ q k : Nat, e = .returned (.tuple #[.pointer (some ⟨q, 0, none⟩), .int .i64 k, .nilIface]) ∧ B ≤ q ∧ Stable B w' (fun _ => False) (fun w2 => Tree w2 q p) ∧ Rd w' R A l (i + k) ∧ rest = l.drop (i + k)

theorem parse_all (w : World) (G c : Nat) (l : List UInt8) (hl : l.length < 1000000000000) (hsrc : ∀ j v, (Lib.byteCells l)[j]? = some v → w.cell? ⟨G, j, none⟩ = some v) :
    Calls Tryz.prog 124 #[.slice (some ⟨G, 0, none⟩) l.length c] w fun e w' => (∃ ev, e = .returned (.tuple #[.int .i64 (parseOf l), ev])) ∧ Below w.heap.size w w' := by
  by_cases h8 : l.length ≤ 8
  · exact (parse_any w G c l h8 hsrc).mono fun e w' ⟨h1, h2⟩ => by subst h2; exact ⟨⟨_, h1⟩, Below.refl _ _⟩
  · have hp : parseOf l = 0 := by unfold parseOf; rw [if_pos (by omega)]
    rw [hp]
    go_enter Tryz.func124, Tryz.ntmps124
    go_wp2_with fail
    refine (new_any _ _).mono ?_
    rintro e w1 ⟨rfl, hw⟩
    have hb : Below w.heap.size w w1 := by rw [← hw]; exact (Below.refl _ w).alloc (Nat.le_refl _) _
    have HB := Lib.hid hb
    clear hb hw
    go_wp2
    go_ret2
    exact ⟨⟨_, rfl⟩, HB.out⟩
end Go.Proofs.YtjmahgefijncaaaGreatFmt

/- readIdentifier. -/
namespace Go.Proofs.YtjmahgefijncaaaGreatFmt
open Go Go.RowKit

/-- No byte is left. -/
theorem ident_end (N : Nat) (w : World) (R A : Nat) (l : List UInt8) (h : Rd w R A l l.length) (hE : Env N w) (hN : N ≤ R) :
    Calls Tryz.prog 134 #[.iface 157 (.pointer (some ⟨R, 0, none⟩))] w fun e w' => ∃ ev n, e = .returned (.tuple #[noTag, .int .i64 n, ev]) ∧ ErrAt N w.heap.size w' ev ∧ Keep w.heap.size R w w' := by
  obtain ⟨a, ha, hae⟩ := hE.eofErr w.heap.size
  go_enter Tryz.func134, Tryz.ntmps134
  go_wp2_with fail
  refine (byte_end _ R A l ((h.alloc _).alloc _) (by have := hE.few; omega) _ a (cell_alloc (cell_alloc ha _) _)).mono ?_
  rintro e w1 ⟨rfl, hb, _⟩
  have hRlt := h.lt
  have hk1 : w1.heap[w.heap.size]? = some (.cells #[.int .u8 0, .int .u8 0, .int .u64 0] 168 (0, 0)) := (hb.block _ (by simp; omega) (by omega)).trans ((Below.heap_alloc _ _ _ (by simp)).trans (heap_alloc_new w _))
  have c0 : w1.cell? ⟨w.heap.size, 0, none⟩ = some (.int .u8 0) := blockCell hk1 0
  have c1 : w1.cell? ⟨w.heap.size, 1, none⟩ = some (.int .u8 0) := blockCell hk1 1
  have c2 : w1.cell? ⟨w.heap.size, 2, none⟩ = some (.int .u64 0) := blockCell hk1 2
  have f0 := blockFrozen hk1 0
  have f1 := blockFrozen hk1 1
  have f2 := blockFrozen hk1 2
  have HK1 := Lib.hid hk1
  clear hk1
  go_wp2
  have K := three_set HK1.out (.int .u8 0) (.int .u8 0) (.int .u64 0)
  have k0 := blockCell K 0
  have k1 := blockCell K 1
  have k2 := blockCell K 2
  have hb2 : Keep w.heap.size R w (((w1.setCell ⟨w.heap.size, 0, none⟩ (.int .u8 0)).setCell ⟨w.heap.size, 1, none⟩ (.int .u8 0)).setCell ⟨w.heap.size, 2, none⟩ (.int .u64 0)) :=
    (((((((Keep.refl _ R w).alloc (Nat.le_refl _) _).alloc (by simp) _).trans (hb.mono (by simp; omega))).setCell (Or.inl (Nat.le_refl _)) _).setCell (Or.inl (Nat.le_refl _)) _).setCell (Or.inl (Nat.le_refl _)) _)
  exact bodyPost_ret (v := .tuple #[noTag, .int .i64 0, .iface 144 (.pointer (some a))]) (by simp [results, Tryz.results134, go_sem, k0, k1, k2, noTag]) rfl ⟨_, _, rfl, hae.keep hb2 hN hRlt, hb2⟩

theorem ident_short (w : World) (R A : Nat) (l : List UInt8) (i : Nat) (h : Rd w R A l i) (hi : i < l.length) (h31 : (l[i]).toNat % 32 ≠ 31) :
    Calls Tryz.prog 134 #[.iface 157 (.pointer (some ⟨R, 0, none⟩))] w fun e w' =>
      e = .returned (.tuple #[tagValue ((l[i]).toNat / 64) (decide ((l[i]).toNat / 32 % 2 = 1)) ((l[i]).toNat % 32), .int .i64 1, .nilIface]) ∧ Keep w.heap.size R w w' ∧ Rd w' R A l (i + 1) := by
  have hR := h.lt
  have hb256 : (l[i]).toNat < 256 := (l[i]).toNat_lt
  have e192 := and192 hb256
  have e32 := and32 hb256
  have e31 := and31 hb256
  have ne31 : ((((l[i]).toNat % 32 : Nat) : Int) != 31) = true := by rw [bne_iff_ne]; omega
  go_enter Tryz.func134, Tryz.ntmps134
  go_wp2_with fail
  refine (byte_one _ R A l i ((h.alloc _).alloc _) hi).mono ?_
  rintro e w1 ⟨rfl, hk, hr⟩
  have hk0 : w1.heap[w.heap.size]? = some (.cells #[.int .u8 0, .int .u8 0, .int .u64 0] 168 (0, 0)) := (hk.block _ (by simp; omega) (by omega)).trans ((Below.heap_alloc _ _ _ (by simp)).trans (heap_alloc_new w _))
  have hk1 : w1.heap[w.heap.size + 1]? = some (.cells #[.int .u8 0, .int .u8 0, .int .u64 0] 168 (0, 0)) := (hk.block _ (by simp) (by omega)).trans (by have := heap_alloc_new (w.alloc (.cells #[.int .u8 0, .int .u8 0, .int .u64 0] 168)) (.cells #[.int .u8 0, .int .u8 0, .int .u64 0] 168); simpa using this)
  have c0 : w1.cell? ⟨w.heap.size, 0, none⟩ = some (.int .u8 0) := blockCell hk0 0
  have c1 : w1.cell? ⟨w.heap.size, 1, none⟩ = some (.int .u8 0) := blockCell hk0 1
  have c2 : w1.cell? ⟨w.heap.size, 2, none⟩ = some (.int .u64 0) := blockCell hk0 2
  have f0 := blockFrozen hk0 0
  have f1 := blockFrozen hk0 1
  have f2 := blockFrozen hk0 2
  have d0 : w1.cell? ⟨w.heap.size + 1, 0, none⟩ = some (.int .u8 0) := blockCell hk1 0
  have d1 : w1.cell? ⟨w.heap.size + 1, 1, none⟩ = some (.int .u8 0) := blockCell hk1 1
  have d2 : w1.cell? ⟨w.heap.size + 1, 2, none⟩ = some (.int .u64 0) := blockCell hk1 2
  have g0 := blockFrozen hk1 0
  have g1 := blockFrozen hk1 1
  have g2 := blockFrozen hk1 2
  have HK0 := Lib.hid hk0
  have HK1 := Lib.hid hk1
  clear hk0 hk1
  go_wp2
  have K1 := three_set HK1.out (.int .u8 (((l[i]).toNat : Int) / 64 * 64)) (.int .u8 (((l[i]).toNat : Int) / 32 % 2 * 32)) (.int .u64 (((l[i]).toNat : Int) % 32))
  have K0 := three_set ((three_other (w := w1) (g := w.heap.size + 1) (k := w.heap.size) (by omega) (.int .u8 (((l[i]).toNat : Int) / 64 * 64)) (.int .u8 (((l[i]).toNat : Int) / 32 % 2 * 32)) (.int .u64 (((l[i]).toNat : Int) % 32))).trans HK0.out)
    (.int .u8 (((l[i]).toNat : Int) / 64 * 64)) (.int .u8 (((l[i]).toNat : Int) / 32 % 2 * 32)) (.int .u64 (((l[i]).toNat : Int) % 32))
  have k0 := blockCell K0 0
  have k1 := blockCell K0 1
  have k2 := blockCell K0 2
  refine bodyPost_ret (v := .tuple #[.agg #[.int .u8 (((l[i]).toNat : Int) / 64 * 64), .int .u8 (((l[i]).toNat : Int) / 32 % 2 * 32), .int .u64 (((l[i]).toNat : Int) % 32)], .int .i64 1, .nilIface])
    (by simp [results, Tryz.results134, go_sem, k0, k1, k2]) rfl ⟨?_, ?_, ?_⟩
  · rw [show (((l[i]).toNat : Int) % 32) = (((l[i]).toNat % 32 : Nat) : Int) by omega, tagValue_eq]
  · refine three_keep (three_keep ?_ (by omega) _ _ _) (Nat.le_refl _) _ _ _
    exact (((Keep.refl _ R w).alloc (Nat.le_refl _) _).alloc (by simp) _).trans (hk.mono (by simp; omega))
  · have hA := h.ltA (by omega)
    exact (hr.three (by omega) (by omega) _ _ _).three (by omega) (by omega) _ _ _
end Go.Proofs.YtjmahgefijncaaaGreatFmt

/- readIdentifier, tags of several bytes. -/
namespace Go.Proofs.YtjmahgefijncaaaGreatFmt
open Go Go.RowKit

/-- What readIdentifier comes to. -/
def IdentOut (N B R A : Nat) (l : List UInt8) (i : Nat) (e : Ending) (w' : World) : Prop :=
  match Ber.ident (l.drop i) with
  | none => ∃ ev n, e = .returned (.tuple #[noTag, .int .i64 n, ev]) ∧ ErrAt N B w' ev
  | some (c, b, t, rest) => ∃ k : Nat, e = .returned (.tuple #[tagValue c b t, .int .i64 k, .nilIface]) ∧ Rd w' R A l (i + k) ∧ rest = l.drop (i + k)

/-- The round's head. -/
def HighInv (B R A : Nat) (l : List UInt8) (i : Nat) (w : World) (cv dv : Value) (t6 t10 : Value) (wr : World) : Prop :=
  ∃ k acc : Nat, k ≤ 9 ∧ acc < 2 ^ (7 * k) ∧ t10 = .int .i64 k ∧ t6 = .int .i64 ((k + 1 : Nat) : Int) ∧ Rd wr R A l (i + 1 + k) ∧ Keep B R w wr ∧ B + 2 ≤ wr.heap.size ∧
    wr.heap[B]? = some (.cells #[.int .u8 0, .int .u8 0, .int .u64 0] 168 (0, 0)) ∧
    wr.heap[B + 1]? = some (.cells #[cv, dv, .int .u64 acc] 168 (0, 0)) ∧
    Ber.high (l.drop (i + 1)) 0 0 = Ber.high (l.drop (i + 1 + k)) acc k

theorem ident_drop {l : List UInt8} {i : Nat} (hi : i < l.length) (h31 : (l[i]).toNat % 32 = 31) :
    Ber.ident (l.drop i) = (Ber.high (l.drop (i + 1)) 0 0).map fun r => ((l[i]).toNat / 64, decide ((l[i]).toNat / 32 % 2 = 1), r.1, r.2) := by
  rw [List.drop_eq_getElem_cons hi]; simp [Ber.ident, h31]
theorem high_end {l : List UInt8} {n acc k : Nat} (h : l.length ≤ n) : Ber.high (l.drop n) acc k = none := by
  rw [List.drop_of_length_le h]; rfl
theorem high_step {l : List UInt8} {n acc k : Nat} (h : n < l.length) : Ber.high (l.drop n) acc k =
    if k = 0 ∧ (l[n]).toNat % 128 = 0 then none else if 9 ≤ k then none else if (l[n]).toNat < 128 then some (acc * 128 + (l[n]).toNat % 128, l.drop (n + 1)) else Ber.high (l.drop (n + 1)) (acc * 128 + (l[n]).toNat % 128) (k + 1) := by
  rw [List.drop_eq_getElem_cons h]; rfl

theorem or_step {acc v k : Nat} (hacc : acc < 2 ^ (7 * k)) (hk : k ≤ 8) : bits .or .u64 (IntKind.u64.wrap ((acc : Int) * 128)) ((v : Int) % 128) = (acc : Int) * 128 + (v : Int) % 128 := by
  have h56 : acc < 2 ^ 56 := Nat.lt_of_lt_of_le hacc (Nat.pow_le_pow_right (by decide) (by omega))
  have hw : IntKind.u64.wrap ((acc : Int) * 128) = ((acc * 128 : Nat) : Int) := by rw [wraps_u64 _ (by omega) (by omega)]; omega
  have hm : ((v : Int) % 128) = ((v % 128 : Nat) : Int) := by omega
  rw [hw, hm, or_low (by omega) (by omega) (by omega)]; omega
theorem acc_stepB {acc v k : Nat} (hacc : acc < 2 ^ (7 * k)) : acc * 128 + v % 128 < 2 ^ (7 * (k + 1)) := by
  have : 2 ^ (7 * (k + 1)) = 2 ^ (7 * k) * 128 := by rw [Nat.mul_add, Nat.pow_add]
  omega

/-- A way out with an error. -/
theorem ident_fail (N R A : Nat) (l : List UInt8) (i : Nat) (w wx : World) (ev : Value) (n : Int) (hk : Keep w.heap.size R w wx) (he : ErrAt N (w.heap.size + 2) wx ev) (hN : N ≤ w.heap.size)
    (hnone : Ber.ident (l.drop i) = none) :
    IdentOut N w.heap.size R A l i (.returned (.tuple #[noTag, .int .i64 n, ev])) (((wx.setCell ⟨w.heap.size, 0, none⟩ (.int .u8 0)).setCell ⟨w.heap.size, 1, none⟩ (.int .u8 0)).setCell ⟨w.heap.size, 2, none⟩ (.int .u64 0)) ∧
      Keep w.heap.size R w (((wx.setCell ⟨w.heap.size, 0, none⟩ (.int .u8 0)).setCell ⟨w.heap.size, 1, none⟩ (.int .u8 0)).setCell ⟨w.heap.size, 2, none⟩ (.int .u64 0)) := by
  refine ⟨?_, three_keep hk (Nat.le_refl _) _ _ _⟩
  unfold IdentOut
  rw [hnone]
  exact ⟨ev, n, rfl, (((he.setCell (by simpa using hN) (by simp) _).setCell (by simpa using hN) (by simp) _).setCell (by simpa using hN) (by simp) _).mono (by omega)⟩

/-- The way out with a tag. -/
theorem ident_done (N B R A : Nat) (l : List UInt8) (i : Nat) (wx : World) (x t k : Nat) (n : Int) (hn : n = ((k + 2 : Nat) : Int)) (tt : Int) (ht : tt = (t : Int)) (hr : Rd wx R A l (i + (k + 2)))
    (h : Ber.ident (l.drop i) = some (x / 64, decide (x / 32 % 2 = 1), t, l.drop (i + 1 + k + 1))) :
    IdentOut N B R A l i (.returned (.tuple #[.agg #[.int .u8 ((x : Int) / 64 * 64), .int .u8 ((x : Int) / 32 % 2 * 32), .int .u64 tt], .int .i64 n, .nilIface])) wx := by
  unfold IdentOut
  rw [h, hn, ht]
  exact ⟨k + 2, by rw [tagValue_eq], hr, by rw [show i + 1 + k + 1 = i + (k + 2) by omega]⟩

set_option maxHeartbeats 4000000 in
theorem ident_high (N : Nat) (w : World) (R A : Nat) (l : List UInt8) (i : Nat) (h : Rd w R A l i) (hi : i < l.length) (h31 : (l[i]).toNat % 32 = 31) (hE : Env N w) (hN : N ≤ R) :
    Calls Tryz.prog 134 #[.iface 157 (.pointer (some ⟨R, 0, none⟩))] w fun e w' => IdentOut N w.heap.size R A l i e w' ∧ Keep w.heap.size R w w' := by
  have hR := h.lt
  have hlen := h.len
  have hA := h.ltA (by omega)
  have hb256 : (l[i]).toNat < 256 := (l[i]).toNat_lt
  have e192 := and192 hb256
  have e32 := and32 hb256
  have e31 := and31 hb256
  have ne31 : ((((l[i]).toNat % 32 : Nat) : Int) != 31) = false := by rw [bne_eq_false_iff_eq]; omega
  go_enter Tryz.func134, Tryz.ntmps134
  go_wp2_with fail
  refine (byte_one _ R A l i ((h.alloc _).alloc _) hi).mono ?_
  rintro e w1 ⟨rfl, hk, hr⟩
  have hk0 : w1.heap[w.heap.size]? = some (.cells #[.int .u8 0, .int .u8 0, .int .u64 0] 168 (0, 0)) := (hk.block _ (by simp; omega) (by omega)).trans ((Below.heap_alloc _ _ _ (by simp)).trans (heap_alloc_new w _))
  have hk1 : w1.heap[w.heap.size + 1]? = some (.cells #[.int .u8 0, .int .u8 0, .int .u64 0] 168 (0, 0)) := (hk.block _ (by simp) (by omega)).trans (by have := heap_alloc_new (w.alloc (.cells #[.int .u8 0, .int .u8 0, .int .u64 0] 168)) (.cells #[.int .u8 0, .int .u8 0, .int .u64 0] 168); simpa using this)
  have hkk : Keep w.heap.size R w w1 := (((Keep.refl _ R w).alloc (Nat.le_refl _) _).alloc (by simp) _).trans (hk.mono (by simp; omega))
  have hsz : w.heap.size + 2 ≤ w1.heap.size := by have := hk.size; simp at this; omega
  have d0 : w1.cell? ⟨w.heap.size + 1, 0, none⟩ = some (.int .u8 0) := blockCell hk1 0
  have d1 : w1.cell? ⟨w.heap.size + 1, 1, none⟩ = some (.int .u8 0) := blockCell hk1 1
  have g0 := blockFrozen hk1 0
  have g1 := blockFrozen hk1 1
  have HK0 := Lib.hid hk0
  have HK1 := Lib.hid hk1
  clear hk0 hk1 hk
  go_wp2
  go_loopw [6, 10] (fun t6 t10 wr => HighInv w.heap.size R A l i w (.int .u8 (((l[i]).toNat : Int) / 64 * 64)) (.int .u8 (((l[i]).toNat : Int) / 32 % 2 * 32)) t6 t10 wr) (fun t6 _ _ => l.length + 10 - (intOf t6).toNat)
  case atStart =>
    refine ⟨0, 0, by omega, by decide, rfl, rfl, ?_, ?_, ?_, ?_, ?_, rfl⟩
    · exact hr.stays (by rw [Below.heap_setCell _ _ _ _ (by simp; omega), Below.heap_setCell _ _ _ _ (by simp; omega)]) (by rw [Below.heap_setCell _ _ _ _ (by simp; omega), Below.heap_setCell _ _ _ _ (by simp; omega)])
    · exact (hkk.setCell (Or.inl (by simp)) _).setCell (Or.inl (by simp)) _
    · simpa [World.setCell] using hsz
    · rw [Below.heap_setCell _ _ _ _ (by simp), Below.heap_setCell _ _ _ _ (by simp)]; exact HK0.out
    · have := blockSet (blockSet HK1.out 0 (.int .u8 (((l[i]).toNat : Int) / 64 * 64))) 1 (.int .u8 (((l[i]).toNat : Int) / 32 % 2 * 32))
      simpa using this
  case round =>
    obtain ⟨k, acc, hk9, hacc, rfl, rfl, hrr, hkp, hsz2, hb0, hb1, hhigh⟩ := hrel
    have hE' := Lib.hid (hE.keep hkp (by omega) hN)
    obtain ⟨a, ha, hae⟩ := hE'.out.eofErr (w.heap.size + 2)
    have HB0 := Lib.hid hb0
    have HB1 := Lib.hid hb1
    have HH := Lib.hid hhigh
    clear hb0 hb1 hhigh
    by_cases hend : i + 1 + k = l.length
    · have hr' : Rd wr R A l l.length := hend ▸ hrr
      clear hrr
      go_wp2_with fail
      refine (byte_end _ R A l hr' (by have := hE.few; omega) _ a ha).mono ?_
      rintro e w2 ⟨rfl, hb, _⟩
      have hae2 := hae.keep hb hN (by omega)
      have hb2 : w2.heap[w.heap.size]? = some (.cells #[.int .u8 0, .int .u8 0, .int .u64 0] 168 (0, 0)) := (hb.block _ (by omega) (by omega)).trans HB0.out
      have hE2 := Lib.hid (hE'.out.keep hb (by omega) hN)
      have c0 : w2.cell? ⟨w.heap.size, 0, none⟩ = some (.int .u8 0) := blockCell hb2 0
      have c1 : w2.cell? ⟨w.heap.size, 1, none⟩ = some (.int .u8 0) := blockCell hb2 1
      have c2 : w2.cell? ⟨w.heap.size, 2, none⟩ = some (.int .u64 0) := blockCell hb2 2
      have f0 := blockFrozen hb2 0
      have f1 := blockFrozen hb2 1
      have f2 := blockFrozen hb2 2
      have HB2 := Lib.hid hb2
      clear hb2
      go_wp2_with fail
      refine (uneof_any N (w.heap.size + 2) w2 hE2.out _ hae2).mono ?_
      rintro e w3 ⟨ev, rfl, hev, rfl⟩
      go_wp2
      have K := three_set HB2.out (.int .u8 0) (.int .u8 0) (.int .u64 0)
      have k0 := blockCell K 0
      have k1 := blockCell K 1
      have k2 := blockCell K 2
      refine bodyPost_ret (v := .tuple #[noTag, .int .i64 ((k : Int) + 1), ev]) (by simp [results, Tryz.results134, go_sem, k0, k1, k2, noTag]) rfl ?_
      exact ident_fail N R A l i w w2 ev _ (hkp.trans (hb.mono (by omega))) hev (by omega) (by rw [ident_drop hi h31, HH.out, high_end (by omega)]; rfl)
    · have hlt : i + 1 + k < l.length := by have := hrr.pos; omega
      have hv256 : (l[i + 1 + k]).toNat < 256 := (l[i + 1 + k]).toNat_lt
      have v127 := and127 hv256
      have v128 := and128 hv256
      have hc0 : wr.cell? ⟨w.heap.size, 0, none⟩ = some (.int .u8 0) := blockCell HB0.out 0
      go_wp2_with fail
      refine (byte_one _ R A l _ hrr hlt).mono ?_
      rintro e w2 ⟨rfl, hk2, hr2⟩
      have hb20 : w2.heap[w.heap.size]? = some (.cells #[.int .u8 0, .int .u8 0, .int .u64 0] 168 (0, 0)) := (hk2.block _ (by omega) (by omega)).trans HB0.out
      have hb21 := (hk2.block _ (by omega) (by omega)).trans HB1.out
      have c0 : w2.cell? ⟨w.heap.size, 0, none⟩ = some (.int .u8 0) := blockCell hb20 0
      have c1 : w2.cell? ⟨w.heap.size, 1, none⟩ = some (.int .u8 0) := blockCell hb20 1
      have c2 : w2.cell? ⟨w.heap.size, 2, none⟩ = some (.int .u64 0) := blockCell hb20 2
      have f0 := blockFrozen hb20 0
      have f1 := blockFrozen hb20 1
      have f2 := blockFrozen hb20 2
      have d2 : w2.cell? ⟨w.heap.size + 1, 2, none⟩ = some (.int .u64 acc) := blockCell hb21 2
      have g2 := blockFrozen hb21 2
      have HB20 := Lib.hid hb20
      have HB21 := Lib.hid hb21
      clear hb20 hb21
      have d0 : w2.cell? ⟨w.heap.size + 1, 0, none⟩ = some (.int .u8 (((l[i]).toNat : Int) / 64 * 64)) := blockCell HB21.out 0
      have d1 : w2.cell? ⟨w.heap.size + 1, 1, none⟩ = some (.int .u8 (((l[i]).toNat : Int) / 32 % 2 * 32)) := blockCell HB21.out 1
      have hsz3 := hk2.size
      have hkk2 : Keep w.heap.size R w w2 := hkp.trans (hk2.mono (by omega))
      have hstep := high_step (acc := acc) (k := k) hlt
      have HS := Lib.hid hstep
      clear hstep
      by_cases h9 : k = 9
      · have h9' : 9 ≤ k := by omega
        clear h9
        go_wp2_with fail
        refine (new_err _ (by decide) (by decide) N _).mono ?_
        rintro e w3 ⟨ev, rfl, hev, hb3⟩
        have hb30 : w3.heap[w.heap.size]? = some (.cells #[.int .u8 0, .int .u8 0, .int .u64 0] 168 (0, 0)) := (hb3.block _ (by simp [World.setCell]; omega)).trans (by rw [Below.heap_setCell _ _ _ _ (by simp), Below.heap_setCell _ _ _ _ (by simp)]; exact HB20.out)
        have hkk3 : Keep w.heap.size R w w3 := ((hkk2.setCell (Or.inl (by simp)) _).setCell (Or.inl (by simp)) _).trans (Keep.ofBelow (hb3.mono (by simp [World.setCell]; omega)))
        have e0 : w3.cell? ⟨w.heap.size, 0, none⟩ = some (.int .u8 0) := blockCell hb30 0
        have e1 : w3.cell? ⟨w.heap.size, 1, none⟩ = some (.int .u8 0) := blockCell hb30 1
        have e2 : w3.cell? ⟨w.heap.size, 2, none⟩ = some (.int .u64 0) := blockCell hb30 2
        have p0 := blockFrozen hb30 0
        have p1 := blockFrozen hb30 1
        have p2 := blockFrozen hb30 2
        have HB30 := Lib.hid hb30
        clear hb30
        go_wp2
        have K := three_set HB30.out (.int .u8 0) (.int .u8 0) (.int .u64 0)
        have k0 := blockCell K 0
        have k1 := blockCell K 1
        have k2 := blockCell K 2
        refine bodyPost_ret (v := .tuple #[noTag, .int .i64 ((k : Int) + 1 + 1), ev]) (by simp [results, Tryz.results134, go_sem, k0, k1, k2, noTag]) rfl ?_
        exact ident_fail N R A l i w w3 ev _ hkk3 (hev.mono (by simp [World.setCell]; omega)) (by omega) (by rw [ident_drop hi h31, HH.out, HS.out]; simp [h9'])
      · have hk8 : k ≤ 8 := by omega
        clear h9
        have hO := or_step (v := (l[i + 1 + k]).toNat) hacc hk8
        have hacc1 := acc_stepB (v := (l[i + 1 + k]).toNat) hacc
        have HA1 := Lib.hid hacc1
        have HA0 := Lib.hid hacc
        clear hacc hacc1
        by_cases h0 : k = 0 ∧ (l[i + 1 + k]).toNat % 128 = 0
        · have hacc0 : acc = 0 := by have := HA0.out; rw [h0.1] at this; omega
          have hT : ((acc : Int) * 128 + ((l[i + 1 + k]).toNat : Int) % 128 == 0) = true := by rw [beq_iff_eq]; omega
          have hk0 : k ≤ 0 := by omega
          have H0 := Lib.hid h0
          clear h0 hacc0
          go_wp2_with fail
          refine (new_err _ (by decide) (by decide) N _).mono ?_
          rintro e w3 ⟨ev, rfl, hev, hb3⟩
          have hb30 : w3.heap[w.heap.size]? = some (.cells #[.int .u8 0, .int .u8 0, .int .u64 0] 168 (0, 0)) := (hb3.block _ (by simp [World.setCell]; omega)).trans (by rw [Below.heap_setCell _ _ _ _ (by simp), Below.heap_setCell _ _ _ _ (by simp)]; exact HB20.out)
          have hkk3 : Keep w.heap.size R w w3 := ((hkk2.setCell (Or.inl (by simp)) _).setCell (Or.inl (by simp)) _).trans (Keep.ofBelow (hb3.mono (by simp [World.setCell]; omega)))
          have e0 : w3.cell? ⟨w.heap.size, 0, none⟩ = some (.int .u8 0) := blockCell hb30 0
          have e1 : w3.cell? ⟨w.heap.size, 1, none⟩ = some (.int .u8 0) := blockCell hb30 1
          have e2 : w3.cell? ⟨w.heap.size, 2, none⟩ = some (.int .u64 0) := blockCell hb30 2
          have p0 := blockFrozen hb30 0
          have p1 := blockFrozen hb30 1
          have p2 := blockFrozen hb30 2
          have HB30 := Lib.hid hb30
          clear hb30
          go_wp2
          have K := three_set HB30.out (.int .u8 0) (.int .u8 0) (.int .u64 0)
          have k0 := blockCell K 0
          have k1 := blockCell K 1
          have k2 := blockCell K 2
          refine bodyPost_ret (v := .tuple #[noTag, .int .i64 2, ev]) (by simp [results, Tryz.results134, go_sem, k0, k1, k2, noTag]) rfl ?_
          exact ident_fail N R A l i w w3 ev _ hkk3 (hev.mono (by simp [World.setCell]; omega)) (by omega) (by rw [ident_drop hi h31, HH.out, HS.out, if_pos H0.out]; rfl)
        · have hT : k ≤ 0 → ((acc : Int) * 128 + ((l[i + 1 + k]).toNat : Int) % 128 == 0) = false := fun hk0 => by rw [beq_eq_false_iff_ne]; omega
          have K21 : ∀ x y : Value, ((w2.setCell ⟨w.heap.size + 1, 2, none⟩ x).setCell ⟨w.heap.size + 1, 2, none⟩ y).heap[w.heap.size + 1]? = some (.cells #[.int .u8 (((l[i]).toNat : Int) / 64 * 64), .int .u8 (((l[i]).toNat : Int) / 32 % 2 * 32), y] 168 (0, 0)) := fun x y => by
            have := blockSet (blockSet HB21.out 2 x) 2 y
            simpa using this
          have K20 : ∀ x y : Value, ((w2.setCell ⟨w.heap.size + 1, 2, none⟩ x).setCell ⟨w.heap.size + 1, 2, none⟩ y).heap[w.heap.size]? = some (.cells #[.int .u8 0, .int .u8 0, .int .u64 0] 168 (0, 0)) := fun x y => by
            rw [Below.heap_setCell _ _ _ _ (by simp), Below.heap_setCell _ _ _ _ (by simp)]; exact HB20.out
          have H21 := Lib.hid K21
          have H20 := Lib.hid K20
          clear K21 K20
          by_cases h128 : (l[i + 1 + k]).toNat < 128
          · have t128 : (((l[i + 1 + k]).toNat : Int) / 128 * 128 == 0) = true := by rw [beq_iff_eq]; omega
            have HN0 := Lib.hid h0
            clear h0
            by_cases hk0 : k ≤ 0
            all_goals
              go_wp2_with fail
              have K := three_set (H20.out (.int .u64 (IntKind.u64.wrap ((acc : Int) * 128))) (.int .u64 ((acc : Int) * 128 + ((l[i + 1 + k]).toNat : Int) % 128))) (.int .u8 (((l[i]).toNat : Int) / 64 * 64)) (.int .u8 (((l[i]).toNat : Int) / 32 % 2 * 32)) (.int .u64 ((acc : Int) * 128 + ((l[i + 1 + k]).toNat : Int) % 128))
              have k0 := blockCell K 0
              have k1 := blockCell K 1
              have k2 := blockCell K 2
              have hid : Ber.ident (l.drop i) = some ((l[i]).toNat / 64, decide ((l[i]).toNat / 32 % 2 = 1), acc * 128 + (l[i + 1 + k]).toNat % 128, l.drop (i + 1 + k + 1)) := by
                rw [ident_drop hi h31, HH.out, HS.out, if_neg HN0.out, if_neg (by omega), if_pos h128]; rfl
              have hr3 : Rd w2 R A l (i + (k + 2)) := by rw [show i + (k + 2) = i + 1 + k + 1 by omega]; exact hr2
              have hr4 := ((hr3.stays (w' := (w2.setCell ⟨w.heap.size + 1, 2, none⟩ (.int .u64 (IntKind.u64.wrap ((acc : Int) * 128)))).setCell ⟨w.heap.size + 1, 2, none⟩ (.int .u64 ((acc : Int) * 128 + ((l[i + 1 + k]).toNat : Int) % 128)))
                (by rw [Below.heap_setCell _ _ _ _ (by simp; omega), Below.heap_setCell _ _ _ _ (by simp; omega)]) (by rw [Below.heap_setCell _ _ _ _ (by simp; omega), Below.heap_setCell _ _ _ _ (by simp; omega)])).three (g := w.heap.size) (by omega) (by omega) (.int .u8 (((l[i]).toNat : Int) / 64 * 64)) (.int .u8 (((l[i]).toNat : Int) / 32 % 2 * 32)) (.int .u64 ((acc : Int) * 128 + ((l[i + 1 + k]).toNat : Int) % 128)))
              have hkk4 := three_keep ((hkk2.setCell (p := ⟨w.heap.size + 1, 2, none⟩) (Or.inl (by simp)) (.int .u64 (IntKind.u64.wrap ((acc : Int) * 128)))).setCell (p := ⟨w.heap.size + 1, 2, none⟩) (Or.inl (by simp)) (.int .u64 ((acc : Int) * 128 + ((l[i + 1 + k]).toNat : Int) % 128))) (Nat.le_refl _) (.int .u8 (((l[i]).toNat : Int) / 64 * 64)) (.int .u8 (((l[i]).toNat : Int) / 32 % 2 * 32)) (.int .u64 ((acc : Int) * 128 + ((l[i + 1 + k]).toNat : Int) % 128))
              first
                | (refine bodyPost_ret (v := .tuple #[.agg #[.int .u8 (((l[i]).toNat : Int) / 64 * 64), .int .u8 (((l[i]).toNat : Int) / 32 % 2 * 32), .int .u64 ((acc : Int) * 128 + ((l[i + 1 + k]).toNat : Int) % 128)], .int .i64 2, .nilIface]) (by simp [results, Tryz.results134, go_sem, k0, k1, k2]) rfl ?_
                   exact ⟨ident_done N _ R A l i _ _ _ k 2 (by omega) _ (by omega) hr4 hid, hkk4⟩)
                | (refine bodyPost_ret (v := .tuple #[.agg #[.int .u8 (((l[i]).toNat : Int) / 64 * 64), .int .u8 (((l[i]).toNat : Int) / 32 % 2 * 32), .int .u64 ((acc : Int) * 128 + ((l[i + 1 + k]).toNat : Int) % 128)], .int .i64 ((k : Int) + 1 + 1), .nilIface]) (by simp [results, Tryz.results134, go_sem, k0, k1, k2]) rfl ?_
                   exact ⟨ident_done N _ R A l i _ _ _ k _ (by omega) _ (by omega) hr4 hid, hkk4⟩)
          · have t128 : (((l[i + 1 + k]).toNat : Int) / 128 * 128 == 0) = false := by rw [beq_eq_false_iff_ne]; omega
            have HN0 := Lib.hid h0
            clear h0
            have hr4 := (hr2.stays (w' := (w2.setCell ⟨w.heap.size + 1, 2, none⟩ (.int .u64 (IntKind.u64.wrap ((acc : Int) * 128)))).setCell ⟨w.heap.size + 1, 2, none⟩ (.int .u64 ((acc : Int) * 128 + ((l[i + 1 + k]).toNat : Int) % 128)))
                (by rw [Below.heap_setCell _ _ _ _ (by simp; omega), Below.heap_setCell _ _ _ _ (by simp; omega)]) (by rw [Below.heap_setCell _ _ _ _ (by simp; omega), Below.heap_setCell _ _ _ _ (by simp; omega)]))
            have hkk4 := ((hkk2.setCell (p := ⟨w.heap.size + 1, 2, none⟩) (Or.inl (by simp)) (.int .u64 (IntKind.u64.wrap ((acc : Int) * 128)))).setCell (p := ⟨w.heap.size + 1, 2, none⟩) (Or.inl (by simp)) (.int .u64 ((acc : Int) * 128 + ((l[i + 1 + k]).toNat : Int) % 128)))
            have hnext : Ber.high (l.drop (i + 1)) 0 0 = Ber.high (l.drop (i + 1 + k + 1)) (acc * 128 + (l[i + 1 + k]).toNat % 128) (k + 1) := by rw [HH.out, HS.out, if_neg HN0.out, if_neg (by omega), if_neg h128]
            have HNX := Lib.hid hnext
            have HR4 := Lib.hid hr4
            have HK4 := Lib.hid hkk4
            clear hnext hr4 hkk4
            by_cases hk0 : k ≤ 0
            all_goals
              go_wp2_with fail
              go_roundw
              case rel => exact ⟨k + 1, acc * 128 + (l[i + 1 + k]).toNat % 128, by omega, HA1.out, by first | rfl | go_num, by first | rfl | go_num, HR4.out, HK4.out, by simp [World.setCell]; omega, H20.out _ _, by simpa using H21.out _ _, HNX.out⟩
              case measure => simp [intOf]; omega
end Go.Proofs.YtjmahgefijncaaaGreatFmt

/- readIdentifier, every input. -/
namespace Go.Proofs.YtjmahgefijncaaaGreatFmt
open Go Go.RowKit

theorem ident_any (N : Nat) (w : World) (R A : Nat) (l : List UInt8) (i : Nat) (h : Rd w R A l i) (hE : Env N w) (hN : N ≤ R) :
    Calls Tryz.prog 134 #[.iface 157 (.pointer (some ⟨R, 0, none⟩))] w fun e w' => IdentOut N w.heap.size R A l i e w' ∧ Keep w.heap.size R w w' := by
  have hp := h.pos
  by_cases hi : i < l.length
  · by_cases h31 : (l[i]).toNat % 32 = 31
    · exact ident_high N w R A l i h hi h31 hE hN
    · refine (ident_short w R A l i h hi h31).mono fun e w' ⟨he, hk, hr⟩ => ⟨?_, hk⟩
      unfold IdentOut
      have : Ber.ident (l.drop i) = some ((l[i]).toNat / 64, decide ((l[i]).toNat / 32 % 2 = 1), (l[i]).toNat % 32, l.drop (i + 1)) := by
        rw [List.drop_eq_getElem_cons hi]; simp [Ber.ident, h31]
      rw [this]
      exact ⟨1, by rw [he]; rfl, hr, rfl⟩
  · obtain rfl : i = l.length := by omega
    refine (ident_end N w R A l h hE hN).mono fun e w' ⟨ev, n, he, hev, hb⟩ => ⟨?_, hb⟩
    unfold IdentOut
    rw [show l.drop l.length = [] by simp]
    exact ⟨ev, n, he, hev⟩
end Go.Proofs.YtjmahgefijncaaaGreatFmt

/- readHeader, every input. -/
namespace Go.Proofs.YtjmahgefijncaaaGreatFmt
open Go Go.RowKit

def three_ (w : World) (g : Nat) (a b c : Value) : World := ((w.setCell ⟨g, 0, none⟩ a).setCell ⟨g, 1, none⟩ b).setCell ⟨g, 2, none⟩ c

/-- What readHeader comes to. -/
def HeadOut (N B R A : Nat) (l : List UInt8) (i : Nat) (e : Ending) (w' : World) : Prop :=
  match Ber.header (l.drop i) with
  | none => ∃ a b ev, e = .returned (.tuple #[noTag, .int .i64 a, .int .i64 b, ev]) ∧ ErrAt N B w' ev
  | some (c, b, t, len, rest) => ∃ k : Nat, e = .returned (.tuple #[tagValue c b t, .int .i64 (lenInt len), .int .i64 k, .nilIface]) ∧ Rd w' R A l (i + k) ∧ rest = l.drop (i + k)

theorem head_fail (N R A : Nat) (l : List UInt8) (i : Nat) (w wx : World) (ev : Value) (n m : Int) (hk : Keep w.heap.size R w wx) (he : ErrAt N (w.heap.size + 2) wx ev) (hN : N ≤ w.heap.size)
    (hnone : Ber.header (l.drop i) = none) :
    HeadOut N w.heap.size R A l i (.returned (.tuple #[noTag, .int .i64 n, .int .i64 m, ev])) (((wx.setCell ⟨w.heap.size, 0, none⟩ (.int .u8 0)).setCell ⟨w.heap.size, 1, none⟩ (.int .u8 0)).setCell ⟨w.heap.size, 2, none⟩ (.int .u64 0)) ∧
      Keep w.heap.size R w (((wx.setCell ⟨w.heap.size, 0, none⟩ (.int .u8 0)).setCell ⟨w.heap.size, 1, none⟩ (.int .u8 0)).setCell ⟨w.heap.size, 2, none⟩ (.int .u64 0)) := by
  refine ⟨?_, three_keep hk (Nat.le_refl _) _ _ _⟩
  unfold HeadOut
  rw [hnone]
  exact ⟨n, m, ev, rfl, (((he.setCell (by simpa using hN) (by simp) _).setCell (by simpa using hN) (by simp) _).setCell (by simpa using hN) (by simp) _).mono (by omega)⟩

theorem tagValue_open (c : Nat) (b : Bool) (t : Nat) : ∃ x y z : Int, tagValue c b t = .agg #[.int .u8 x, .int .u8 y, .int .u64 z] ∧ (b = true → (y == 0) = false) ∧ (b = false → (y == 0) = true) :=
  ⟨_, _, _, rfl, fun h => by subst h; rfl, fun h => by subst h; rfl⟩

set_option maxHeartbeats 1000000 in
theorem head_any (N : Nat) (w : World) (R A : Nat) (l : List UInt8) (i : Nat) (h : Rd w R A l i) (hE : Env N w) (hN : N ≤ R) :
    Calls Tryz.prog 117 #[.iface 157 (.pointer (some ⟨R, 0, none⟩))] w fun e w' => HeadOut N w.heap.size R A l i e w' ∧ Keep w.heap.size R w w' := by
  have hR := h.lt
  have hlen := h.len
  go_enter Tryz.func117, Tryz.ntmps117
  go_wp2_with fail
  have hE0 := (hE.stays (w' := (w.alloc (.cells #[.int .u8 0, .int .u8 0, .int .u64 0] 168)).alloc (.cells #[.int .u8 0, .int .u8 0, .int .u64 0] 168)) (fun b hb => by rw [Below.heap_alloc _ _ _ (by simp; omega), Below.heap_alloc _ _ _ (by omega)]))
  refine (ident_any N _ R A l i ((h.alloc _).alloc _) hE0 hN).mono ?_
  rintro e w1 ⟨ho, hk⟩
  have hk0 : w1.heap[w.heap.size]? = some (.cells #[.int .u8 0, .int .u8 0, .int .u64 0] 168 (0, 0)) := (hk.block _ (by simp; omega) (by omega)).trans ((Below.heap_alloc _ _ _ (by simp)).trans (heap_alloc_new w _))
  have hk1 : w1.heap[w.heap.size + 1]? = some (.cells #[.int .u8 0, .int .u8 0, .int .u64 0] 168 (0, 0)) := (hk.block _ (by simp) (by omega)).trans (by have := heap_alloc_new (w.alloc (.cells #[.int .u8 0, .int .u8 0, .int .u64 0] 168)) (.cells #[.int .u8 0, .int .u8 0, .int .u64 0] 168); simpa using this)
  have hkk : Keep w.heap.size R w w1 := (((Keep.refl _ R w).alloc (Nat.le_refl _) _).alloc (by simp) _).trans (hk.mono (by simp; omega))
  have hsz : w.heap.size + 2 ≤ w1.heap.size := by have := hk.size; simp at this; omega
  have HE1 := Lib.hid (hE0.keep hk (by simp; omega) hN)
  clear hE0 hk
  have c0 : w1.cell? ⟨w.heap.size, 0, none⟩ = some (.int .u8 0) := blockCell hk0 0
  have c1 : w1.cell? ⟨w.heap.size, 1, none⟩ = some (.int .u8 0) := blockCell hk0 1
  have c2 : w1.cell? ⟨w.heap.size, 2, none⟩ = some (.int .u64 0) := blockCell hk0 2
  have f0 := blockFrozen hk0 0
  have f1 := blockFrozen hk0 1
  have f2 := blockFrozen hk0 2
  have d0 : w1.cell? ⟨w.heap.size + 1, 0, none⟩ = some (.int .u8 0) := blockCell hk1 0
  have d1 : w1.cell? ⟨w.heap.size + 1, 1, none⟩ = some (.int .u8 0) := blockCell hk1 1
  have d2 : w1.cell? ⟨w.heap.size + 1, 2, none⟩ = some (.int .u64 0) := blockCell hk1 2
  have g0 := blockFrozen hk1 0
  have g1 := blockFrozen hk1 1
  have g2 := blockFrozen hk1 2
  have HK0 := Lib.hid hk0
  have HK1 := Lib.hid hk1
  clear hk0 hk1
  unfold IdentOut at ho
  cases hid : Ber.ident (l.drop i) with
  | none =>
    rw [hid] at ho
    obtain ⟨ev, n, rfl, hev⟩ := ho
    obtain ⟨a, rfl⟩ := hev.iface
    have HID := Lib.hid hid
    clear hid
    unfold noTag
    go_wp2
    have K0 := three_set ((three_other (w := w1) (g := w.heap.size + 1) (k := w.heap.size) (by omega) (.int .u8 0) (.int .u8 0) (.int .u64 0)).trans HK0.out) (.int .u8 0) (.int .u8 0) (.int .u64 0)
    have k0 := blockCell K0 0
    have k1 := blockCell K0 1
    have k2 := blockCell K0 2
    refine bodyPost_ret (v := .tuple #[noTag, .int .i64 0, .int .i64 0, .iface 144 (.pointer (some a))]) (by simp [results, Tryz.results117, go_sem, k0, k1, k2, noTag]) rfl ?_
    refine head_fail N R A l i w (((w1.setCell ⟨w.heap.size + 1, 0, none⟩ (.int .u8 0)).setCell ⟨w.heap.size + 1, 1, none⟩ (.int .u8 0)).setCell ⟨w.heap.size + 1, 2, none⟩ (.int .u64 0)) _ _ _ (three_keep hkk (by omega) _ _ _) ?_ (by omega) (by simp only [Ber.header]; rw [HID.out])
    have h2 : ErrAt N (w.heap.size + 2) w1 (.iface 144 (.pointer (some a))) := hev.mono (by simp)
    exact ((h2.setCell (by simp; omega) (by simp) _).setCell (by simp; omega) (by simp) _).setCell (by simp; omega) (by simp) _
  | some r =>
    obtain ⟨c, b, t, rest⟩ := r
    rw [hid] at ho
    obtain ⟨k, rfl, hr, hrest⟩ := ho
    obtain ⟨x, y, z, htv, hy1, hy0⟩ := tagValue_open c b t
    rw [htv]
    have HTV := Lib.hid htv
    have HID := Lib.hid hid
    have HREST := Lib.hid hrest
    have hkp := hr.pos
    have hA : l ≠ [] → A < w.heap.size := fun hl => h.ltA (by cases l with | nil => exact absurd rfl hl | cons a t => simp)
    clear htv hid hrest
    go_wp2_with fail
    have hne : l ≠ [] := by
      rintro rfl
      have := HID.out
      simp [Ber.ident] at this
    have hA' := hA hne
    have hK1 := (three_other (w := three_ w1 (w.heap.size + 1) (.int .u8 x) (.int .u8 y) (.int .u64 z)) (g := w.heap.size) (k := w.heap.size + 1) (by omega) (.int .u8 x) (.int .u8 y) (.int .u64 z)).trans (three_set HK1.out (.int .u8 x) (.int .u8 y) (.int .u64 z))
    have hK0 := three_set ((three_other (w := w1) (g := w.heap.size + 1) (k := w.heap.size) (by omega) (.int .u8 x) (.int .u8 y) (.int .u64 z)).trans HK0.out) (.int .u8 x) (.int .u8 y) (.int .u64 z)
    have hr2 := (hr.three (g := w.heap.size + 1) (by omega) (by omega) (.int .u8 x) (.int .u8 y) (.int .u64 z)).three (g := w.heap.size) (by omega) (by omega) (.int .u8 x) (.int .u8 y) (.int .u64 z)
    have hkk2 := three_keep (three_keep hkk (g := w.heap.size + 1) (by omega) (.int .u8 x) (.int .u8 y) (.int .u64 z)) (g := w.heap.size) (by omega) (.int .u8 x) (.int .u8 y) (.int .u64 z)
    have hsz2 : w.heap.size + 2 ≤ (three_ (three_ w1 (w.heap.size + 1) (.int .u8 x) (.int .u8 y) (.int .u64 z)) w.heap.size (.int .u8 x) (.int .u8 y) (.int .u64 z)).heap.size := by simpa [three_, World.setCell] using hsz
    unfold three_ at hK1 hsz2
    generalize ((((((w1.setCell ⟨w.heap.size + 1, 0, none⟩ (.int .u8 x)).setCell ⟨w.heap.size + 1, 1, none⟩ (.int .u8 y)).setCell ⟨w.heap.size + 1, 2, none⟩ (.int .u64 z)).setCell ⟨w.heap.size, 0, none⟩ (.int .u8 x)).setCell ⟨w.heap.size, 1, none⟩ (.int .u8 y)).setCell ⟨w.heap.size, 2, none⟩ (.int .u64 z)) = W2 at *
    clear c0 c1 c2 f0 f1 f2 d0 d1 d2 g0 g1 g2 HK0 HK1 HE1
    have HE2 := Lib.hid (hE.keep hkk2 (by omega) hN)
    refine (len_any N W2 R A l (i + k) hr2 HE2.out hN).mono ?_
    rintro e w3 ⟨ho, hk3⟩
    have hK0' := (hk3.block _ (by omega) (by omega)).trans hK0
    have hkk3 := hkk2.trans (hk3.mono (by omega))
    have HK3sz := Lib.hid hk3.size
    have c0 : w3.cell? ⟨w.heap.size, 0, none⟩ = some (.int .u8 x) := blockCell hK0' 0
    have c1 : w3.cell? ⟨w.heap.size, 1, none⟩ = some (.int .u8 y) := blockCell hK0' 1
    have c2 : w3.cell? ⟨w.heap.size, 2, none⟩ = some (.int .u64 z) := blockCell hK0' 2
    have f0 := blockFrozen hK0' 0
    have f1 := blockFrozen hK0' 1
    have f2 := blockFrozen hK0' 2
    have HK0 := Lib.hid hK0'
    clear hK0 hK0' hK1 hk3
    unfold LenOut at ho
    cases hl : Ber.lenOf (l.drop (i + k)) with
    | none =>
      rw [hl] at ho
      obtain ⟨n, m, ev, rfl, hev⟩ := ho
      obtain ⟨a, rfl⟩ := hev.iface
      have HL := Lib.hid hl
      clear hl
      go_wp2
      have K0 := three_set HK0.out (.int .u8 0) (.int .u8 0) (.int .u64 0)
      have k0 := blockCell K0 0
      have k1 := blockCell K0 1
      have k2 := blockCell K0 2
      refine bodyPost_ret (v := .tuple #[noTag, .int .i64 0, .int .i64 k, .iface 144 (.pointer (some a))]) (by simp [results, Tryz.results117, go_sem, k0, k1, k2, noTag]) rfl ?_
      exact head_fail N R A l i w w3 _ _ _ hkk3 (hev.mono hsz2) (by omega) (by simp only [Ber.header]; rw [HID.out]; simp only []; rw [HREST.out, HL.out])
    | some r =>
      obtain ⟨len, rest2⟩ := r
      rw [hl] at ho
      obtain ⟨k', rfl, hr3, hrest2⟩ := ho
      have HL := Lib.hid hl
      have HREST2 := Lib.hid hrest2
      have hkp3 := hr3.pos
      clear hl hrest2
      have K0 := three_set HK0.out (.int .u8 x) (.int .u8 y) (.int .u64 z)
      have k0 := blockCell K0 0
      have k1 := blockCell K0 1
      have k2 := blockCell K0 2
      have hhd : Ber.header (l.drop i) = if len = none ∧ b = false then none else some (c, b, t, len, rest2) := by
        simp only [Ber.header]; rw [HID.out]; simp only []; rw [HREST.out, HL.out]
      have HHD := Lib.hid hhd
      have HD0 := Lib.hid k0
      have HD1 := Lib.hid k1
      have HD2 := Lib.hid k2
      clear hhd k0 k1 k2 K0
      have hdone : ∀ (n m : Int), n = lenInt len → m = ((k + k' : Nat) : Int) → (len = none → b = true) → HeadOut N w.heap.size R A l i (.returned (.tuple #[.agg #[.int .u8 x, .int .u8 y, .int .u64 z], .int .i64 n, .int .i64 m, .nilIface])) (three_ w3 w.heap.size (.int .u8 x) (.int .u8 y) (.int .u64 z)) := by
        rintro n m rfl rfl hlb
        unfold HeadOut
        rw [HHD.out, if_neg (by rintro ⟨e1, e2⟩; rw [hlb e1] at e2; cases e2)]
        exact ⟨k + k', by rw [HTV.out], by rw [← Nat.add_assoc]; exact hr3.three (by omega) (by omega) _ _ _, by rw [HREST2.out]; congr 1; omega⟩
      have hkk4 : Keep w.heap.size R w (three_ w3 w.heap.size (.int .u8 x) (.int .u8 y) (.int .u64 z)) := three_keep hkk3 (Nat.le_refl _) _ _ _
      have HDN := Lib.hid hdone
      clear hdone
      cases len with
      | some n =>
        have hn1 : ((n : Int) == -1) = false := by rw [beq_eq_false_iff_ne]; omega
        simp only [lenInt]
        go_wp2
        refine bodyPost_ret (v := .tuple #[.agg #[.int .u8 x, .int .u8 y, .int .u64 z], .int .i64 n, .int .i64 ((k : Int) + k'), .nilIface]) (by simp [results, Tryz.results117, go_sem, HD0.out, HD1.out, HD2.out]) rfl ?_
        exact ⟨HDN.out _ _ rfl (by omega) (by simp), hkk4⟩
      | none =>
        simp only [lenInt]
        cases b with
        | true =>
          have hy := hy1 rfl
          go_wp2
          refine bodyPost_ret (v := .tuple #[.agg #[.int .u8 x, .int .u8 y, .int .u64 z], .int .i64 (-1), .int .i64 ((k : Int) + k'), .nilIface]) (by simp [results, Tryz.results117, go_sem, HD0.out, HD1.out, HD2.out]) rfl ?_
          exact ⟨HDN.out _ _ rfl (by omega) (by simp), hkk4⟩
        | false =>
          have hy := hy0 rfl
          go_wp2_with fail
          have hsz3 : w.heap.size + 2 ≤ w3.heap.size := by have := (HK3sz).out; omega
          refine (new_err _ (by decide) (by decide) N w3).mono ?_
          rintro e w4 ⟨ev, rfl, hev, hb4⟩
          have hK4 := (hb4.block _ (by omega)).trans HK0.out
          have hkk5 := hkk3.trans (Keep.ofBelow (hb4.mono (by omega)))
          have p0 : w4.cell? ⟨w.heap.size, 0, none⟩ = some (.int .u8 x) := blockCell hK4 0
          have p1 : w4.cell? ⟨w.heap.size, 1, none⟩ = some (.int .u8 y) := blockCell hK4 1
          have p2 : w4.cell? ⟨w.heap.size, 2, none⟩ = some (.int .u64 z) := blockCell hK4 2
          have q0 := blockFrozen hK4 0
          have q1 := blockFrozen hK4 1
          have q2 := blockFrozen hK4 2
          have HK4 := Lib.hid hK4
          clear hK4
          go_wp2
          have K0 := three_set HK4.out (.int .u8 0) (.int .u8 0) (.int .u64 0)
          have k0 := blockCell K0 0
          have k1 := blockCell K0 1
          have k2 := blockCell K0 2
          refine bodyPost_ret (v := .tuple #[noTag, .int .i64 0, .int .i64 ((k : Int) + k'), ev]) (by simp [results, Tryz.results117, go_sem, k0, k1, k2, noTag]) rfl ?_
          exact head_fail N R A l i w w4 _ _ _ hkk5 (hev.mono hsz3) (by omega) (by rw [HHD.out]; simp)
end Go.Proofs.YtjmahgefijncaaaGreatFmt

/- readPacket: what is laid at a packet's start; what stands when a primitive one is read. -/
namespace Go.Proofs.YtjmahgefijncaaaGreatFmt
open Go Go.RowKit

theorem make0 (w : World) : (Instr.makeSlice 51 (.int .i64 0) (.int .i64 0)).run Tryz.prog w = .ok (.slice (some ⟨w.heap.size, 0, none⟩) 0 0) (w.alloc (.cells #[] 5)) := by kernel_rfl
theorem make2 (w : World) : (Instr.makeSlice 169 (.int .i64 0) (.int .i64 2)).run Tryz.prog w = .ok (.slice (some ⟨w.heap.size, 0, none⟩) 0 2) (w.alloc (.cells #[.pointer none, .pointer none] 159)) := by kernel_rfl

/-- The four blocks of a packet's start. -/
def startW (w : World) (x y z : Int) : World :=
  (((w.alloc (.cells #[.int .u8 x, .int .u8 y, .int .u64 z] 168)).alloc
    (.cells (PkCells x y z .nilIface (.slice none 0 0) (w.heap.size + 1 + 1) (.slice (some ⟨w.heap.size + 1 + 1 + 1, 0, none⟩) 0 2) (.string ⟨#[]⟩)) 171)).alloc
    (.cells #[.slice none 0 0, .int .i64 0, .int .i8 0] 183)).alloc (.cells #[.pointer none, .pointer none] 159)

theorem heap4 (w : World) (a b c d : Obj) (k : Nat) (hk : k < w.heap.size) : ((((w.alloc a).alloc b).alloc c).alloc d).heap[k]? = w.heap[k]? := by
  rw [Below.heap_alloc _ _ _ (by simp; omega), Below.heap_alloc _ _ _ (by simp; omega), Below.heap_alloc _ _ _ (by simp; omega), Below.heap_alloc _ _ _ hk]

theorem startW_size (w : World) (x y z : Int) : (startW w x y z).heap.size = w.heap.size + 4 := by simp [startW]
theorem startW_P (w : World) (x y z : Int) : (startW w x y z).heap[w.heap.size + 1]? = some (.cells (PkCells x y z .nilIface (.slice none 0 0) (w.heap.size + 1 + 1) (.slice (some ⟨w.heap.size + 1 + 1 + 1, 0, none⟩) 0 2) (.string ⟨#[]⟩)) 171 (0, 0)) := by
  unfold startW
  rw [Below.heap_alloc _ _ _ (by simp), Below.heap_alloc _ _ _ (by simp)]
  exact alloc2_new w _ _
theorem startW_D (w : World) (x y z : Int) : BufAt (startW w x y z) (w.heap.size + 1 + 1) none (Lib.byteCells []) := by
  refine ⟨rfl, 0, ?_⟩
  unfold startW
  rw [Below.heap_alloc _ _ _ (by simp)]
  have := alloc2_new (w.alloc (.cells #[.int .u8 x, .int .u8 y, .int .u64 z] 168)) (.cells (PkCells x y z .nilIface (.slice none 0 0) (w.heap.size + 1 + 1) (.slice (some ⟨w.heap.size + 1 + 1 + 1, 0, none⟩) 0 2) (.string ⟨#[]⟩)) 171) (.cells #[.slice none 0 0, .int .i64 0, .int .i8 0] 183)
  simpa using this
theorem startW_C (w : World) (x y z : Int) : KidRow (startW w x y z) (w.heap.size + 1 + 1 + 1) 2 [] := by
  refine ⟨#[.pointer none, .pointer none], ?_, by simp, by decide, rfl, rfl⟩
  unfold startW
  have := heap_alloc_new (((w.alloc (.cells #[.int .u8 x, .int .u8 y, .int .u64 z] 168)).alloc
    (.cells (PkCells x y z .nilIface (.slice none 0 0) (w.heap.size + 1 + 1) (.slice (some ⟨w.heap.size + 1 + 1 + 1, 0, none⟩) 0 2) (.string ⟨#[]⟩)) 171)).alloc
    (.cells #[.slice none 0 0, .int .i64 0, .int .i8 0] 183)) (.cells #[.pointer none, .pointer none] 159)
  simpa using this
theorem startW_below (w : World) (x y z : Int) : Below w.heap.size w (startW w x y z) :=
  ((((Below.refl _ w).alloc (Nat.le_refl _) _).alloc (by simp) _).alloc (by simp; omega) _).alloc (by simp; omega) _

theorem pk0 {w : World} {p D : Nat} {a0 a1 a2 : Int} {val bv kv ds : Value} {t : TypeId} {fr : Nat × Nat} (h : w.heap[p]? = some (.cells (PkCells a0 a1 a2 val bv D kv ds) t fr)) : w.cell? ⟨p, 0, none⟩ = some (.int .u8 a0) := blockCell h 0
theorem pk1 {w : World} {p D : Nat} {a0 a1 a2 : Int} {val bv kv ds : Value} {t : TypeId} {fr : Nat × Nat} (h : w.heap[p]? = some (.cells (PkCells a0 a1 a2 val bv D kv ds) t fr)) : w.cell? ⟨p, 1, none⟩ = some (.int .u8 a1) := blockCell h 1
theorem pk2 {w : World} {p D : Nat} {a0 a1 a2 : Int} {val bv kv ds : Value} {t : TypeId} {fr : Nat × Nat} (h : w.heap[p]? = some (.cells (PkCells a0 a1 a2 val bv D kv ds) t fr)) : w.cell? ⟨p, 2, none⟩ = some (.int .u64 a2) := blockCell h 2
theorem pk3 {w : World} {p D : Nat} {a0 a1 a2 : Int} {val bv kv ds : Value} {t : TypeId} {fr : Nat × Nat} (h : w.heap[p]? = some (.cells (PkCells a0 a1 a2 val bv D kv ds) t fr)) : w.cell? ⟨p, 3, none⟩ = some val := blockCell h 3
theorem pk4 {w : World} {p D : Nat} {a0 a1 a2 : Int} {val bv kv ds : Value} {t : TypeId} {fr : Nat × Nat} (h : w.heap[p]? = some (.cells (PkCells a0 a1 a2 val bv D kv ds) t fr)) : w.cell? ⟨p, 4, none⟩ = some bv := blockCell h 4
theorem pk5 {w : World} {p D : Nat} {a0 a1 a2 : Int} {val bv kv ds : Value} {t : TypeId} {fr : Nat × Nat} (h : w.heap[p]? = some (.cells (PkCells a0 a1 a2 val bv D kv ds) t fr)) : w.cell? ⟨p, 5, none⟩ = some (.pointer (some ⟨D, 0, none⟩)) := blockCell h 5
theorem pk6 {w : World} {p D : Nat} {a0 a1 a2 : Int} {val bv kv ds : Value} {t : TypeId} {fr : Nat × Nat} (h : w.heap[p]? = some (.cells (PkCells a0 a1 a2 val bv D kv ds) t fr)) : w.cell? ⟨p, 6, none⟩ = some kv := blockCell h 6

/-- A primitive packet stands. -/
theorem prim_stable {B : Nat} {w : World} {p D C cap c t : Nat} {row : Option Nat} {bv : Value} {data : List UInt8} (hc : c < 4) (ht : t < 2 ^ 64)
    (hp : w.heap[p]? = some (.cells (PkCells ((c * 64 : Nat) : Int) 0 t (valOf c false t data) bv D (.slice (some ⟨C, 0, none⟩) 0 cap) (.string ⟨#[]⟩)) 171 (0, 0)))
    (hb : BufAt w D row (Lib.byteCells data)) (hk : KidRow w C cap []) (hpB : B ≤ p) (hDB : B ≤ D) (hCB : B ≤ C) (hrB : ∀ g, row = some g → B ≤ g)
    (hbv : (c ≠ 0 ∧ bv = .slice none 0 0) ∨ c = 0 ∧ ∃ G cp, bv = .slice (some ⟨G, 0, none⟩) data.length cp ∧ B ≤ G ∧ G < w.heap.size ∧ ∀ j v, (Lib.byteCells data)[j]? = some v → w.cell? ⟨G, j, none⟩ = some v) :
    Stable B w (fun _ => False) (fun w2 => Tree w2 p (.mk c false t data [])) := by
  intro w2 h2
  have hplt := blockLt hp
  unfold Tree
  refine ⟨D, row, C, cap, bv, [], hc, ht, (h2 p hpB hplt id).trans hp, hb.kept (h2 D hDB hb.ltD id) (fun g e => h2 g (hrB g e) (by subst e; exact hb.ltG) id), hk.stays (h2 C hCB hk.lt id), ?_, fun _ => rfl, (fun h => by cases h), rfl⟩
  unfold BvAt
  rcases hbv with ⟨h0, rfl⟩ | ⟨h0, G, cp, rfl, hG, hGl, hs⟩
  · rw [if_neg (by rintro ⟨h, _⟩; exact h0 h)]
  · rw [if_pos ⟨h0, rfl⟩]
    exact ⟨G, cp, rfl, fun j v hj => (World.cell?_of_block (w := w) (h2 G hG hGl id)).trans (hs j v hj)⟩
end Go.Proofs.YtjmahgefijncaaaGreatFmt

/- Plain facts on the reading of bytes. -/
namespace Go.Proofs.YtjmahgefijncaaaGreatFmt.Ber

theorem high_bound : ∀ (s : List UInt8) (acc k : Nat), acc < 128 ^ k → ∀ t r, high s acc k = some (t, r) → t < 2 ^ 63 ∧ ∃ m, 1 ≤ m ∧ r = s.drop m ∧ m ≤ s.length
  | [], _, _, _, t, r, h => by simp [high] at h
  | b :: s, acc, k, hacc, t, r, h => by
    simp only [high] at h
    split at h
    · cases h
    · split at h
      · cases h
      · rename_i h9
        have hk : acc * 128 + b.toNat % 128 < 128 ^ (k + 1) := by rw [Nat.pow_succ]; have := Nat.mod_lt b.toNat (show 0 < 128 by decide); omega
        split at h
        · injection h with h; injection h with h1 h2
          subst h1 h2
          exact ⟨Nat.lt_of_lt_of_le hk (Nat.le_trans (Nat.pow_le_pow_right (by decide) (by omega : k + 1 ≤ 9)) (by decide)), 1, Nat.le_refl _, rfl, by simp⟩
        · obtain ⟨h1, m, h2, h3, h4⟩ := high_bound s _ _ hk t r h
          exact ⟨h1, m + 1, by omega, by rw [h3]; rfl, by simp; omega⟩

theorem ident_bound {s : List UInt8} {c t : Nat} {b : Bool} {r : List UInt8} (h : ident s = some (c, b, t, r)) : c < 4 ∧ t < 2 ^ 63 ∧ ∃ m, 1 ≤ m ∧ r = s.drop m ∧ m ≤ s.length := by
  cases s with
  | nil => simp [ident] at h
  | cons x s =>
    have hx := x.toNat_lt
    simp only [ident] at h
    split at h
    · obtain ⟨⟨t', r'⟩, h1, h2⟩ := Option.map_eq_some_iff.1 h
      simp only [Prod.mk.injEq] at h2
      obtain ⟨rfl, _, rfl, rfl⟩ := h2
      obtain ⟨k1, m, k2, k3, k4⟩ := high_bound s 0 0 (by decide) _ _ h1
      exact ⟨by omega, k1, m + 1, by omega, by rw [k3]; rfl, by simp; omega⟩
    · injection h with h
      simp only [Prod.mk.injEq] at h
      obtain ⟨rfl, _, rfl, rfl⟩ := h
      exact ⟨by omega, by omega, 1, Nat.le_refl _, rfl, by simp⟩

theorem lenOf_bound {s : List UInt8} {len : Option Nat} {r : List UInt8} (h : lenOf s = some (len, r)) : (∀ n, len = some n → n < 2 ^ 63) ∧ ∃ m, 1 ≤ m ∧ r = s.drop m ∧ m ≤ s.length := by
  cases s with
  | nil => simp [lenOf] at h
  | cons x s =>
    have hx := x.toNat_lt
    simp only [lenOf] at h
    split at h
    · cases h
    · split at h
      · injection h with h; simp only [Prod.mk.injEq] at h; obtain ⟨rfl, rfl⟩ := h
        exact ⟨fun n hn => by (cases hn), 1, Nat.le_refl _, rfl, by simp⟩
      · split at h
        · injection h with h; simp only [Prod.mk.injEq] at h; obtain ⟨rfl, rfl⟩ := h
          exact ⟨fun n hn => by injection hn with hn; omega, 1, Nat.le_refl _, rfl, by simp⟩
        · split at h
          · cases h
          · split at h
            · cases h
            · split at h
              · cases h
              · injection h with h; simp only [Prod.mk.injEq] at h; obtain ⟨rfl, rfl⟩ := h
                rename_i h5 h6
                refine ⟨fun n hn => ?_, x.toNat - 128 + 1, by omega, (List.drop_succ_cons ..).symm, by rw [List.length_cons]; omega⟩
                have hn := Option.some.inj hn
                rw [← hn]
                exact Nat.lt_of_not_le h6

theorem header_bound {s : List UInt8} {c t : Nat} {b : Bool} {len : Option Nat} {r : List UInt8} (h : header s = some (c, b, t, len, r)) :
    c < 4 ∧ t < 2 ^ 63 ∧ (∀ n, len = some n → n < 2 ^ 63) ∧ ∃ m, 2 ≤ m ∧ r = s.drop m ∧ m ≤ s.length := by
  simp only [header] at h
  split at h
  · cases h
  · rename_i c' b' t' s1 h1
    split at h
    · cases h
    · rename_i len' s2 h2
      split at h
      · cases h
      · injection h with h
        simp only [Prod.mk.injEq] at h
        obtain ⟨rfl, rfl, rfl, rfl, rfl⟩ := h
        obtain ⟨k1, k2, m1, k3, k4, k5⟩ := ident_bound h1
        obtain ⟨j1, m2, j2, j3, j4⟩ := lenOf_bound h2
        refine ⟨k1, k2, j1, m1 + m2, by omega, by rw [j3, k4, List.drop_drop], ?_⟩
        rw [k4, List.length_drop] at j4
        omega
end Go.Proofs.YtjmahgefijncaaaGreatFmt.Ber

