/- Values written as '#04..': the hexadecimal digits of an octet string in BER. -/
import Derived.Test.YtjmahgefijncaaaGreatFmtJ29
import Derived.Test.YtjmahgefijncaaaGreatFmtJ32
import Derived.Test.YtjmahgefijncaaaGreatFmtJ6
import Derived.Test.YtjmahgefijncaaaGreatFmtJ11
import Derived.WalkSpells
import Derived.Stop.CallBack
import Derived.Stop.IfaceNil
import Derived.Stop.FmtTextKit
import Derived.Stop.Texts
import Derived.Stop.JoinedTold
set_option linter.unusedVariables false
set_option linter.unusedSimpArgs false
namespace Go.Proofs.YtjmahgefijncaaaGreatFmt
open Go Go.RowKit

/-- The octet string that a text of hexadecimal digits holds: tag, length (below 128), contents. -/
def octVal (t : List UInt8) : Option (List UInt8) :=
  match Lib.Hx.decode t with
  | (4 :: n :: v, .ok) => if n.toNat = v.length ∧ v.length < 128 then some v else none
  | _ => none
def hashVal (l : List UInt8) : Option (List UInt8) := if l[0]? = some 35 then octVal (l.drop 1) else Nm.decode l

theorem octVal_form {t v : List UInt8} (h : octVal t = some v) : ∃ n : UInt8, Lib.Hx.decode t = (4 :: n :: v, .ok) ∧ n.toNat = v.length ∧ v.length < 128 := by
  unfold octVal at h
  split at h
  · rename_i n u hd
    split at h
    · rename_i hc
      obtain rfl := Option.some.inj h
      exact ⟨n, hd, hc.1, hc.2⟩
    · cases h
  · cases h

theorem hexB_dec : ∀ c : Nat, c < 256 → (match NT.hexB (UInt8.ofNat c) with | [p, q] => decide (Lib.Hx.v p ≤ 15 ∧ Lib.Hx.v q ≤ 15 ∧ Lib.Hx.v p * 16 + Lib.Hx.v q = c) | _ => false) = true := by decide +kernel
theorem decode_hexB (c : UInt8) (r : List UInt8) : Lib.Hx.decode (NT.hexB c ++ r) = (c :: (Lib.Hx.decode r).1, (Lib.Hx.decode r).2) := by
  have h := hexB_dec c.toNat c.toNat_lt
  rw [UInt8.ofNat_toNat] at h
  have e : NT.hexB c = [(NT.hexB c)[0]!, (NT.hexB c)[1]!] := rfl
  generalize (NT.hexB c)[0]! = p at e
  generalize (NT.hexB c)[1]! = q at e
  rw [e] at h ⊢
  simp only [decide_eq_true_eq] at h
  obtain ⟨h1, h2, h3⟩ := h
  show Lib.Hx.decode (p :: q :: r) = _
  rw [Lib.Hx.decode_two, if_neg (by omega), if_neg (by omega), h3, UInt8.ofNat_toNat]
theorem decode_hexs : ∀ l : List UInt8, Lib.Hx.decode (l.flatMap NT.hexB) = (l, .ok)
  | [] => Lib.Hx.decode_nil
  | c :: r => by
    rw [List.flatMap_cons, decode_hexB, decode_hexs r]
theorem octVal_hash (v : List UInt8) (h : v.length < 128) : octVal ((NT.hashText v).drop 1) = some v := by
  have e : (NT.hashText v).drop 1 = ((4 : UInt8) :: v.length.toUInt8 :: v).flatMap NT.hexB := by
    simp only [NT.hashText, List.flatMap_cons]
    rfl
  unfold octVal
  rw [e, decode_hexs]
  have : v.length.toUInt8.toNat = v.length := by
    show v.length % 256 = v.length
    omega
  simp only [this, true_and]
  rw [if_pos h]
theorem hash_ok (st : Nat → UInt8) : NT.ValOK hashVal st :=
  ⟨fun t h => by unfold hashVal; rw [if_neg h], fun _ v h => by
    unfold hashVal
    rw [if_pos (by simp [NT.hashText])]
    exact octVal_hash v h⟩

/-- bytes.NewBuffer. -/
theorem newbuf_any (p : Option Addr) (n c : Nat) (w : World) :
    Calls Tryz.prog 98 #[.slice p n c] w fun e w' => e = .returned (.pointer (some ⟨w.heap.size, 0, none⟩)) ∧ w.alloc (.cells #[.slice p n c, .int .i64 0, .int .i8 0] 183) = w' := by
  go_enter Tryz.func98, Tryz.ntmps98
  go_wp2
  go_ret
  exact ⟨rfl, rfl⟩

/-- Len of a buffer that is read to its end. -/
theorem len_end_buf (w : World) (R A : Nat) (l : List UInt8) (h : Rd w R A l l.length) :
    Calls Tryz.prog 100 #[.pointer (some ⟨R, 0, none⟩)] w fun e w' => e = .returned (.int .i64 0) ∧ Same w w' := by
  obtain ⟨m, cap, hm, hb⟩ : ∃ (m cap : Nat), m ≤ 1000000000 ∧ ∃ (pr : Int), w.heap[R]? = some (.cells #[.slice (some ⟨A, 0, none⟩) m cap, .int .i64 m, .int .i8 pr] 183 (0, 0)) := by
    have := h.len
    rcases h.blk with ⟨cap, pr, _, hb⟩ | ⟨_, cap, pr, hb⟩
    · exact ⟨_, cap, by omega, pr, hb⟩
    · exact ⟨0, cap, by omega, pr, hb⟩
  obtain ⟨pr, hb⟩ := hb
  have c0 : w.cell? ⟨R, 0, none⟩ = some (.slice (some ⟨A, 0, none⟩) m cap) := blockCell hb 0
  have c1 : w.cell? ⟨R, 1, none⟩ = some (.int .i64 m) := blockCell hb 1
  clear hb h
  go_enter Tryz.func100, Tryz.ntmps100
  go_wp2
  go_quiet (fail)
  go_wp2
  go_ret
  exact ⟨by simp, (Same.refl w).drewN _⟩

/-- ReadPacket of an octet string that is all there is. -/
theorem read_oct (N : Nat) (w : World) (R A : Nat) (n : UInt8) (v l : List UInt8) (hlv : l = 4 :: n :: v) (h : Rd w R A l 0) (hE : Env N w) (hN : N ≤ R) (hn : n.toNat = v.length) (hv : v.length < 128) :
    Calls Tryz.prog 99 #[.iface 157 (.pointer (some ⟨R, 0, none⟩))] w fun e w' => (∃ q, e = .returned (.tuple #[.pointer (some ⟨q, 0, none⟩), .nilIface]) ∧ Tree w' q (.mk 0 false 4 v [])) ∧
      Rd w' R A l l.length ∧ Keep w.heap.size R w w' := by
  have hh : Ber.header (l.drop 0) = some (0, false, 4, some v.length, v) := by
    subst hlv
    have h1 : Ber.lenOf (n :: v) = some (some v.length, v) := by
      simp only [Ber.lenOf, hn]
      rw [if_neg (by omega), if_neg (by omega), if_pos hv]
    simp [Ber.header, Ber.ident, h1]
  have hp : Calls Tryz.prog 110 #[.iface 157 (.pointer (some ⟨R, 0, none⟩)), .int .i64 (0 : Nat)] w fun e w' => PackOut N w.heap.size R A l 0 (.ok (.mk 0 false 4 v []) []) e w' ∧ Keep w.heap.size R w w' := by
    rcases Nat.eq_zero_or_pos v.length with h0 | h0
    · obtain rfl : v = [] := List.length_eq_zero_iff.1 h0
      exact pack_zero N w R A _ 0 h hE hN 0 (by omega) 0 4 [] hh (by rfl)
    · have := pack_some N w R A _ 0 h hE hN 0 (by omega) 0 4 v.length v hh (by rfl) h0 (by omega) (Nat.le_refl _)
      rw [List.take_length, List.drop_length] at this
      exact this
  have HP := Lib.hid hp
  clear hp hh h hE
  go_enter Tryz.func99, Tryz.ntmps99
  go_wp2_with fail
  refine HP.out.mono ?_
  rintro e w1 ⟨hpo, hk⟩
  obtain ⟨q, k, rfl, _, hst, hr, hrest⟩ := hpo
  have hkl : l.length = 0 + k := by
    have h1 := hr.pos
    have h2 := congrArg List.length hrest
    rw [List.length_drop, List.length_nil] at h2
    omega
  have hend : Rd w1 R A l l.length := by rw [← hkl] at hr; exact hr
  have HF := Lib.hid (And.intro hst.now (And.intro hend hk))
  clear hst hr hrest hkl hend hk HP
  go_wp2_with fail
  go_ret2
  exact ⟨⟨q, rfl, HF.out.1⟩, HF.out.2⟩

/-- hex.DecodeString of digits in pairs. -/
theorem hexs_some (t l : List UInt8) (hd : Lib.Hx.decode t = (l, .ok)) (ht : t.length < 100000000) (w : World) (ev : Value) (hE : w.cell? ⟨1, 0, none⟩ = some ev) :
    Calls Tryz.prog 97 #[.string (Nm.bs t)] w fun e w' => ∃ cap, e = .returned (.tuple #[.slice (some ⟨w.heap.size, 0, none⟩) l.length cap, .nilIface]) ∧ l.length ≤ cap ∧
      (∀ j v, (Lib.byteCells l)[j]? = some v → w'.cell? ⟨w.heap.size, j, none⟩ = some v) ∧ Below w.heap.size w w' := by
  have htl : (Nm.bs t).data.toList = t := rfl
  have h := Tryz.hex_DecodeString (Nm.bs t) w ev hE (by rw [bs_size]; omega)
  have hle := Lib.Hx.decode_len t
  rw [htl, hd] at h
  rw [hd] at hle
  have hle : l.length ≤ t.length / 2 := hle
  have hsz := bs_size t
  refine h.mono ?_
  rintro e w1 ⟨rfl, hrow, hb⟩
  refine ⟨_, rfl, by rw [hsz]; exact hle, fun j v hj => ?_, hb⟩
  simp only [Lib.byteCells, List.getElem?_map, Option.map_eq_some_iff] at hj
  obtain ⟨b, hj, rfl⟩ := hj
  obtain ⟨hjl, rfl⟩ := List.getElem?_eq_some_iff.1 hj
  refine (hrow.cell (i := j) (by rw [hsz]; exact Nat.lt_of_lt_of_le hjl hle)).trans ?_
  unfold Lib.Hx.rowP
  rw [if_pos ⟨Nat.zero_le _, by rw [Nat.zero_add]; exact hjl⟩, Nat.sub_zero]
  show some (Value.int .u8 ((l[j]?.getD 0).toNat : Int)) = _
  rw [hj]
  rfl

set_option maxRecDepth 100000 in
set_option maxHeartbeats 8000000 in
/-- decodeEncodedString. -/
theorem enc_some (t v : List UInt8) (hl : t.length < 100000000) (hv : octVal t = some v) (w : World) (ev : Value) (hE : w.cell? ⟨1, 0, none⟩ = some ev) (hN : Env w.heap.size w) :
    Calls Tryz.prog 86 #[.string (Nm.bs t)] w fun e w' => e = .returned (.tuple #[.string (Nm.bs v), .nilIface]) ∧ Below w.heap.size w w' := by
  obtain ⟨n, hd, hn, hv128⟩ := octVal_form hv
  obtain ⟨l, hlv⟩ : ∃ l, l = 4 :: n :: v := ⟨_, rfl⟩
  rw [← hlv] at hd
  have hm : l.length ≤ 130 := by rw [hlv]; simp; omega
  have HD := Lib.hid (hexs_some t l hd hl w ev hE)
  have HLV := Lib.hid hlv
  have HENV := Lib.hid hN
  have HN := Lib.hid (And.intro hn hv128)
  clear hd hv hE hlv hN hn hv128
  go_enter Tryz.func86, Tryz.ntmps86
  go_wp2_with fail
  refine HD.out.mono ?_
  rintro e w1 ⟨cap, rfl, hcap, hrow, hb1⟩
  have hs1 := hb1.size
  have hAlt : l.length ≠ 0 → w.heap.size < w1.heap.size := fun h0 => by
    obtain ⟨b, r, e⟩ : ∃ b r, l = b :: r := by cases hx : l with | nil => rw [hx] at h0; simp at h0 | cons b r => exact ⟨b, r, rfl⟩
    exact World.block_lt_of_cell? w1 ⟨w.heap.size, 0, none⟩ (hrow 0 (.int .u8 b.toNat) (by rw [e]; simp [Lib.byteCells]))
  have hA1 : w.heap.size < w1.heap.size := hAlt (by rw [HLV.out]; simp)
  have HROW := Lib.hid hrow
  have HB1 := Lib.hid hb1
  clear hrow hb1 hAlt HD
  go_wp2_with fail
  refine (newbuf_any _ _ _ w1).mono ?_
  rintro e w2 ⟨rfl, hw2⟩
  have hb2 : Below w.heap.size w w2 := by rw [← hw2]; exact HB1.out.alloc hs1 _
  have hs2 : w2.heap.size = w1.heap.size + 1 := by rw [← hw2]; simp
  have hrd : Rd w2 w1.heap.size w.heap.size l 0 := by
    refine ⟨Or.inl ⟨cap, 0, hcap, by rw [← hw2]; exact heap_alloc_new _ _⟩, fun j v hj => ?_, by omega, Nat.zero_le _, by omega⟩
    rw [← hw2]
    exact cell_alloc (HROW.out j v hj) _
  have HR := Lib.hid (read_oct w.heap.size w2 w1.heap.size w.heap.size n v l HLV.out hrd (HENV.out.below hb2 (Nat.le_refl _)) hs1 HN.out.1 HN.out.2)
  have HB2 := Lib.hid hb2
  have hlt2 : w1.heap.size < w2.heap.size := by omega
  clear hrd hw2 hb2 hs2 HROW HB1 HENV
  generalize w1.heap.size = R at *
  go_wp2_with fail
  refine HR.out.mono ?_
  rintro e w3 ⟨⟨q, rfl, htree⟩, hend, hk3⟩
  have hb3 : Below w.heap.size w w3 := HB2.out.trans ((hk3.mono (Nat.le_trans hs1 (Nat.le_of_lt hlt2))).toBelow hs1)
  have HLEN := Lib.hid (len_end_buf w3 R _ l hend)
  obtain ⟨D, row, C, cp, bv, xs, _, _, hq, hbuf, _⟩ := htree
  have cD : w3.cell? ⟨q, 5, none⟩ = some (.pointer (some ⟨D, 0, none⟩)) := blockCell hq 5
  have HS := Lib.hid (fun w4 (hs : Same w3 w4) => Tryz.Buffer_String 0 D v w4 (show Lib.IsBuffer _ _ 0 D (Lib.byteCells v) w4 from (hbuf.kept (by rw [hs.heap]) (fun g _ => by rw [hs.heap])).isBuffer))
  have HB3 := Lib.hid hb3
  clear hend hk3 hb3 hq hbuf HR HB2
  go_wp2_with fail
  refine HLEN.out.mono ?_
  rintro e w4 ⟨rfl, hs4⟩
  have cD4 : w4.cell? ⟨q, 5, none⟩ = some (.pointer (some ⟨D, 0, none⟩)) := (hs4.cell _).trans cD
  have HST := Lib.hid (HS.out w4 hs4)
  have HB4 := Lib.hid (HB3.out.trans ((hs4.keep w3.heap.size w3.heap.size).toBelow (Nat.le_refl _) |>.mono HB3.out.size))
  clear cD hs4 HS HLEN
  go_wp2_with fail
  refine HST.out.mono ?_
  rintro e w5 ⟨rfl, k, rfl⟩
  go_wp2_with fail
  go_ret2
  exact ⟨rfl, ⟨HB4.out.os, HB4.out.tape, HB4.out.output, HB4.out.size, HB4.out.block⟩⟩

set_option maxRecDepth 100000 in
set_option maxHeartbeats 1000000 in
/-- setValue behind a number sign. -/
theorem value_hash (l : List UInt8) (hl : l.length < 100000000) (h35 : l[0]? = some 35) (v : List UInt8) (hv : octVal (l.drop 1) = some v) (w : World) (ev : Value) (hE : w.cell? ⟨1, 0, none⟩ = some ev) (hN : Env w.heap.size w) (A : Nat) (s0 s1 : Value)
    (hA : w.heap[A]? = some (.cells #[s0, s1] 120 (0, 0))) :
    Calls Tryz.prog 70 #[.pointer (some ⟨A, 0, none⟩), .string (Nm.bs l)] w fun e w' => e = .returned .nilIface ∧ w'.heap[A]? = some (.cells #[s0, .string (Nm.bs v)] 120 (0, 0)) ∧ Keep w.heap.size A w w' := by
  obtain ⟨t, ht⟩ : ∃ t, t = l.drop 1 := ⟨_, rfl⟩
  have htl : t.length < 100000000 := by rw [ht]; simp; omega
  rw [← ht] at hv
  have hC := Lib.hid (enc_some t v htl hv w ev hE hN)
  have hAlt := blockLt hA
  have HA := Lib.hid hA
  have hsz := bs_size l
  have hpos : 0 < l.length := by
    rcases Nat.eq_zero_or_pos l.length with h | h
    · rw [List.getElem?_eq_none (by omega)] at h35; cases h35
    · exact h
  have hlt : 0 < (Nm.bs l).size := by omega
  have hget : ((Nm.bs l)[0]'hlt).toNat = 35 := by
    rw [bs_get]
    have := List.getElem?_eq_some_iff.1 h35
    obtain ⟨_, e⟩ := this
    rw [e]; rfl
  have hsl := bs_slice l 1 l.length (Nat.le_refl _)
  rw [List.take_length, ← ht] at hsl
  have h1 : ¬ l.length < 1 := by omega
  clear hA hv hE hN h35 ht htl
  go_enter Tryz.func70, Tryz.ntmps70
  go_wp2_with fail
  refine hC.out.mono ?_
  rintro e w1 ⟨rfl, hb⟩
  have hA1 := (hb.block A hAlt).trans HA.out
  have c1 : w1.cell? ⟨A, 1, none⟩ = some s1 := blockCell hA1 1
  have f1 := blockFrozen hA1 1
  have hE1 := blockSet hA1 1 (.string (Nm.bs v))
  have hk : Keep w.heap.size A w (w1.setCell ⟨A, 1, none⟩ (.string (Nm.bs v))) := (Keep.ofBelow hb).setCell (p := ⟨A, 1, none⟩) (Or.inr rfl) _
  have HE := Lib.hid (And.intro hE1 hk)
  clear hA1 hE1 hk hb
  go_wp2_with fail
  go_ret
  exact ⟨rfl, by simpa using HE.out.1, HE.out.2⟩

theorem Env.mono {N N' : Nat} {w : World} (h : Env N w) (hN : N ≤ N') : Env N' w := by
  obtain ⟨⟨a, h1, h2, h3⟩, ⟨b, g1, g2, g3⟩, ⟨f1, f2⟩⟩ := h
  exact ⟨⟨a, h1, by omega, h3⟩, ⟨b, g1, by omega, g3⟩, by omega, by omega⟩
theorem hash_works (w0 : World) (hN : Env w0.heap.size w0) : ValAt w0 hashVal := by
  intro l hl v hv w hb ev hE A s0 s1 hA
  unfold hashVal at hv
  split at hv
  · rename_i h35
    have hNw : Env w.heap.size w := by
      have h := hN.below hb (Nat.le_refl _)
      exact h.mono hb.size
    exact value_hash l hl h35 v hv w ev hE hNw A s0 s1 hA
  · exact value_some l hl (by assumption) v hv w ev hE A s0 s1 hA
end Go.Proofs.YtjmahgefijncaaaGreatFmt

/- (encoding/hex.InvalidByteError).Error, whose text fmt.Sprintf gives. -/
namespace Go.Proofs.YtjmahgefijncaaaGreatFmt
open Go Go.RowKit Go.Extern.Stop Go.Stop Go.Extern

theorem hx_call (args : Array Value) (w : World) : (callFunc 192 args).run Tryz.prog w = ((FmtStop.sprintf #[9, 270] #[9] args).run Tryz.prog w).andThen fun v w' => .ok (.value v) w' :=
  run_callFunc_extern Tryz.func192 (by kernel_rfl) (by kernel_rfl) (by kernel_rfl) (by kernel_rfl) args w
theorem hx_guard (name : String) (w : World) : (FmtStop.guard name).run Tryz.prog w = .ok () w := by kernel_rfl
def hexFormat : List UInt8 := [101, 110, 99, 111, 100, 105, 110, 103, 47, 104, 101, 120, 58, 32, 105, 110, 118, 97, 108, 105, 100, 32, 98, 121, 116, 101, 58, 32, 37, 35, 85]
theorem hx_fmt : FmtStop.printed? ⟨#[101, 110, 99, 111, 100, 105, 110, 103, 47, 104, 101, 120, 58, 32, 105, 110, 118, 97, 108, 105, 100, 32, 98, 121, 116, 101, 58, 32, 37, 35, 85]⟩ 1 = some [(0, 85, true)] := by kernel_rfl
theorem hx_fmtr (w : World) : (FmtDoors.printed ⟨#[101, 110, 99, 111, 100, 105, 110, 103, 47, 104, 101, 120, 58, 32, 105, 110, 118, 97, 108, 105, 100, 32, 98, 121, 116, 101, 58, 32, 37, 35, 85]⟩ 1).run Tryz.prog w = .ok [(0, 85, true)] w := by kernel_rfl
def hx_shape : List UInt8 := [4, 5, 0, 0, 0, 0, 0, 0, 0, 105, 110, 116, 51, 50]
theorem hx_op (name : String) (x : Int) (w : World) : (FmtStop.operand name false 85 true (.iface 21 (.int .i32 x))).run Tryz.prog w = .ok (hx_shape, Go.Extern.Stop.digits 8 (x % 2 ^ 64).toNat) w := by kernel_rfl
theorem hx_str (w : World) : (typeStr 21).run Tryz.prog w = .ok "int32" w := by kernel_rfl

/-- What fmt.Sprintf is asked. -/
def hexAsk (c : Int) : List (List UInt8) := [hexFormat, hx_shape, digits 8 (c % 18446744073709551616).toNat]

set_option maxHeartbeats 800000 in
theorem hex_error (F : Interp) (c : Int) (w : World) (hF : F.answers w.tape) (h0 : 0 ≤ c) (h1 : c ≤ 255) :
    Calls Tryz.prog 191 #[.int .u8 c] w fun e w' => e = .returned (.string (FmtStop.textOf (F "fmt.Sprintf" (hexAsk c) 0))) ∧ w' = (w.alloc (.cells #[.iface 21 (.int .i32 c)] 20)).drew := by
  have hF' := answers_open hF
  have q1 := hx_call
  have q2 := hx_guard
  have q3 := hx_fmt
  have q4 := hx_fmtr
  have q5 := hx_op
  have q6 := hx_str
  go_enter Tryz.func191, Tryz.ntmps191
  go_wp2
  go_ret
  exact ⟨rfl, rfl⟩
end Go.Proofs.YtjmahgefijncaaaGreatFmt

