/- Values written as '#04..': the hexadecimal digits of an octet string in BER. -/
import Derived.Test.YtjmahgefijncaaaGreatFmtQ31
import Derived.Test.YtjmahgefijncaaaGreatFmtQ6
import Derived.Test.YtjmahgefijncaaaGreatFmtQ34
import Derived.Test.YtjmahgefijncaaaGreatFmtQ29
import Derived.Test.YtjmahgefijncaaaGreatFmtQ11
import Derived.Test.YtjmahgefijncaaaGreatFmtQ9
import Derived.Test.YtjmahgefijncaaaGreatFmtQ1
import Derived.Test.YtjmahgefijncaaaGreatFmtQ32
import Derived.Deep.OwnRows
import Derived.Deep.QuietTactic
import Derived.BigQuiet
import Derived.BigRegion
import Derived.Deep.RegionLaw
set_option linter.unusedVariables false
set_option linter.unusedSimpArgs false
namespace Go.Proofs.YtjmahgefijncaaaGreatFmt
open Go Go.RowKit

/-- The octet string that a text of hexadecimal digits holds: tag, length (below 128), contents. -/
def octVal (t : List UInt8) : Option (List UInt8) :=
  match Lib.Hx.decode t with
  | (4 :: n :: v, .ok) => if n.toNat = v.length ∧ v.length < 128 then some v else none
  | _ => none
def hashVal (l : List UInt8) : Option (List UInt8) := if l[0]? = some 35 then octVal (l.drop 1) else Nm.decode l

theorem octVal_form {t v : List UInt8} (h : octVal t = some v) : ∃ n : UInt8, Lib.Hx.decode t = (4 :: n :: v, .ok) ∧ n.toNat = v.length ∧ v.length < 128 := by
  unfold octVal at h
  split at h
  · rename_i n u hd
    split at h
    · rename_i hc
      obtain rfl := Option.some.inj h
      exact ⟨n, hd, hc.1, hc.2⟩
    · cases h
  · cases h

theorem hexB_dec : ∀ c : Nat, c < 256 → (match NT.hexB (UInt8.ofNat c) with | [p, q] => decide (Lib.Hx.v p ≤ 15 ∧ Lib.Hx.v q ≤ 15 ∧ Lib.Hx.v p * 16 + Lib.Hx.v q = c) | _ => false) = true := by decide +kernel
theorem decode_hexB (c : UInt8) (r : List UInt8) : Lib.Hx.decode (NT.hexB c ++ r) = (c :: (Lib.Hx.decode r).1, (Lib.Hx.decode r).2) := by
  have h := hexB_dec c.toNat c.toNat_lt
  rw [UInt8.ofNat_toNat] at h
  have e : NT.hexB c = [(NT.hexB c)[0]!, (NT.hexB c)[1]!] := rfl
  generalize (NT.hexB c)[0]! = p at e
  generalize (NT.hexB c)[1]! = q at e
  rw [e] at h ⊢
  simp only [decide_eq_true_eq] at h
  obtain ⟨h1, h2, h3⟩ := h
  show Lib.Hx.decode (p :: q :: r) = _
  rw [Lib.Hx.decode_two, if_neg (by omega), if_neg (by omega), h3, UInt8.ofNat_toNat]
theorem decode_hexs : ∀ l : List UInt8, Lib.Hx.decode (l.flatMap NT.hexB) = (l, .ok)
  | [] => Lib.Hx.decode_nil
  | c :: r => by
    rw [List.flatMap_cons, decode_hexB, decode_hexs r]
theorem octVal_hash (v : List UInt8) (h : v.length < 128) : octVal ((NT.hashText v).drop 1) = some v := by
  have e : (NT.hashText v).drop 1 = ((4 : UInt8) :: v.length.toUInt8 :: v).flatMap NT.hexB := by
    simp only [NT.hashText, List.flatMap_cons]
    rfl
  unfold octVal
  rw [e, decode_hexs]
  have : v.length.toUInt8.toNat = v.length := by
    show v.length % 256 = v.length
    omega
  simp only [this, true_and]
  rw [if_pos h]
theorem hash_ok (st : Nat → UInt8) : NT.ValOK hashVal st :=
  ⟨fun t h => by unfold hashVal; rw [if_neg h], fun _ v h => by
    unfold hashVal
    rw [if_pos (by simp [NT.hashText])]
    exact octVal_hash v h⟩

/-- bytes.NewBuffer. -/
theorem newbuf_any (p : Option Addr) (n c : Nat) (w : World) :
    Calls Tryz.prog 98 #[.slice p n c] w fun e w' => e = .returned (.pointer (some ⟨w.heap.size, 0, none⟩)) ∧ w.alloc (.cells #[.slice p n c, .int .i64 0, .int .i8 0] 183) = w' := by
  go_enter Tryz.func98, Tryz.ntmps98
  go_wp2
  go_ret
  exact ⟨rfl, rfl⟩

/-- Len of a buffer that is read to its end. -/
theorem len_end_buf (w : World) (R A : Nat) (l : List UInt8) (h : Rd w R A l l.length) :
    Calls Tryz.prog 100 #[.pointer (some ⟨R, 0, none⟩)] w fun e w' => e = .returned (.int .i64 0) ∧ Same w w' := by
  obtain ⟨m, cap, hm, hb⟩ : ∃ (m cap : Nat), m ≤ 1000000000 ∧ ∃ (pr : Int), w.heap[R]? = some (.cells #[.slice (some ⟨A, 0, none⟩) m cap, .int .i64 m, .int .i8 pr] 183 (0, 0)) := by
    have := h.len
    rcases h.blk with ⟨cap, pr, _, hb⟩ | ⟨_, cap, pr, hb⟩
    · exact ⟨_, cap, by omega, pr, hb⟩
    · exact ⟨0, cap, by omega, pr, hb⟩
  obtain ⟨pr, hb⟩ := hb
  have c0 : w.cell? ⟨R, 0, none⟩ = some (.slice (some ⟨A, 0, none⟩) m cap) := blockCell hb 0
  have c1 : w.cell? ⟨R, 1, none⟩ = some (.int .i64 m) := blockCell hb 1
  clear hb h
  go_enter Tryz.func100, Tryz.ntmps100
  go_wp2
  go_quiet (fail)
  go_wp2
  go_ret
  exact ⟨by simp, (Same.refl w).drewN _⟩

/-- ReadPacket of an octet string that is all there is. -/
theorem read_oct (N : Nat) (w : World) (R A : Nat) (n : UInt8) (v l : List UInt8) (hlv : l = 4 :: n :: v) (h : Rd w R A l 0) (hE : Env N w) (hN : N ≤ R) (hn : n.toNat = v.length) (hv : v.length < 128) :
    Calls Tryz.prog 99 #[.iface 157 (.pointer (some ⟨R, 0, none⟩))] w fun e w' => (∃ q, e = .returned (.tuple #[.pointer (some ⟨q, 0, none⟩), .nilIface]) ∧ Tree w' q (.mk 0 false 4 v [])) ∧
      Rd w' R A l l.length ∧ Keep w.heap.size R w w' := by
  have hh : Ber.header (l.drop 0) = some (0, false, 4, some v.length, v) := by
    subst hlv
    have h1 : Ber.lenOf (n :: v) = some (some v.length, v) := by
      simp only [Ber.lenOf, hn]
      rw [if_neg (by omega), if_neg (by omega), if_pos hv]
    simp [Ber.header, Ber.ident, h1]
  have hp : Calls Tryz.prog 110 #[.iface 157 (.pointer (some ⟨R, 0, none⟩)), .int .i64 (0 : Nat)] w fun e w' => PackOut N w.heap.size R A l 0 (.ok (.mk 0 false 4 v []) []) e w' ∧ Keep w.heap.size R w w' := by
    rcases Nat.eq_zero_or_pos v.length with h0 | h0
    · obtain rfl : v = [] := List.length_eq_zero_iff.1 h0
      exact pack_zero N w R A _ 0 h hE hN 0 (by omega) 0 4 [] hh (by rfl)
    · have := pack_some N w R A _ 0 h hE hN 0 (by omega) 0 4 v.length v hh (by rfl) h0 (by omega) (Nat.le_refl _)
      rw [List.take_length, List.drop_length] at this
      exact this
  have HP := Lib.hid hp
  clear hp hh h hE
  go_enter Tryz.func99, Tryz.ntmps99
  go_wp2_with fail
  refine HP.out.mono ?_
  rintro e w1 ⟨hpo, hk⟩
  obtain ⟨q, k, rfl, _, hst, hr, hrest⟩ := hpo
  have hkl : l.length = 0 + k := by
    have h1 := hr.pos
    have h2 := congrArg List.length hrest
    rw [List.length_drop, List.length_nil] at h2
    omega
  have hend : Rd w1 R A l l.length := by rw [← hkl] at hr; exact hr
  have HF := Lib.hid (And.intro hst.now (And.intro hend hk))
  clear hst hr hrest hkl hend hk HP
  go_wp2_with fail
  go_ret2
  exact ⟨⟨q, rfl, HF.out.1⟩, HF.out.2⟩

/-- hex.DecodeString of digits in pairs. -/
theorem hexs_some (t l : List UInt8) (hd : Lib.Hx.decode t = (l, .ok)) (ht : t.length < 100000000) (w : World) (ev : Value) (hE : w.cell? ⟨1, 0, none⟩ = some ev) :
    Calls Tryz.prog 97 #[.string (Nm.bs t)] w fun e w' => ∃ cap, e = .returned (.tuple #[.slice (some ⟨w.heap.size, 0, none⟩) l.length cap, .nilIface]) ∧ l.length ≤ cap ∧
      (∀ j v, (Lib.byteCells l)[j]? = some v → w'.cell? ⟨w.heap.size, j, none⟩ = some v) ∧ Below w.heap.size w w' := by
  have htl : (Nm.bs t).data.toList = t := rfl
  have h := Tryz.hex_DecodeString (Nm.bs t) w ev hE (by rw [bs_size]; omega)
  have hle := Lib.Hx.decode_len t
  rw [htl, hd] at h
  rw [hd] at hle
  have hle : l.length ≤ t.length / 2 := hle
  have hsz := bs_size t
  refine h.mono ?_
  rintro e w1 ⟨rfl, hrow, hb⟩
  refine ⟨_, rfl, by rw [hsz]; exact hle, fun j v hj => ?_, hb⟩
  simp only [Lib.byteCells, List.getElem?_map, Option.map_eq_some_iff] at hj
  obtain ⟨b, hj, rfl⟩ := hj
  obtain ⟨hjl, rfl⟩ := List.getElem?_eq_some_iff.1 hj
  refine (hrow.cell (i := j) (by rw [hsz]; exact Nat.lt_of_lt_of_le hjl hle)).trans ?_
  unfold Lib.Hx.rowP
  rw [if_pos ⟨Nat.zero_le _, by rw [Nat.zero_add]; exact hjl⟩, Nat.sub_zero]
  show some (Value.int .u8 ((l[j]?.getD 0).toNat : Int)) = _
  rw [hj]
  rfl

set_option maxRecDepth 100000 in
set_option maxHeartbeats 8000000 in
/-- decodeEncodedString. -/
theorem enc_some (t v : List UInt8) (hl : t.length < 100000000) (hv : octVal t = some v) (w : World) (ev : Value) (hE : w.cell? ⟨1, 0, none⟩ = some ev) (hN : Env w.heap.size w) :
    Calls Tryz.prog 86 #[.string (Nm.bs t)] w fun e w' => e = .returned (.tuple #[.string (Nm.bs v), .nilIface]) ∧ Below w.heap.size w w' := by
  obtain ⟨n, hd, hn, hv128⟩ := octVal_form hv
  obtain ⟨l, hlv⟩ : ∃ l, l = 4 :: n :: v := ⟨_, rfl⟩
  rw [← hlv] at hd
  have hm : l.length ≤ 130 := by rw [hlv]; simp; omega
  have HD := Lib.hid (hexs_some t l hd hl w ev hE)
  have HLV := Lib.hid hlv
  have HENV := Lib.hid hN
  have HN := Lib.hid (And.intro hn hv128)
  clear hd hv hE hlv hN hn hv128
  go_enter Tryz.func86, Tryz.ntmps86
  go_wp2_with fail
  refine HD.out.mono ?_
  rintro e w1 ⟨cap, rfl, hcap, hrow, hb1⟩
  have hs1 := hb1.size
  have hAlt : l.length ≠ 0 → w.heap.size < w1.heap.size := fun h0 => by
    obtain ⟨b, r, e⟩ : ∃ b r, l = b :: r := by cases hx : l with | nil => rw [hx] at h0; simp at h0 | cons b r => exact ⟨b, r, rfl⟩
    exact World.block_lt_of_cell? w1 ⟨w.heap.size, 0, none⟩ (hrow 0 (.int .u8 b.toNat) (by rw [e]; simp [Lib.byteCells]))
  have hA1 : w.heap.size < w1.heap.size := hAlt (by rw [HLV.out]; simp)
  have HROW := Lib.hid hrow
  have HB1 := Lib.hid hb1
  clear hrow hb1 hAlt HD
  go_wp2_with fail
  refine (newbuf_any _ _ _ w1).mono ?_
  rintro e w2 ⟨rfl, hw2⟩
  have hb2 : Below w.heap.size w w2 := by rw [← hw2]; exact HB1.out.alloc hs1 _
  have hs2 : w2.heap.size = w1.heap.size + 1 := by rw [← hw2]; simp
  have hrd : Rd w2 w1.heap.size w.heap.size l 0 := by
    refine ⟨Or.inl ⟨cap, 0, hcap, by rw [← hw2]; exact heap_alloc_new _ _⟩, fun j v hj => ?_, by omega, Nat.zero_le _, by omega⟩
    rw [← hw2]
    exact cell_alloc (HROW.out j v hj) _
  have HR := Lib.hid (read_oct w.heap.size w2 w1.heap.size w.heap.size n v l HLV.out hrd (HENV.out.below hb2 (Nat.le_refl _)) hs1 HN.out.1 HN.out.2)
  have HB2 := Lib.hid hb2
  have hlt2 : w1.heap.size < w2.heap.size := by omega
  clear hrd hw2 hb2 hs2 HROW HB1 HENV
  generalize w1.heap.size = R at *
  go_wp2_with fail
  refine HR.out.mono ?_
  rintro e w3 ⟨⟨q, rfl, htree⟩, hend, hk3⟩
  have hb3 : Below w.heap.size w w3 := HB2.out.trans ((hk3.mono (Nat.le_trans hs1 (Nat.le_of_lt hlt2))).toBelow hs1)
  have HLEN := Lib.hid (len_end_buf w3 R _ l hend)
  obtain ⟨D, row, C, cp, bv, xs, _, _, hq, hbuf, _⟩ := htree
  have cD : w3.cell? ⟨q, 5, none⟩ = some (.pointer (some ⟨D, 0, none⟩)) := blockCell hq 5
  have HS := Lib.hid (fun w4 (hs : Same w3 w4) => Tryz.Buffer_String 0 D v w4 (show Lib.IsBuffer _ _ 0 D (Lib.byteCells v) w4 from (hbuf.kept (by rw [hs.heap]) (fun g _ => by rw [hs.heap])).isBuffer))
  have HB3 := Lib.hid hb3
  clear hend hk3 hb3 hq hbuf HR HB2
  go_wp2_with fail
  refine HLEN.out.mono ?_
  rintro e w4 ⟨rfl, hs4⟩
  have cD4 : w4.cell? ⟨q, 5, none⟩ = some (.pointer (some ⟨D, 0, none⟩)) := (hs4.cell _).trans cD
  have HST := Lib.hid (HS.out w4 hs4)
  have HB4 := Lib.hid (HB3.out.trans ((hs4.keep w3.heap.size w3.heap.size).toBelow (Nat.le_refl _) |>.mono HB3.out.size))
  clear cD hs4 HS HLEN
  go_wp2_with fail
  refine HST.out.mono ?_
  rintro e w5 ⟨rfl, k, rfl⟩
  go_wp2_with fail
  go_ret2
  exact ⟨rfl, ⟨HB4.out.os, HB4.out.tape, HB4.out.output, HB4.out.size, HB4.out.block⟩⟩

set_option maxRecDepth 100000 in
set_option maxHeartbeats 1000000 in
/-- setValue behind a number sign. -/
theorem value_hash (l : List UInt8) (hl : l.length < 100000000) (h35 : l[0]? = some 35) (v : List UInt8) (hv : octVal (l.drop 1) = some v) (w : World) (ev : Value) (hE : w.cell? ⟨1, 0, none⟩ = some ev) (hN : Env w.heap.size w) (A : Nat) (s0 s1 : Value)
    (hA : w.heap[A]? = some (.cells #[s0, s1] 120 (0, 0))) :
    Calls Tryz.prog 70 #[.pointer (some ⟨A, 0, none⟩), .string (Nm.bs l)] w fun e w' => e = .returned .nilIface ∧ w'.heap[A]? = some (.cells #[s0, .string (Nm.bs v)] 120 (0, 0)) ∧ Keep w.heap.size A w w' := by
  obtain ⟨t, ht⟩ : ∃ t, t = l.drop 1 := ⟨_, rfl⟩
  have htl : t.length < 100000000 := by rw [ht]; simp; omega
  rw [← ht] at hv
  have hC := Lib.hid (enc_some t v htl hv w ev hE hN)
  have hAlt := blockLt hA
  have HA := Lib.hid hA
  have hsz := bs_size l
  have hpos : 0 < l.length := by
    rcases Nat.eq_zero_or_pos l.length with h | h
    · rw [List.getElem?_eq_none (by omega)] at h35; cases h35
    · exact h
  have hlt : 0 < (Nm.bs l).size := by omega
  have hget : ((Nm.bs l)[0]'hlt).toNat = 35 := by
    rw [bs_get]
    have := List.getElem?_eq_some_iff.1 h35
    obtain ⟨_, e⟩ := this
    rw [e]; rfl
  have hsl := bs_slice l 1 l.length (Nat.le_refl _)
  rw [List.take_length, ← ht] at hsl
  have h1 : ¬ l.length < 1 := by omega
  clear hA hv hE hN h35 ht htl
  go_enter Tryz.func70, Tryz.ntmps70
  go_wp2_with fail
  refine hC.out.mono ?_
  rintro e w1 ⟨rfl, hb⟩
  have hA1 := (hb.block A hAlt).trans HA.out
  have c1 : w1.cell? ⟨A, 1, none⟩ = some s1 := blockCell hA1 1
  have f1 := blockFrozen hA1 1
  have hE1 := blockSet hA1 1 (.string (Nm.bs v))
  have hk : Keep w.heap.size A w (w1.setCell ⟨A, 1, none⟩ (.string (Nm.bs v))) := (Keep.ofBelow hb).setCell (p := ⟨A, 1, none⟩) (Or.inr rfl) _
  have HE := Lib.hid (And.intro hE1 hk)
  clear hA1 hE1 hk hb
  go_wp2_with fail
  go_ret
  exact ⟨rfl, by simpa using HE.out.1, HE.out.2⟩

theorem Env.mono {N N' : Nat} {w : World} (h : Env N w) (hN : N ≤ N') : Env N' w := by
  obtain ⟨⟨a, h1, h2, h3⟩, ⟨b, g1, g2, g3⟩, ⟨f1, f2⟩⟩ := h
  exact ⟨⟨a, h1, by omega, h3⟩, ⟨b, g1, by omega, g3⟩, by omega, by omega⟩
theorem hash_works (w0 : World) (hN : Env w0.heap.size w0) : ValAt w0 hashVal := by
  intro l hl v hv w hb ev hE A s0 s1 hA
  unfold hashVal at hv
  split at hv
  · rename_i h35
    have hNw : Env w.heap.size w := by
      have h := hN.below hb (Nat.le_refl _)
      exact h.mono hb.size
    exact value_hash l hl h35 v hv w ev hE hNw A s0 s1 hA
  · exact value_some l hl (by assumption) v hv w ev hE A s0 s1 hA
end Go.Proofs.YtjmahgefijncaaaGreatFmt

/- decodeEncodedString and setValue, whatever they read. -/
namespace Go.Proofs.YtjmahgefijncaaaGreatFmt
open Go Go.RowKit Go.Extern.Stop Go.Stop Go.Extern

def HashR (t v : List UInt8) : Prop := ∃ l, Lib.Hx.decode t = (l, .ok) ∧ ∃ p, Ber.readR (2 * l.length + 1) 0 l (.ok p []) ∧ v = Ber.body p
def HashE (t : List UInt8) : Prop := (Lib.Hx.decode t).2 ≠ .ok ∨ ∃ l, Lib.Hx.decode t = (l, .ok) ∧ (Ber.readR (2 * l.length + 1) 0 l .err ∨ ∃ p rest, rest ≠ [] ∧ Ber.readR (2 * l.length + 1) 0 l (.ok p rest))
def AnyR (l v : List UInt8) : Prop := if l[0]? = some 35 then HashR (l.drop 1) v else Nm.decode l = some v
def AnyE (l : List UInt8) : Prop := if l[0]? = some 35 then HashE (l.drop 1) else Nm.decode l = none

theorem len_buf (w : World) (R A : Nat) (l : List UInt8) (k : Nat) (h : Rd w R A l k) :
    Calls Tryz.prog 100 #[.pointer (some ⟨R, 0, none⟩)] w fun e w' => e = .returned (.int .i64 ((l.length - k : Nat) : Int)) ∧ Same w w' := by
  by_cases hk : k = l.length
  · subst hk
    rw [Nat.sub_self]
    exact len_end_buf w R A l h
  · have hpos := h.pos
    have hlen := h.len
    obtain ⟨cap, pr, hb⟩ : ∃ (cap : Nat) (pr : Int), w.heap[R]? = some (.cells #[.slice (some ⟨A, 0, none⟩) l.length cap, .int .i64 k, .int .i8 pr] 183 (0, 0)) := by
      rcases h.blk with ⟨cap, pr, _, hb⟩ | ⟨h0, _⟩
      · exact ⟨cap, pr, hb⟩
      · exact absurd h0 (by omega)
    have c0 : w.cell? ⟨R, 0, none⟩ = some (.slice (some ⟨A, 0, none⟩) l.length cap) := blockCell hb 0
    have c1 : w.cell? ⟨R, 1, none⟩ = some (.int .i64 k) := blockCell hb 1
    have e1 : ((l.length - k : Nat) : Int) = (l.length : Int) - (k : Int) := by omega
    have E1 := Lib.hid e1
    clear hb h e1
    go_enter Tryz.func100, Tryz.ntmps100
    go_wp2
    go_quiet (fail)
    go_wp2
    go_ret
    exact ⟨by rw [E1.out]; first | rfl | simp, (Same.refl w).drewN _⟩

/-- hex.DecodeString of any text. -/
theorem hexs_any (t : List UInt8) (ht : t.length < 100000000) (w : World) (ev : Value) (hE : w.cell? ⟨1, 0, none⟩ = some ev) :
    Calls Tryz.prog 97 #[.string (Nm.bs t)] w fun e w' => ∃ cap, e = .returned (.tuple #[.slice (some ⟨w.heap.size, 0, none⟩) (Lib.Hx.decode t).1.length cap, Lib.Hx.errVal 178 ev (Lib.Hx.decode t).2]) ∧ (Lib.Hx.decode t).1.length ≤ cap ∧
      (∀ j v, (Lib.byteCells (Lib.Hx.decode t).1)[j]? = some v → w'.cell? ⟨w.heap.size, j, none⟩ = some v) ∧ w.heap.size < w'.heap.size ∧ Below w.heap.size w w' := by
  have htl : (Nm.bs t).data.toList = t := rfl
  have h := Tryz.hex_DecodeString (Nm.bs t) w ev hE (by rw [bs_size]; omega)
  have hle := Lib.Hx.decode_len t
  rw [htl] at h
  have hsz := bs_size t
  refine h.mono ?_
  rintro e w1 ⟨rfl, hrow, hb⟩
  refine ⟨_, rfl, by rw [hsz]; exact hle, fun j v hj => ?_, hrow.lt, hb⟩
  simp only [Lib.byteCells, List.getElem?_map, Option.map_eq_some_iff] at hj
  obtain ⟨b, hj, rfl⟩ := hj
  obtain ⟨hjl, rfl⟩ := List.getElem?_eq_some_iff.1 hj
  refine (hrow.cell (i := j) (by rw [hsz]; exact Nat.lt_of_lt_of_le hjl hle)).trans ?_
  unfold Lib.Hx.rowP
  rw [if_pos ⟨Nat.zero_le _, by rw [Nat.zero_add]; exact hjl⟩, Nat.sub_zero]
  show some (Value.int .u8 (((Lib.Hx.decode t).1[j]?.getD 0).toNat : Int)) = _
  rw [hj]
  rfl

def EncOut (t : List UInt8) (w : World) (e : Ending) (w' : World) : Prop :=
  ((∃ v, HashR t v ∧ e = .returned (.tuple #[.string (Nm.bs v), .nilIface])) ∨ ∃ ev, HashE t ∧ e = .returned (.tuple #[.string ⟨#[]⟩, ev]) ∧ ErrAt 0 w.heap.size w' ev) ∧ Below w.heap.size w w'

set_option maxRecDepth 100000 in
set_option maxHeartbeats 8000000 in
/-- decodeEncodedString. -/
theorem enc_total (t : List UInt8) (hl : t.length ≤ 900) (w : World) (et : TypeId) (eu : Value) (hE : w.cell? ⟨1, 0, none⟩ = some (.iface et eu)) (hN : EnvT w.heap.size w) :
    Calls Tryz.prog 86 #[.string (Nm.bs t)] w fun e w' => EncOut t w e w' := by
  have hd := hexs_any t (by omega) w _ hE
  have hdl : (Lib.Hx.decode t).1.length ≤ t.length / 2 := Lib.Hx.decode_len t
  obtain ⟨l, st, hls⟩ : ∃ l st, Lib.Hx.decode t = (l, st) := ⟨_, _, rfl⟩
  rw [hls] at hd hdl
  have hl4 : l.length ≤ 480 := by have : l.length ≤ t.length / 2 := hdl; omega
  have HD := Lib.hid hd
  have HENV := Lib.hid hN
  have HLS := Lib.hid hls
  clear hd hE hN hls hdl
  cases st with
  | ok =>
    go_enter Tryz.func86, Tryz.ntmps86
    go_wp2_with fail
    refine HD.out.mono ?_
    rintro e w1 ⟨cap, rfl, hcap, hrow, hA1, hb1⟩
    simp only [Lib.Hx.errVal]
    have hcap : l.length ≤ cap := hcap
    have hs1 := hb1.size
    have HROW := Lib.hid hrow
    have HB1 := Lib.hid hb1
    clear hrow hb1 HD
    go_wp2_with fail
    refine (newbuf_any _ _ _ w1).mono ?_
    rintro e w2 ⟨rfl, hw2⟩
    have hb2 : Below w.heap.size w w2 := by rw [← hw2]; exact HB1.out.alloc hs1 _
    have hs2 : w2.heap.size = w1.heap.size + 1 := by rw [← hw2]; simp
    have hrd : Rd w2 w1.heap.size w.heap.size l 0 := by
      refine ⟨Or.inl ⟨cap, 0, hcap, by rw [← hw2]; exact heap_alloc_new _ _⟩, fun j v hj => ?_, by omega, Nat.zero_le _, by omega⟩
      rw [← hw2]
      exact cell_alloc (HROW.out j v hj) _
    have HR := Lib.hid (Tot.read_packet w.heap.size w2 w1.heap.size w.heap.size l hrd (HENV.out.below hb2 (Nat.le_refl _)) hs1 hl4)
    have HB2 := Lib.hid hb2
    have hlt2 : w1.heap.size < w2.heap.size := by omega
    clear hrd hw2 hb2 hs2 HROW HB1 HENV
    generalize w1.heap.size = R at *
    go_wp2_with fail
    refine HR.out.mono ?_
    rintro e w3 ⟨⟨r, hrr, ho⟩, hk3⟩
    have hb3 : Below w.heap.size w w3 := HB2.out.trans ((hk3.mono (Nat.le_trans hs1 (Nat.le_of_lt hlt2))).toBelow hs1)
    cases r with
    | bad => exact absurd ho id
    | err =>
      obtain ⟨ev1, rfl, he1⟩ := ho
      obtain ⟨a1, rfl⟩ := he1.iface
      have HB3 := Lib.hid hb3
      have HRR := Lib.hid hrr
      clear he1 hk3 hb3 hrr HR HB2
      go_wp2_with fail
      refine (new_err _ (by decide) (by decide) 0 _).mono ?_
      rintro e w4 ⟨ev2, rfl, he2, hb4⟩
      have HE2 := Lib.hid (he2.mono HB3.out.size)
      have HB4 := Lib.hid (HB3.out.trans (hb4.mono HB3.out.size))
      clear he2 hb4
      go_wp2_with fail
      go_ret2
      exact ⟨Or.inr ⟨_, Or.inr ⟨l, HLS.out, Or.inl HRR.out⟩, rfl, HE2.out⟩, HB4.out⟩
    | ok p rest =>
      obtain ⟨q, k, rfl, _, hst, hr, hrest⟩ := ho
      have htree := hst.now
      have HLEN := Lib.hid (len_buf w3 R _ l k hr)
      have hpos := hr.pos
      have HB3 := Lib.hid hb3
      have HRR := Lib.hid hrr
      have HREST := Lib.hid hrest
      have HT := Lib.hid htree
      clear hk3 hb3 hrr HR HB2 hst hr hrest htree
      go_wp2_with fail
      refine HLEN.out.mono ?_
      rintro e w4 ⟨rfl, hs4⟩
      have HB4 := Lib.hid (HB3.out.trans ((hs4.keep w3.heap.size w3.heap.size).toBelow (Nat.le_refl _) |>.mono HB3.out.size))
      by_cases hkl : k = l.length
      · have hz : ((l.length - k : Nat) : Int) = 0 := by omega
        rw [hz]
        obtain ⟨pc, pb, pt, pd, pi⟩ := p
        have htree := HT.out
        unfold Tot.Tree at htree
        obtain ⟨D, row, C, cp, val, bv, xs, _, _, hq, hbuf, _⟩ := htree
        have cD : w3.cell? ⟨q, 5, none⟩ = some (.pointer (some ⟨D, 0, none⟩)) := blockCell hq 5
        have cD4 : w4.cell? ⟨q, 5, none⟩ = some (.pointer (some ⟨D, 0, none⟩)) := (hs4.cell _).trans cD
        have HST := Lib.hid (Tryz.Buffer_String 0 D (Ber.body (.mk pc pb pt pd pi)) w4 (show Lib.IsBuffer _ _ 0 D (Lib.byteCells (Ber.body (.mk pc pb pt pd pi))) w4 from (hbuf.kept (by rw [hs4.heap]) (fun g _ => by rw [hs4.heap])).isBuffer))
        have hr0 : rest = [] := by rw [HREST.out, hkl, List.drop_length]
        have HHR : Hid (HashR t (Ber.body (.mk pc pb pt pd pi))) := Lib.hid ⟨l, HLS.out, _, by rw [← hr0]; exact HRR.out, rfl⟩
        clear cD hs4 HLEN hq hbuf hr0 hz
        go_wp2_with fail
        refine HST.out.mono ?_
        rintro e w5 ⟨rfl, k, rfl⟩
        go_wp2_with fail
        go_ret2
        exact ⟨Or.inl ⟨_, HHR.out, rfl⟩, ⟨HB4.out.os, HB4.out.tape, HB4.out.output, HB4.out.size, HB4.out.block⟩⟩
      · have hz : (((l.length - k : Nat) : Int) != 0) = true := by rw [bne_iff_ne]; omega
        have hne : rest ≠ [] := by
          rw [HREST.out]
          intro h
          have := congrArg List.length h
          rw [List.length_drop, List.length_nil] at this
          omega
        have HHE : Hid (HashE t) := Lib.hid (Or.inr ⟨l, HLS.out, Or.inr ⟨p, rest, hne, HRR.out⟩⟩)
        clear hs4 HLEN hne
        go_wp2_with fail
        refine (new_err _ (by decide) (by decide) 0 _).mono ?_
        rintro e w5 ⟨ev2, rfl, he2, hb5⟩
        have HE2 := Lib.hid (he2.mono HB4.out.size)
        have HB5 := Lib.hid (HB4.out.trans (hb5.mono HB4.out.size))
        clear he2 hb5
        go_wp2_with fail
        go_ret2
        exact ⟨Or.inr ⟨_, HHE.out, rfl, HE2.out⟩, HB5.out⟩
  | _ =>
    all_goals
      have HHE : Hid (HashE t) := Lib.hid (Or.inl (by rw [HLS.out]; simp))
      go_enter Tryz.func86, Tryz.ntmps86
      go_wp2_with fail
      refine HD.out.mono ?_
      rintro e w1 ⟨cap, rfl, hcap, hrow, hA1, hb1⟩
      simp only [Lib.Hx.errVal]
      have HB1 := Lib.hid hb1
      clear hrow hb1 HD
      go_wp2_with fail
      refine (new_err _ (by decide) (by decide) 0 _).mono ?_
      rintro e w4 ⟨ev2, rfl, he2, hb4⟩
      have HE2 := Lib.hid (he2.mono HB1.out.size)
      have HB4 := Lib.hid (HB1.out.trans (hb4.mono HB1.out.size))
      clear he2 hb4
      go_wp2_with fail
      go_ret2
      exact ⟨Or.inr ⟨_, HHE.out, rfl, HE2.out⟩, HB4.out⟩

set_option maxRecDepth 100000 in
set_option maxHeartbeats 4000000 in
/-- setValue behind a number sign. -/
theorem value_sharp (l : List UInt8) (hl : l.length ≤ 900) (h35 : l[0]? = some 35) (w : World) (et : TypeId) (eu : Value) (hE : w.cell? ⟨1, 0, none⟩ = some (.iface et eu)) (hN : EnvT w.heap.size w) (A : Nat) (s0 s1 : Value)
    (hA : w.heap[A]? = some (.cells #[s0, s1] 120 (0, 0))) :
    Calls Tryz.prog 70 #[.pointer (some ⟨A, 0, none⟩), .string (Nm.bs l)] w fun e w' => (∃ rv, e = .returned rv ∧ ((rv = .nilIface ∧ ∃ v, HashR (l.drop 1) v ∧ w'.heap[A]? = some (.cells #[s0, .string (Nm.bs v)] 120 (0, 0))) ∨ (HashE (l.drop 1) ∧ ErrAt 0 w.heap.size w' rv))) ∧ Keep w.heap.size A w w' := by
  obtain ⟨t, ht⟩ : ∃ t, t = l.drop 1 := ⟨_, rfl⟩
  have htl : t.length ≤ 900 := by rw [ht]; simp; omega
  rw [← ht]
  have hC := Lib.hid (enc_total t htl w et eu hE hN)
  have hAlt := blockLt hA
  have HA := Lib.hid hA
  have hsz := bs_size l
  have hpos : 0 < l.length := by
    rcases Nat.eq_zero_or_pos l.length with h | h
    · rw [List.getElem?_eq_none (by omega)] at h35; cases h35
    · exact h
  have hlt : 0 < (Nm.bs l).size := by omega
  have hget : ((Nm.bs l)[0]'hlt).toNat = 35 := by
    rw [bs_get]
    have := List.getElem?_eq_some_iff.1 h35
    obtain ⟨_, e⟩ := this
    rw [e]; rfl
  have hsl := bs_slice l 1 l.length (Nat.le_refl _)
  rw [List.take_length, ← ht] at hsl
  have h1 : ¬ l.length < 1 := by omega
  clear hA hE hN h35 ht htl
  go_enter Tryz.func70, Tryz.ntmps70
  go_wp2_with fail
  refine hC.out.mono ?_
  rintro e w1 ⟨ho, hb⟩
  rcases ho with ⟨v, hv, rfl⟩ | ⟨ev1, hv, rfl, he⟩
  · have hA1 := (hb.block A hAlt).trans HA.out
    have c1 : w1.cell? ⟨A, 1, none⟩ = some s1 := blockCell hA1 1
    have f1 := blockFrozen hA1 1
    have hE1 := blockSet hA1 1 (.string (Nm.bs v))
    have hk : Keep w.heap.size A w (w1.setCell ⟨A, 1, none⟩ (.string (Nm.bs v))) := (Keep.ofBelow hb).setCell (p := ⟨A, 1, none⟩) (Or.inr rfl) _
    have HE := Lib.hid (And.intro hE1 hk)
    have HV := Lib.hid hv
    clear hA1 hE1 hk hb hv
    go_wp2_with fail
    go_ret
    exact ⟨⟨_, rfl, Or.inl ⟨rfl, v, HV.out, by simpa using HE.out.1⟩⟩, HE.out.2⟩
  · obtain ⟨a, rfl⟩ := he.iface
    have HE := Lib.hid he
    have HB := Lib.hid (Keep.ofBelow (R := A) hb)
    have HV := Lib.hid hv
    clear he hb hv
    go_wp2_with fail
    go_ret
    exact ⟨⟨_, rfl, Or.inr ⟨HV.out, HE.out⟩⟩, HB.out⟩

theorem EnvT.mono {N N' : Nat} {w : World} (h : EnvT N w) (hN : N ≤ N') : EnvT N' w := ⟨h.env.mono hN, h.powAt hN, fun w' h' => h.utv w' (h'.mono hN)⟩

/-- setValue of any text. -/
theorem val_total (F : Interp) (w0 : World) (et : TypeId) (eu : Value) (hE0 : w0.cell? ⟨1, 0, none⟩ = some (.iface et eu)) (hN : EnvT w0.heap.size w0) : ValT F w0 AnyR AnyE := by
  intro l hl w hb hF ev hE A s0 s1 hA
  have hev : w.cell? ⟨1, 0, none⟩ = some (.iface et eu) := (hb.cell (World.block_lt_of_cell? w0 ⟨1, 0, none⟩ hE0)).trans hE0
  by_cases h35 : l[0]? = some 35
  · have hw := (hN.below hb (Nat.le_refl _)).mono hb.size
    refine (value_sharp l hl h35 w et eu hev hw A s0 s1 hA).mono fun e w' ⟨h1, h2⟩ => ⟨?_, h2⟩
    obtain ⟨rv, h0, h1⟩ := h1
    rcases h1 with ⟨h3, v, h4, h5⟩ | ⟨h3, h4⟩
    · exact ⟨rv, h0, Or.inl ⟨h3, v, by unfold AnyR; rw [if_pos h35]; exact h4, h5⟩⟩
    · exact ⟨rv, h0, Or.inr ⟨by unfold AnyE; rw [if_pos h35]; exact h3, h4⟩⟩
  · refine (value_total F l hl h35 w hF ev hE A s0 s1 hA).mono fun e w' ⟨h1, h2⟩ => ⟨?_, h2⟩
    cases hd : Nm.decode l with
    | none =>
      rw [hd] at h1
      obtain ⟨ev, h3, h4⟩ := h1
      exact ⟨ev, h3, Or.inr ⟨by unfold AnyE; rw [if_neg h35]; exact hd, h4⟩⟩
    | some v =>
      rw [hd] at h1
      exact ⟨_, h1.1, Or.inl ⟨rfl, v, by unfold AnyR; rw [if_neg h35]; exact hd, h1.2⟩⟩
end Go.Proofs.YtjmahgefijncaaaGreatFmt

/- What the comparisons of names say, in plain Lean. -/
namespace Go.Proofs.YtjmahgefijncaaaGreatFmt.NC
open Go

/-- What is compared of a part. -/
def key (fold : Bool) (p : Nm.Part) : Nm.Part := (low p.1, if fold then low p.2 else p.2)
/-- Each of the first list has one of the second for itself. -/
def hasAll : List Nm.Part → List Nm.Part → Bool
  | [], _ => true
  | a :: r, m => if a ∈ m then hasAll r (m.erase a) else false

theorem hasAll_perm : ∀ (a m : List Nm.Part), a.length = m.length → (hasAll a m = true ↔ a.Perm m)
  | [], m, h => by
    have : m = [] := List.length_eq_zero_iff.1 (by simpa using h.symm)
    subst this; simp [hasAll]
  | x :: a, m, h => by
    rw [hasAll]
    split
    · rename_i hx
      have hl : a.length = (m.erase x).length := by rw [List.length_erase_of_mem hx]; simp at h; omega
      rw [hasAll_perm a _ hl]
      have hp := List.perm_cons_erase hx
      constructor
      · intro h1; exact (h1.cons x).trans hp.symm
      · intro h1; exact (h1.trans hp).cons_inv
    · rename_i hx
      simp only [Bool.false_eq_true, false_iff]
      intro h1
      exact hx (h1.mem_iff.1 (List.mem_cons_self ..))

def rdnEq (fold : Bool) (a b : List Nm.Part) : Bool := a.length == b.length && (hasAll (b.map (key fold)) (a.map (key fold)) && hasAll (a.map (key fold)) (b.map (key fold)))
theorem rdnEq_iff (fold : Bool) (a b : List Nm.Part) : rdnEq fold a b = true ↔ (a.map (key fold)).Perm (b.map (key fold)) := by
  unfold rdnEq
  by_cases h : a.length = b.length
  · have e : (a.length == b.length) = true := by simpa using h
    rw [e, Bool.true_and, Bool.and_eq_true, hasAll_perm _ _ (by simp [h]), hasAll_perm _ _ (by simp [h])]
    exact ⟨fun h => h.2, fun h => ⟨h.symm, h⟩⟩
  · have e : (a.length == b.length) = false := by simpa using h
    rw [e, Bool.false_and]
    simp only [Bool.false_eq_true, false_iff]
    intro hp
    exact h (by simpa using hp.length_eq)

/-- The two names are the same, one relative name after the other. -/
def namesEq (fold : Bool) : Nm.Name → Nm.Name → Bool
  | [], [] => true
  | a :: n, b :: m => rdnEq fold a b && namesEq fold n m
  | _, _ => false
def above (fold : Bool) (n m : Nm.Name) : Bool := decide (n.length < m.length) && namesEq fold n (m.drop (m.length - n.length))

theorem namesEq_len {fold : Bool} : ∀ {n m : Nm.Name}, namesEq fold n m = true → n.length = m.length
  | [], [], _ => rfl
  | [], _ :: _, h => by simp [namesEq] at h
  | _ :: _, [], h => by simp [namesEq] at h
  | a :: n, b :: m, h => by
    rw [namesEq, Bool.and_eq_true] at h
    simp [namesEq_len h.2]
theorem rdnEq_refl (fold : Bool) (a : List Nm.Part) : rdnEq fold a a = true := (rdnEq_iff ..).2 (List.Perm.refl _)
theorem namesEq_refl (fold : Bool) : ∀ n, namesEq fold n n = true
  | [] => rfl
  | a :: n => by rw [namesEq, rdnEq_refl, namesEq_refl fold n]; rfl
/-- Where two names of one length differ. -/
theorem namesEq_ne {fold : Bool} : ∀ {n m : Nm.Name} {i : Nat} {a b : List Nm.Part}, n[i]? = some a → m[i]? = some b → rdnEq fold a b = false → namesEq fold n m = false
  | [], _, i, a, b, h, _, _ => by simp at h
  | _ :: _, [], _, _, _, _, _, _ => rfl
  | x :: n, y :: m, 0, a, b, h1, h2, h3 => by
    simp only [List.getElem?_cons_zero, Option.some.injEq] at h1 h2
    subst h1 h2
    rw [namesEq, h3, Bool.false_and]
  | x :: n, y :: m, i + 1, a, b, h1, h2, h3 => by
    rw [namesEq, namesEq_ne (by simpa using h1) (by simpa using h2) h3, Bool.and_false]
theorem namesEq_false {fold : Bool} {n m : Nm.Name} (h : n.length ≠ m.length) : namesEq fold n m = false := by
  cases hh : namesEq fold n m with
  | false => rfl
  | true => exact absurd (namesEq_len hh) h
/-- As far as i relative names were the same. -/
theorem namesEq_all {fold : Bool} : ∀ {n m : Nm.Name}, n.length = m.length → (∀ (i : Nat) (a b : List Nm.Part), n[i]? = some a → m[i]? = some b → rdnEq fold a b = true) → namesEq fold n m = true
  | [], [], _, _ => rfl
  | [], _ :: _, h, _ => by simp at h
  | _ :: _, [], h, _ => by simp at h
  | x :: n, y :: m, h, hh => by
    rw [namesEq, hh 0 x y rfl rfl, namesEq_all (by simpa using h) (fun i a b h1 h2 => hh (i + 1) a b (by simpa using h1) (by simpa using h2))]; rfl
theorem namesEq_symm {fold : Bool} : ∀ {n m : Nm.Name}, namesEq fold n m = true → namesEq fold m n = true
  | [], [], _ => rfl
  | [], _ :: _, h => by simp [namesEq] at h
  | _ :: _, [], h => by simp [namesEq] at h
  | a :: n, b :: m, h => by
    rw [namesEq, Bool.and_eq_true] at h ⊢
    exact ⟨(rdnEq_iff ..).2 ((rdnEq_iff ..).1 h.1).symm, namesEq_symm h.2⟩
theorem namesEq_trans {fold : Bool} : ∀ {n m o : Nm.Name}, namesEq fold n m = true → namesEq fold m o = true → namesEq fold n o = true
  | [], [], [], _, _ => rfl
  | [], _ :: _, _, h, _ => by simp [namesEq] at h
  | _ :: _, [], _, h, _ => by simp [namesEq] at h
  | _, [], _ :: _, _, h => by simp [namesEq] at h
  | _, _ :: _, [], _, h => by simp [namesEq] at h
  | a :: n, b :: m, c :: o, h, k => by
    rw [namesEq, Bool.and_eq_true] at h k ⊢
    exact ⟨(rdnEq_iff ..).2 (((rdnEq_iff ..).1 h.1).trans ((rdnEq_iff ..).1 k.1)), namesEq_trans h.2 k.2⟩
theorem rdnEq_fold {a b : List Nm.Part} (h : rdnEq false a b = true) : rdnEq true a b = true := by
  rw [rdnEq_iff] at *
  have e : ∀ l : List Nm.Part, l.map (key true) = (l.map (key false)).map (fun p => (p.1, low p.2)) := fun l => by
    rw [List.map_map]; rfl
  rw [e a, e b]
  exact h.map _
theorem namesEq_fold : ∀ {n m : Nm.Name}, namesEq false n m = true → namesEq true n m = true
  | [], [], _ => rfl
  | [], _ :: _, h => by simp [namesEq] at h
  | _ :: _, [], h => by simp [namesEq] at h
  | a :: n, b :: m, h => by
    rw [namesEq, Bool.and_eq_true] at h ⊢
    exact ⟨rdnEq_fold h.1, namesEq_fold h.2⟩
end Go.Proofs.YtjmahgefijncaaaGreatFmt.NC

/- Names with pointers in memory, as they are read; the comparison of two parts. -/
namespace Go.Proofs.YtjmahgefijncaaaGreatFmt
open Go Go.RowKit

/-- The slice v holds pointers to parts. -/
def PtrParts (w : World) (v : Value) (ps : List Nm.Part) : Prop :=
  ∃ o cap, v = .slice o ps.length cap ∧ ∀ (j : Nat) (p : Nm.Part), ps[j]? = some p → ∃ b off a, o = some ⟨b, off, none⟩ ∧ w.cell? ⟨b, off + j, none⟩ = some (.pointer (some ⟨a, 0, none⟩)) ∧ PartAt w a p
/-- The block r is a relative name. -/
def RdnIn (w : World) (r : Nat) (ps : List Nm.Part) : Prop := ∃ v, w.heap[r]? = some (.cells #[v] 118 (0, 0)) ∧ PtrParts w v ps
def PtrRdns (w : World) (v : Value) (n : Nm.Name) : Prop :=
  ∃ o cap, v = .slice o n.length cap ∧ n.length ≤ cap ∧ ∀ (j : Nat) (ps : List Nm.Part), n[j]? = some ps → ∃ b off a, o = some ⟨b, off, none⟩ ∧ w.cell? ⟨b, off + j, none⟩ = some (.pointer (some ⟨a, 0, none⟩)) ∧ RdnIn w a ps
def DnIn (w : World) (d : Nat) (n : Nm.Name) : Prop := ∃ v, w.heap[d]? = some (.cells #[v] 114 (0, 0)) ∧ PtrRdns w v n

section
variable {w w' : World}
theorem partAt_stays {a : Nat} {p : Nm.Part} (h : PartAt w a p) (k : Below w.heap.size w w') : PartAt w' a p := (k.block a (blockLt h)).trans h
theorem PtrParts.stays {v : Value} {ps : List Nm.Part} (h : PtrParts w v ps) (k : Below w.heap.size w w') : PtrParts w' v ps := by
  obtain ⟨o, c, hv, h1⟩ := h
  refine ⟨o, c, hv, fun j p hj => ?_⟩
  obtain ⟨b, off, a, e, c0, hp⟩ := h1 j p hj
  exact ⟨b, off, a, e, (k.cell (World.block_lt_of_cell? w ⟨b, off + j, none⟩ c0)).trans c0, partAt_stays hp k⟩
theorem RdnIn.stays {r : Nat} {ps : List Nm.Part} (h : RdnIn w r ps) (k : Below w.heap.size w w') : RdnIn w' r ps := by
  obtain ⟨v, h1, h2⟩ := h
  exact ⟨v, (k.block r (blockLt h1)).trans h1, h2.stays k⟩
theorem PtrRdns.stays {v : Value} {n : Nm.Name} (h : PtrRdns w v n) (k : Below w.heap.size w w') : PtrRdns w' v n := by
  obtain ⟨o, c, hv, hc, h1⟩ := h
  refine ⟨o, c, hv, hc, fun j p hj => ?_⟩
  obtain ⟨b, off, a, e, c0, hp⟩ := h1 j p hj
  exact ⟨b, off, a, e, (k.cell (World.block_lt_of_cell? w ⟨b, off + j, none⟩ c0)).trans c0, hp.stays k⟩
theorem DnIn.stays {d : Nat} {n : Nm.Name} (h : DnIn w d n) (k : Below w.heap.size w w') : DnIn w' d n := by
  obtain ⟨v, h1, h2⟩ := h
  exact ⟨v, (k.block d (blockLt h1)).trans h1, h2.stays k⟩
theorem RdnAt.in' {S : Nat → Prop} {r : Nat} {ps : List Nm.Part} (h : RdnAt w S r ps) : RdnIn w r ps := by
  obtain ⟨_, v, xs, h1, h2, _, h3⟩ := h
  obtain ⟨o, c, hv⟩ := owns_form h2
  refine ⟨v, h1, o, c, by rw [hv, h3.len], fun j p hj => ?_⟩
  obtain ⟨a, e1, _, e2⟩ := h3.nth hj
  obtain ⟨g, c2, e3, e4⟩ := owns_cell h2 e1
  rw [hv] at e3
  injection e3 with e3 _ _
  exact ⟨g, 0, a, e3, by rw [Nat.zero_add]; exact e4, e2⟩
theorem DnAt.in' {S : Nat → Prop} {d : Nat} {n : Nm.Name} (h : DnAt w S d n) : DnIn w d n := by
  obtain ⟨_, v, xs, h1, h2, _, h3⟩ := h
  obtain ⟨o, c, hv⟩ := owns_form h2
  have hcap : n.length ≤ c := by
    rw [← h3.len]
    rcases h2.2 with ⟨e, h0⟩ | ⟨g, c2, cur, e, _, _, hle, _⟩
    · omega
    · rw [hv] at e; injection e with _ _ e3; omega
  refine ⟨v, h1, o, c, by rw [hv, h3.len], hcap, fun j p hj => ?_⟩
  obtain ⟨a, e1, e2⟩ := h3.nth hj
  obtain ⟨g, c2, e3, e4⟩ := owns_cell h2 e1
  rw [hv] at e3
  injection e3 with e3 _ _
  exact ⟨g, 0, a, e3, by rw [Nat.zero_add]; exact e4, e2.in'⟩
end

def partEq (fold : Bool) (p q : Nm.Part) : Bool := foldSame p.1 q.1 && (if fold then foldSame p.2 q.2 else decide (p.2 = q.2))
theorem partEq_key (fold : Bool) (p q : Nm.Part) : partEq fold p q = decide (NC.key fold p = NC.key fold q) := by
  unfold partEq NC.key foldSame
  rw [Bool.eq_iff_iff]
  cases fold <;> simp

/-- Texts of a sane length. -/
def PartFits (p : Nm.Part) : Prop := p.1.length < 1000000000 ∧ p.2.length < 1000000000

end Go.Proofs.YtjmahgefijncaaaGreatFmt

/- Equal and EqualFold of parts; hasAllAttributes, hasAllAttributesFold. -/
namespace Go.Proofs.YtjmahgefijncaaaGreatFmt
open Go Go.RowKit

set_option maxRecDepth 100000 in
set_option maxHeartbeats 4000000 in
theorem part_eq (a b : Nat) (p q : Nm.Part) (w : World) (hA : PartAt w a p) (hB : PartAt w b q) (fp : PartFits p) (fq : PartFits q) :
    Calls Tryz.prog 104 #[.pointer (some ⟨a, 0, none⟩), .pointer (some ⟨b, 0, none⟩)] w fun e w' => e = .returned (.bool (partEq false p q)) ∧ ∃ m, w' = w.drewN m := by
  have a0 : w.cell? ⟨a, 0, none⟩ = some (.string (Nm.bs p.1)) := blockCell hA 0
  have a1 : w.cell? ⟨a, 1, none⟩ = some (.string (Nm.bs p.2)) := blockCell hA 1
  have b0 : w.cell? ⟨b, 0, none⟩ = some (.string (Nm.bs q.1)) := blockCell hB 0
  have b1 : w.cell? ⟨b, 1, none⟩ = some (.string (Nm.bs q.2)) := blockCell hB 1
  have HF := fun w => fold_quiet p.1 q.1 (by have := fp.1; omega) (by have := fq.1; omega) w
  have hc : ((Nm.bs p.2).toList == (Nm.bs q.2).toList) = decide (p.2 = q.2) := by
    rw [bs_toList, bs_toList, Bool.eq_iff_iff]; simp
  unfold partEq
  simp only [Bool.false_eq_true, if_false]
  generalize foldSame p.1 q.1 = r1 at *
  generalize decide (p.2 = q.2) = r2 at *
  have HF := Lib.hid HF
  generalize Nm.bs p.2 = s1 at *
  generalize Nm.bs q.2 = s2 at *
  clear hA hB fp fq
  cases r1 with
  | false =>
    go_enter Tryz.func104, Tryz.ntmps104
    go_wp2_with fail
    go_quiet ((go_at_call 72; exact Calls.quiet_of (HF.out _)))
    go_wp2_with fail
    go_ret
    exact ⟨rfl, _, rfl⟩
  | true =>
    go_enter Tryz.func104, Tryz.ntmps104
    go_wp2_with fail
    go_quiet ((go_at_call 72; exact Calls.quiet_of (HF.out _)))
    go_wp2_with fail
    go_ret
    exact ⟨rfl, _, rfl⟩

set_option maxRecDepth 100000 in
set_option maxHeartbeats 4000000 in
theorem part_eq_fold (a b : Nat) (p q : Nm.Part) (w : World) (hA : PartAt w a p) (hB : PartAt w b q) (fp : PartFits p) (fq : PartFits q) :
    Calls Tryz.prog 105 #[.pointer (some ⟨a, 0, none⟩), .pointer (some ⟨b, 0, none⟩)] w fun e w' => e = .returned (.bool (partEq true p q)) ∧ ∃ m, w' = w.drewN m := by
  have a0 : w.cell? ⟨a, 0, none⟩ = some (.string (Nm.bs p.1)) := blockCell hA 0
  have a1 : w.cell? ⟨a, 1, none⟩ = some (.string (Nm.bs p.2)) := blockCell hA 1
  have b0 : w.cell? ⟨b, 0, none⟩ = some (.string (Nm.bs q.1)) := blockCell hB 0
  have b1 : w.cell? ⟨b, 1, none⟩ = some (.string (Nm.bs q.2)) := blockCell hB 1
  have HF := fun w => fold_quiet p.1 q.1 (by have := fp.1; omega) (by have := fq.1; omega) w
  have HG := fun w => fold_quiet p.2 q.2 (by have := fp.2; omega) (by have := fq.2; omega) w
  unfold partEq
  simp only [if_true]
  generalize foldSame p.1 q.1 = r1 at *
  generalize foldSame p.2 q.2 = r2 at *
  generalize Nm.bs p.1 = s1 at *
  generalize Nm.bs q.1 = s2 at *
  generalize Nm.bs p.2 = s3 at *
  generalize Nm.bs q.2 = s4 at *
  have HX : ∀ (x y : ByteArray) (r : Bool) (w : World), (x = s1 ∧ y = s2 ∧ r = r1) ∨ (x = s3 ∧ y = s4 ∧ r = r2) → Calls Tryz.prog 72 #[.string x, .string y] w fun e w' => e = .returned (.bool r) ∧ ∃ m, w' = w.drewN m := by
    rintro x y r w (⟨rfl, rfl, rfl⟩ | ⟨rfl, rfl, rfl⟩)
    · exact HF w
    · exact HG w
  have HX := Lib.hid HX
  clear hA hB fp fq HF HG
  cases r1 with
  | false =>
    go_enter Tryz.func105, Tryz.ntmps105
    go_wp2_with fail
    go_quiet ((go_at_call 72; exact Calls.quiet_of (HX.out _ _ _ _ (by first | exact Or.inl ⟨rfl, rfl, rfl⟩ | exact Or.inr ⟨rfl, rfl, rfl⟩))))
    go_wp2_with fail
    go_ret
    exact ⟨rfl, _, rfl⟩
  | true =>
    go_enter Tryz.func105, Tryz.ntmps105
    go_wp2_with fail
    go_quiet ((go_at_call 72; exact Calls.quiet_of (HX.out _ _ _ _ (by first | exact Or.inl ⟨rfl, rfl, rfl⟩ | exact Or.inr ⟨rfl, rfl, rfl⟩))))
    go_wp2_with fail
    go_ret
    exact ⟨rfl, _, rfl⟩

theorem info_bool : ∃ i, Tryz.prog.info? 4 = some i ∧ i.zero = some (.bool false) ∧ i.size = 1 ∧ i.bytes = 1 := info_parts (by kernel_rfl)

/-- The parts that are not taken yet. -/
def live : List Nm.Part → List Bool → List Nm.Part
  | k :: ks, f :: fs => if f then live ks fs else k :: live ks fs
  | _, _ => []
theorem live_start : ∀ ks : List Nm.Part, live ks (List.replicate ks.length false) = ks
  | [] => rfl
  | k :: ks => by rw [List.length_cons, List.replicate_succ, live, if_neg (by simp), live_start ks]
theorem live_none : ∀ {ks : List Nm.Part} {fl : List Bool} {k : Nm.Part}, (∀ (j : Nat) (k' : Nm.Part), ks[j]? = some k' → fl[j]? = some false → k' ≠ k) → k ∉ live ks fl
  | [], _, k, _ => by simp [live]
  | _ :: _, [], k, _ => by simp [live]
  | x :: ks, f :: fs, k, h => by
    have ih := live_none (ks := ks) (fl := fs) (k := k) (fun j k' h1 h2 => h (j + 1) k' (by simpa using h1) (by simpa using h2))
    rw [live]
    cases f with
    | true => simpa using ih
    | false =>
      have := h 0 x rfl rfl
      simp only [Bool.false_eq_true, if_false, List.mem_cons, not_or]
      exact ⟨fun e => this e.symm, ih⟩
theorem live_found : ∀ {ks : List Nm.Part} {fl : List Bool} {j : Nat} {k : Nm.Part}, ks[j]? = some k → fl[j]? = some false → (∀ (i : Nat) (k' : Nm.Part), i < j → ks[i]? = some k' → fl[i]? = some false → k' ≠ k) →
    k ∈ live ks fl ∧ live ks (fl.set j true) = (live ks fl).erase k
  | [], _, j, k, h, _, _ => by simp at h
  | _ :: _, [], j, k, _, h, _ => by simp at h
  | x :: ks, f :: fs, 0, k, h1, h2, _ => by
    simp only [List.getElem?_cons_zero, Option.some.injEq] at h1 h2
    subst h1 h2
    rw [List.set_cons_zero, live, live]
    simp
  | x :: ks, f :: fs, j + 1, k, h1, h2, h3 => by
    obtain ⟨e1, e2⟩ := live_found (ks := ks) (fl := fs) (j := j) (k := k) (by simpa using h1) (by simpa using h2) (fun i k' hi h4 h5 => h3 (i + 1) k' (by omega) (by simpa using h4) (by simpa using h5))
    rw [List.set_cons_succ, live, live]
    cases f with
    | true => simpa using ⟨e1, e2⟩
    | false =>
      have hne := h3 0 x (by omega) rfl rfl
      simp only [Bool.false_eq_true, if_false, List.mem_cons]
      refine ⟨Or.inr e1, ?_⟩
      rw [e2, List.erase_cons_tail (by simpa using hne)]

/-- A row of bools. -/
def FRow (w : World) (g : Nat) (fl : List Bool) : Prop := w.rowIs g 4 fl.length (fun j => .bool (fl.getD j false))
theorem FRow.cell {w : World} {g : Nat} {fl : List Bool} (h : FRow w g fl) {j : Nat} {b : Bool} (hj : fl[j]? = some b) : w.cell? ⟨g, j, none⟩ = some (.bool b) := by
  have hlt : j < fl.length := by
    rcases Nat.lt_or_ge j fl.length with h1 | h1
    · exact h1
    · rw [List.getElem?_eq_none h1] at hj; cases hj
  rw [World.rowIs.cell h hlt, List.getD_eq_getElem?_getD, hj]; rfl
theorem FRow.set {w : World} {g : Nat} {fl : List Bool} (h : FRow w g fl) (j : Nat) (hj : j < fl.length) (b : Bool) : FRow (w.setCell ⟨g, j, none⟩ (.bool b)) g (fl.set j b) := by
  have h1 := World.rowIs.set h j (.bool b)
  unfold FRow
  rw [List.length_set]
  refine h1.congr fun i hi => ?_
  rw [List.getD_eq_getElem?_getD, List.getD_eq_getElem?_getD, List.getElem?_set]
  by_cases e : i = j
  · subst e; simp [hi]
  · rw [if_neg e, if_neg (fun h => e h.symm)]
theorem FRow.stays {w w' : World} {g : Nat} {fl : List Bool} (h : FRow w g fl) (k : w'.heap[g]? = w.heap[g]?) : FRow w' g fl := World.rowIs.of_block h k
theorem FRow.made (w : World) (n : Nat) : FRow (w.alloc (.cells (madeCells #[.bool false] n) 4 (0, 0))) w.heap.size (List.replicate n false) := by
  have h := World.rowIs_made w (.bool false) n 4
  unfold FRow
  rw [List.length_replicate]
  exact h.congr fun i hi => by rw [List.getD_eq_getElem?_getD, List.getElem?_replicate, if_pos hi]; rfl

structure HasInv (fold : Bool) (ps qs : List Nm.Part) (w : World) (i : Nat) (fl : List Bool) (wr : World) : Prop where
  le : i ≤ qs.length
  len : fl.length = ps.length
  rest : NC.hasAll ((qs.drop i).map (NC.key fold)) (live (ps.map (NC.key fold)) fl) = NC.hasAll (qs.map (NC.key fold)) (ps.map (NC.key fold))
  row : FRow wr w.heap.size fl
  bel : Below w.heap.size w wr

end Go.Proofs.YtjmahgefijncaaaGreatFmt

