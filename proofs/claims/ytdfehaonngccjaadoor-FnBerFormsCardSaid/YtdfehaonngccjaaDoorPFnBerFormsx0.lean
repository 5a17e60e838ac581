-- PRINTED BY print.sh 35421559b90ae4d0a3588c463048766b98c2df88dd9212a6774a882060cdf62d: not written by this session
import Derived.Test.YtdfehaonngccjaaDoorProg
import Derived.Below
import Derived.Deep.Draws
import Derived.Deep.AppendLies
import Derived.Maps.AppendAt
import Derived.OwnWalk
import Derived.Laws.BytesArg
import Derived.Laws.MakeOwn
import Derived.Laws.OwnMore
import Derived.Deep.OwnRows
import Derived.Tactics
import Derived.Lib.ConvBytes
import Derived.Laws.Slices
import Derived.WalkKit
import Derived.KernelRfl
import Derived.RowKit3
import Derived.Deep.LoopGhost
import Derived.Deep.QuietTactic
import Derived.BigQuiet
import Derived.WideLaws
import Derived.Deep.DeepCutAuto
import Derived.Deep.CutBlock
import Derived.Deep.RegionHeld3
import Derived.Laws.Rows
import Derived.Lib.AppendStr
import Derived.ArgAppend
import Derived.Laws.IdiomCopy
import Derived.OrdersHeld
import Derived.Laws.BitsLemmas
import Derived.RowKit
import Derived.Test.YtdfehaonngccjaaDoorWWords
import Derived.Test.YtdfehaonngccjaaDoorWLast
import Derived.Test.YtdfehaonngccjaaDoorWTab
import Derived.Test.YtdfehaonngccjaaDoorWFour
import Derived.Test.YtdfehaonngccjaaDoorWQPut
import Derived.Test.YtdfehaonngccjaaDoorWApart
import Derived.Test.YtdfehaonngccjaaDoorWArr
import Derived.Test.YtdfehaonngccjaaDoorWZeros
import Derived.Test.YtdfehaonngccjaaDoorWFoot
import Derived.Test.YtdfehaonngccjaaDoorWKept
import Derived.Test.YtdfehaonngccjaaDoorWShare
import Derived.Test.YtdfehaonngccjaaDoorWN
import Derived.Test.YtdfehaonngccjaaDoorWFootNe
import Derived.Test.YtdfehaonngccjaaDoorWAt
import Derived.Test.YtdfehaonngccjaaDoorWEqStruct
import Derived.Test.YtdfehaonngccjaaDoorWRepsOne
import Derived.Test.YtdfehaonngccjaaDoorWInv
import Derived.Test.YtdfehaonngccjaaDoorWInvWords
import Derived.Test.YtdfehaonngccjaaDoorWGuard
import Derived.Test.YtdfehaonngccjaaDoorWNEv
import Derived.Test.YtdfehaonngccjaaDoorWMore
namespace Go.Proofs.YtdfehaonngccjaaDoor.PFnBerForms
open Go.RowKit Go.Proofs.YtdfehaonngccjaaDoorW.PrintWords Go.Proofs.YtdfehaonngccjaaDoorW.PrintLast Go.Proofs.YtdfehaonngccjaaDoorW.PrintMore
attribute [local go_sem] max2_int min2_int max_two min_two max_three min_three max_four min_four   -- for this text's walks alone
set_option linter.unusedVariables false
set_option linter.unusedSimpArgs false



def errW : Option Int → Value
  | none => .nilIface
  | some c => .iface 0 (.int .i64 c)
theorem errW_none : errW none = .nilIface := rfl
theorem errW_some (c : Int) : errW (some c) = .iface 0 (.int .i64 c) := rfl

theorem info5 : (Tryd.prog.info? 5).map (fun i => (i.zero, i.size, i.bytes)) = some (some (.int .u8 0), 1, 1) := by kernel_rfl
theorem info26 : (Tryd.prog.info? 26).map (fun i => (i.zero, i.size, i.bytes)) = some (some (.agg #[(.int .u8 0), (.bool false), (.int .u64 0), (.string ⟨#[]⟩), (.slice none 0 0)]), 5, 56) := by kernel_rfl
theorem info31 : (Tryd.prog.info? 31).map (fun i => (i.zero, i.size, i.bytes)) = some (some (.agg #[(.int .u8 0), (.bool false), (.int .u64 0), (.string ⟨#[]⟩), (.slice none 0 0)]), 5, 56) := by kernel_rfl
-- the values' own types
/-! #### struct type 26, nested in itself -/
structure S26 where
  f0 : Int
  f1 : Bool
  f2 : Int
  f3 : ByteArray
  f4 : (List S26)
def z26 : S26 := ⟨(0 : Int), false, (0 : Int), (⟨#[]⟩ : ByteArray), ([] : List S26)⟩
def F26 (d : Kd S26) : Kd S26 := Kd.iso (Kd.pair (Kd.int .u8) (Kd.pair Kd.bool (Kd.pair (Kd.int .u64) (Kd.pair Kd.string (Kd.slice 26 d))))) (fun x : S26 => (x.f0, x.f1, x.f2, x.f3, x.f4))
theorem mono26 : Kd.Mono F26 := Kd.mono_iso _ (Kd.mono_pair (Kd.mono_const _) (Kd.mono_pair (Kd.mono_const _) (Kd.mono_pair (Kd.mono_const _) (Kd.mono_pair (Kd.mono_const _) (Kd.mono_slice 26 Kd.mono_id)))))
theorem sub26 : Kd.Sub F26 [26] := Kd.sub_iso _ (Kd.sub_pair (Kd.sub_const _ (by decide)) (Kd.sub_pair (Kd.sub_const _ (by decide)) (Kd.sub_pair (Kd.sub_const _ (by decide)) (Kd.sub_pair (Kd.sub_const _ (by decide)) (Kd.sub_slice 26 (by decide) Kd.sub_id)))))
theorem sz26 : ∀ n, (Kd.upto F26 5 [26] n).sz = 5 := Kd.upto_sz (fun _ => rfl)
def k26 : Kd S26 := Kd.fix F26 5 [26] sz26 (Kd.upto_E sub26)
theorem k26_open {w : World} {x : S26} {cs : List Value} (h : k26.K w x cs) : ∃ A4 c4, cs = [.int .u8 x.f0, .bool x.f1, .int .u64 x.f2, .string x.f3, .slice A4 x.f4.length c4] ∧ x.f4.length ≤ c4 ∧ k26.C w A4 x.f4.length x.f4 := by
  obtain ⟨n, h⟩ := h
  cases n with
  | zero => exact h.elim
  | succ n =>
    obtain ⟨_, _, rfl, rfl, ⟨_, _, rfl, rfl, ⟨_, _, rfl, rfl, ⟨_, _, rfl, rfl, ⟨A4, c4, rfl, l4, g4⟩⟩⟩⟩⟩ := h
    exact ⟨A4, c4, rfl, l4, Kd.fix_C g4⟩
theorem k26_openM {w : World} {base : Nat} {ok : Nat → Prop} {x : S26} {cs : List Value} (h : k26.M w base ok x cs) : ∃ v4, cs = [.int .u8 x.f0, .bool x.f1, .int .u64 x.f2, .string x.f3, v4] ∧ k26.R 26 w base ok v4 x.f4 := by
  obtain ⟨n, h⟩ := h
  cases n with
  | zero => exact h.elim
  | succ n =>
    obtain ⟨_, _, rfl, rfl, ⟨_, _, rfl, rfl, ⟨_, _, rfl, rfl, ⟨_, _, rfl, rfl, ⟨v4, rfl, g4⟩⟩⟩⟩⟩ := h
    exact ⟨v4, rfl, Kd.fix_R g4⟩
theorem k26_mk (w : World) (x : S26) {A4 : Option Addr} {c4 : Nat} (l4 : x.f4.length ≤ c4) (g4 : k26.C w A4 x.f4.length x.f4) : k26.K w x [.int .u8 x.f0, .bool x.f1, .int .u64 x.f2, .string x.f3, .slice A4 x.f4.length c4] := by
  obtain ⟨n4, q4⟩ := Kd.fix_C_back mono26 g4
  have r4 := Kd.upto_C_le mono26 sz26 (show n4 ≤ n4 by omega) q4
  exact ⟨n4 + 1, ⟨[.int .u8 x.f0], [.bool x.f1, .int .u64 x.f2, .string x.f3, .slice A4 x.f4.length c4], rfl, rfl, ⟨[.bool x.f1], [.int .u64 x.f2, .string x.f3, .slice A4 x.f4.length c4], rfl, rfl, ⟨[.int .u64 x.f2], [.string x.f3, .slice A4 x.f4.length c4], rfl, rfl, ⟨[.string x.f3], [.slice A4 x.f4.length c4], rfl, rfl, ⟨A4, c4, rfl, l4, r4⟩⟩⟩⟩⟩⟩
theorem k26_mkM (w : World) (base : Nat) (ok : Nat → Prop) (x : S26) {v4 : Value} (g4 : k26.R 26 w base ok v4 x.f4) : k26.M w base ok x [.int .u8 x.f0, .bool x.f1, .int .u64 x.f2, .string x.f3, v4] := by
  obtain ⟨n4, q4⟩ := Kd.fix_R_back mono26 g4
  have r4 := Kd.upto_R_le mono26 sz26 (show n4 ≤ n4 by omega) q4
  exact ⟨n4 + 1, ⟨[.int .u8 x.f0], [.bool x.f1, .int .u64 x.f2, .string x.f3, v4], rfl, rfl, ⟨[.bool x.f1], [.int .u64 x.f2, .string x.f3, v4], rfl, rfl, ⟨[.int .u64 x.f2], [.string x.f3, v4], rfl, rfl, ⟨[.string x.f3], [v4], rfl, rfl, ⟨v4, rfl, r4⟩⟩⟩⟩⟩⟩
def rd_T26 (xs : List S26) (i : Int) : S26 := xs.getD i.toNat z26
theorem at_T26 {w : World} {A : Option Addr} {n : Nat} {xs : List S26} (h : Kd.C k26 w A n xs) (i : Int) (h0 : 0 ≤ i) (h1 : i < n) : ∃ ad A4 c4, A = some ad ∧ w.cell? (ad.add (i.toNat * 5)) = some (.int .u8 (rd_T26 xs i).f0) ∧ w.cell? ⟨(ad.add (i.toNat * 5)).block, (ad.add (i.toNat * 5)).off + 1, none⟩ = some (.bool (rd_T26 xs i).f1) ∧ w.cell? ⟨(ad.add (i.toNat * 5)).block, (ad.add (i.toNat * 5)).off + 2, none⟩ = some (.int .u64 (rd_T26 xs i).f2) ∧ w.cell? ⟨(ad.add (i.toNat * 5)).block, (ad.add (i.toNat * 5)).off + 3, none⟩ = some (.string (rd_T26 xs i).f3) ∧ w.cell? ⟨(ad.add (i.toNat * 5)).block, (ad.add (i.toNat * 5)).off + 4, none⟩ = some (.slice A4 (rd_T26 xs i).f4.length c4) ∧ (rd_T26 xs i).f4.length ≤ c4 ∧ k26.C w A4 (rd_T26 xs i).f4.length (rd_T26 xs i).f4 := by
  obtain ⟨ad, c, e, _, hK, hc0⟩ := Kd.C_get h z26 i h0 h1
  have hc : ∀ j u, c[j]? = some u → w.cell? (ad.add (i.toNat * 5 + j)) = some u := hc0
  obtain ⟨A4, c4, rfl, l4, g4⟩ := k26_open hK
  exact ⟨ad, A4, c4, e, hc 0 _ rfl, by rw [← add_field _ _ 1 (by omega)]; exact hc 1 _ rfl, by rw [← add_field _ _ 2 (by omega)]; exact hc 2 _ rfl, by rw [← add_field _ _ 3 (by omega)]; exact hc 3 _ rfl, by rw [← add_field _ _ 4 (by omega)]; exact hc 4 _ rfl, l4, g4⟩

/-! #### struct type 31, nested in itself -/
structure S31 where
  f0 : Int
  f1 : Bool
  f2 : Int
  f3 : ByteArray
  f4 : (List S31)
def z31 : S31 := ⟨(0 : Int), false, (0 : Int), (⟨#[]⟩ : ByteArray), ([] : List S31)⟩
def F31 (d : Kd S31) : Kd S31 := Kd.iso (Kd.pair (Kd.int .u8) (Kd.pair Kd.bool (Kd.pair (Kd.int .u64) (Kd.pair Kd.string (Kd.slice 31 d))))) (fun x : S31 => (x.f0, x.f1, x.f2, x.f3, x.f4))
theorem mono31 : Kd.Mono F31 := Kd.mono_iso _ (Kd.mono_pair (Kd.mono_const _) (Kd.mono_pair (Kd.mono_const _) (Kd.mono_pair (Kd.mono_const _) (Kd.mono_pair (Kd.mono_const _) (Kd.mono_slice 31 Kd.mono_id)))))
theorem sub31 : Kd.Sub F31 [31] := Kd.sub_iso _ (Kd.sub_pair (Kd.sub_const _ (by decide)) (Kd.sub_pair (Kd.sub_const _ (by decide)) (Kd.sub_pair (Kd.sub_const _ (by decide)) (Kd.sub_pair (Kd.sub_const _ (by decide)) (Kd.sub_slice 31 (by decide) Kd.sub_id)))))
theorem sz31 : ∀ n, (Kd.upto F31 5 [31] n).sz = 5 := Kd.upto_sz (fun _ => rfl)
def k31 : Kd S31 := Kd.fix F31 5 [31] sz31 (Kd.upto_E sub31)
theorem k31_open {w : World} {x : S31} {cs : List Value} (h : k31.K w x cs) : ∃ A4 c4, cs = [.int .u8 x.f0, .bool x.f1, .int .u64 x.f2, .string x.f3, .slice A4 x.f4.length c4] ∧ x.f4.length ≤ c4 ∧ k31.C w A4 x.f4.length x.f4 := by
  obtain ⟨n, h⟩ := h
  cases n with
  | zero => exact h.elim
  | succ n =>
    obtain ⟨_, _, rfl, rfl, ⟨_, _, rfl, rfl, ⟨_, _, rfl, rfl, ⟨_, _, rfl, rfl, ⟨A4, c4, rfl, l4, g4⟩⟩⟩⟩⟩ := h
    exact ⟨A4, c4, rfl, l4, Kd.fix_C g4⟩
theorem k31_openM {w : World} {base : Nat} {ok : Nat → Prop} {x : S31} {cs : List Value} (h : k31.M w base ok x cs) : ∃ v4, cs = [.int .u8 x.f0, .bool x.f1, .int .u64 x.f2, .string x.f3, v4] ∧ k31.R 31 w base ok v4 x.f4 := by
  obtain ⟨n, h⟩ := h
  cases n with
  | zero => exact h.elim
  | succ n =>
    obtain ⟨_, _, rfl, rfl, ⟨_, _, rfl, rfl, ⟨_, _, rfl, rfl, ⟨_, _, rfl, rfl, ⟨v4, rfl, g4⟩⟩⟩⟩⟩ := h
    exact ⟨v4, rfl, Kd.fix_R g4⟩
theorem k31_mk (w : World) (x : S31) {A4 : Option Addr} {c4 : Nat} (l4 : x.f4.length ≤ c4) (g4 : k31.C w A4 x.f4.length x.f4) : k31.K w x [.int .u8 x.f0, .bool x.f1, .int .u64 x.f2, .string x.f3, .slice A4 x.f4.length c4] := by
  obtain ⟨n4, q4⟩ := Kd.fix_C_back mono31 g4
  have r4 := Kd.upto_C_le mono31 sz31 (show n4 ≤ n4 by omega) q4
  exact ⟨n4 + 1, ⟨[.int .u8 x.f0], [.bool x.f1, .int .u64 x.f2, .string x.f3, .slice A4 x.f4.length c4], rfl, rfl, ⟨[.bool x.f1], [.int .u64 x.f2, .string x.f3, .slice A4 x.f4.length c4], rfl, rfl, ⟨[.int .u64 x.f2], [.string x.f3, .slice A4 x.f4.length c4], rfl, rfl, ⟨[.string x.f3], [.slice A4 x.f4.length c4], rfl, rfl, ⟨A4, c4, rfl, l4, r4⟩⟩⟩⟩⟩⟩
theorem k31_mkM (w : World) (base : Nat) (ok : Nat → Prop) (x : S31) {v4 : Value} (g4 : k31.R 31 w base ok v4 x.f4) : k31.M w base ok x [.int .u8 x.f0, .bool x.f1, .int .u64 x.f2, .string x.f3, v4] := by
  obtain ⟨n4, q4⟩ := Kd.fix_R_back mono31 g4
  have r4 := Kd.upto_R_le mono31 sz31 (show n4 ≤ n4 by omega) q4
  exact ⟨n4 + 1, ⟨[.int .u8 x.f0], [.bool x.f1, .int .u64 x.f2, .string x.f3, v4], rfl, rfl, ⟨[.bool x.f1], [.int .u64 x.f2, .string x.f3, v4], rfl, rfl, ⟨[.int .u64 x.f2], [.string x.f3, v4], rfl, rfl, ⟨[.string x.f3], [v4], rfl, rfl, ⟨v4, rfl, r4⟩⟩⟩⟩⟩⟩
def rd_T31 (xs : List S31) (i : Int) : S31 := xs.getD i.toNat z31
theorem at_T31 {w : World} {A : Option Addr} {n : Nat} {xs : List S31} (h : Kd.C k31 w A n xs) (i : Int) (h0 : 0 ≤ i) (h1 : i < n) : ∃ ad A4 c4, A = some ad ∧ w.cell? (ad.add (i.toNat * 5)) = some (.int .u8 (rd_T31 xs i).f0) ∧ w.cell? ⟨(ad.add (i.toNat * 5)).block, (ad.add (i.toNat * 5)).off + 1, none⟩ = some (.bool (rd_T31 xs i).f1) ∧ w.cell? ⟨(ad.add (i.toNat * 5)).block, (ad.add (i.toNat * 5)).off + 2, none⟩ = some (.int .u64 (rd_T31 xs i).f2) ∧ w.cell? ⟨(ad.add (i.toNat * 5)).block, (ad.add (i.toNat * 5)).off + 3, none⟩ = some (.string (rd_T31 xs i).f3) ∧ w.cell? ⟨(ad.add (i.toNat * 5)).block, (ad.add (i.toNat * 5)).off + 4, none⟩ = some (.slice A4 (rd_T31 xs i).f4.length c4) ∧ (rd_T31 xs i).f4.length ≤ c4 ∧ k31.C w A4 (rd_T31 xs i).f4.length (rd_T31 xs i).f4 := by
  obtain ⟨ad, c, e, _, hK, hc0⟩ := Kd.C_get h z31 i h0 h1
  have hc : ∀ j u, c[j]? = some u → w.cell? (ad.add (i.toNat * 5 + j)) = some u := hc0
  obtain ⟨A4, c4, rfl, l4, g4⟩ := k31_open hK
  exact ⟨ad, A4, c4, e, hc 0 _ rfl, by rw [← add_field _ _ 1 (by omega)]; exact hc 1 _ rfl, by rw [← add_field _ _ 2 (by omega)]; exact hc 2 _ rfl, by rw [← add_field _ _ 3 (by omega)]; exact hc 3 _ rfl, by rw [← add_field _ _ 4 (by omega)]; exact hc 4 _ rfl, l4, g4⟩

end Go.Proofs.YtdfehaonngccjaaDoor.PFnBerForms
