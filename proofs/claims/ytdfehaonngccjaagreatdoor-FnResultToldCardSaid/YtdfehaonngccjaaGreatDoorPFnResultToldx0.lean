-- PRINTED BY print.sh 35421559b90ae4d0a3588c463048766b98c2df88dd9212a6774a882060cdf62d: not written by this session
import Derived.Test.YtdfehaonngccjaaGreatDoorProg
import Derived.Below
import Derived.Deep.Draws
import Derived.Deep.AppendLies
import Derived.Maps.AppendAt
import Derived.OwnWalk
import Derived.Laws.BytesArg
import Derived.Laws.MakeOwn
import Derived.Laws.OwnMore
import Derived.Deep.OwnRows
import Derived.Tactics
import Derived.Lib.ConvBytes
import Derived.Laws.Slices
import Derived.WalkKit
import Derived.KernelRfl
import Derived.RowKit3
import Derived.Deep.LoopGhost
import Derived.Deep.QuietTactic
import Derived.BigQuiet
import Derived.WideLaws
import Derived.Deep.DeepCutAuto
import Derived.Deep.CutBlock
import Derived.Deep.RegionHeld3
import Derived.Laws.Rows
import Derived.Lib.AppendStr
import Derived.ArgAppend
import Derived.Laws.IdiomCopy
import Derived.OrdersHeld
import Derived.Laws.BitsLemmas
import Derived.RowKit
import Derived.Test.YtdfehaonngccjaaGreatDoorWWords
import Derived.Test.YtdfehaonngccjaaGreatDoorWLast
import Derived.Test.YtdfehaonngccjaaGreatDoorWTab
import Derived.Test.YtdfehaonngccjaaGreatDoorWFour
import Derived.Test.YtdfehaonngccjaaGreatDoorWQPut
import Derived.Test.YtdfehaonngccjaaGreatDoorWApart
import Derived.Test.YtdfehaonngccjaaGreatDoorWArr
import Derived.Test.YtdfehaonngccjaaGreatDoorWZeros
import Derived.Test.YtdfehaonngccjaaGreatDoorWFoot
import Derived.Test.YtdfehaonngccjaaGreatDoorWKept
import Derived.Test.YtdfehaonngccjaaGreatDoorWShare
import Derived.Test.YtdfehaonngccjaaGreatDoorWN
import Derived.Test.YtdfehaonngccjaaGreatDoorWFootNe
import Derived.Test.YtdfehaonngccjaaGreatDoorWAt
import Derived.Test.YtdfehaonngccjaaGreatDoorWEqStruct
import Derived.Test.YtdfehaonngccjaaGreatDoorWRepsOne
import Derived.Test.YtdfehaonngccjaaGreatDoorWInv
import Derived.Test.YtdfehaonngccjaaGreatDoorWInvWords
import Derived.Test.YtdfehaonngccjaaGreatDoorWGuard
import Derived.Test.YtdfehaonngccjaaGreatDoorWNEv
import Derived.Test.YtdfehaonngccjaaGreatDoorWMore
namespace Go.Proofs.YtdfehaonngccjaaGreatDoor.PFnResultTold
open Go.RowKit Go.Proofs.YtdfehaonngccjaaGreatDoorW.PrintWords Go.Proofs.YtdfehaonngccjaaGreatDoorW.PrintLast Go.Proofs.YtdfehaonngccjaaGreatDoorW.PrintMore
attribute [local go_sem] max2_int min2_int max_two min_two max_three min_three max_four min_four   -- for this text's walks alone
set_option linter.unusedVariables false
set_option linter.unusedSimpArgs false



def errW : Option Int → Value
  | none => .nilIface
  | some c => .iface 0 (.int .i64 c)
theorem errW_none : errW none = .nilIface := rfl
theorem errW_some (c : Int) : errW (some c) = .iface 0 (.int .i64 c) := rfl

theorem info5 : (Tryz.prog.info? 5).map (fun i => (i.zero, i.size, i.bytes)) = some (some (.int .u8 0), 1, 1) := by kernel_rfl
theorem info32 : (Tryz.prog.info? 32).map (fun i => (i.zero, i.size, i.bytes)) = some (some (.int .u64 0), 1, 8) := by kernel_rfl
theorem info35 : (Tryz.prog.info? 35).map (fun i => (i.zero, i.size, i.bytes)) = some (some (.agg #[(.int .u8 0), (.bool false), (.int .u64 0), (.string ⟨#[]⟩), (.slice none 0 0)]), 5, 56) := by kernel_rfl
-- the values' own types
/-! #### struct type 35, nested in itself -/
structure S35 where
  f0 : Int
  f1 : Bool
  f2 : Int
  f3 : ByteArray
  f4 : (List S35)
def z35 : S35 := ⟨(0 : Int), false, (0 : Int), (⟨#[]⟩ : ByteArray), ([] : List S35)⟩
def F35 (d : Kd S35) : Kd S35 := Kd.iso (Kd.pair (Kd.int .u8) (Kd.pair Kd.bool (Kd.pair (Kd.int .u64) (Kd.pair Kd.string (Kd.slice 35 d))))) (fun x : S35 => (x.f0, x.f1, x.f2, x.f3, x.f4))
theorem mono35 : Kd.Mono F35 := Kd.mono_iso _ (Kd.mono_pair (Kd.mono_const _) (Kd.mono_pair (Kd.mono_const _) (Kd.mono_pair (Kd.mono_const _) (Kd.mono_pair (Kd.mono_const _) (Kd.mono_slice 35 Kd.mono_id)))))
theorem sub35 : Kd.Sub F35 [35] := Kd.sub_iso _ (Kd.sub_pair (Kd.sub_const _ (by decide)) (Kd.sub_pair (Kd.sub_const _ (by decide)) (Kd.sub_pair (Kd.sub_const _ (by decide)) (Kd.sub_pair (Kd.sub_const _ (by decide)) (Kd.sub_slice 35 (by decide) Kd.sub_id)))))
theorem sz35 : ∀ n, (Kd.upto F35 5 [35] n).sz = 5 := Kd.upto_sz (fun _ => rfl)
def k35 : Kd S35 := Kd.fix F35 5 [35] sz35 (Kd.upto_E sub35)
theorem k35_open {w : World} {x : S35} {cs : List Value} (h : k35.K w x cs) : ∃ A4 c4, cs = [.int .u8 x.f0, .bool x.f1, .int .u64 x.f2, .string x.f3, .slice A4 x.f4.length c4] ∧ x.f4.length ≤ c4 ∧ k35.C w A4 x.f4.length x.f4 := by
  obtain ⟨n, h⟩ := h
  cases n with
  | zero => exact h.elim
  | succ n =>
    obtain ⟨_, _, rfl, rfl, ⟨_, _, rfl, rfl, ⟨_, _, rfl, rfl, ⟨_, _, rfl, rfl, ⟨A4, c4, rfl, l4, g4⟩⟩⟩⟩⟩ := h
    exact ⟨A4, c4, rfl, l4, Kd.fix_C g4⟩
theorem k35_openM {w : World} {base : Nat} {ok : Nat → Prop} {x : S35} {cs : List Value} (h : k35.M w base ok x cs) : ∃ v4, cs = [.int .u8 x.f0, .bool x.f1, .int .u64 x.f2, .string x.f3, v4] ∧ k35.R 35 w base ok v4 x.f4 := by
  obtain ⟨n, h⟩ := h
  cases n with
  | zero => exact h.elim
  | succ n =>
    obtain ⟨_, _, rfl, rfl, ⟨_, _, rfl, rfl, ⟨_, _, rfl, rfl, ⟨_, _, rfl, rfl, ⟨v4, rfl, g4⟩⟩⟩⟩⟩ := h
    exact ⟨v4, rfl, Kd.fix_R g4⟩
theorem k35_mk (w : World) (x : S35) {A4 : Option Addr} {c4 : Nat} (l4 : x.f4.length ≤ c4) (g4 : k35.C w A4 x.f4.length x.f4) : k35.K w x [.int .u8 x.f0, .bool x.f1, .int .u64 x.f2, .string x.f3, .slice A4 x.f4.length c4] := by
  obtain ⟨n4, q4⟩ := Kd.fix_C_back mono35 g4
  have r4 := Kd.upto_C_le mono35 sz35 (show n4 ≤ n4 by omega) q4
  exact ⟨n4 + 1, ⟨[.int .u8 x.f0], [.bool x.f1, .int .u64 x.f2, .string x.f3, .slice A4 x.f4.length c4], rfl, rfl, ⟨[.bool x.f1], [.int .u64 x.f2, .string x.f3, .slice A4 x.f4.length c4], rfl, rfl, ⟨[.int .u64 x.f2], [.string x.f3, .slice A4 x.f4.length c4], rfl, rfl, ⟨[.string x.f3], [.slice A4 x.f4.length c4], rfl, rfl, ⟨A4, c4, rfl, l4, r4⟩⟩⟩⟩⟩⟩
theorem k35_mkM (w : World) (base : Nat) (ok : Nat → Prop) (x : S35) {v4 : Value} (g4 : k35.R 35 w base ok v4 x.f4) : k35.M w base ok x [.int .u8 x.f0, .bool x.f1, .int .u64 x.f2, .string x.f3, v4] := by
  obtain ⟨n4, q4⟩ := Kd.fix_R_back mono35 g4
  have r4 := Kd.upto_R_le mono35 sz35 (show n4 ≤ n4 by omega) q4
  exact ⟨n4 + 1, ⟨[.int .u8 x.f0], [.bool x.f1, .int .u64 x.f2, .string x.f3, v4], rfl, rfl, ⟨[.bool x.f1], [.int .u64 x.f2, .string x.f3, v4], rfl, rfl, ⟨[.int .u64 x.f2], [.string x.f3, v4], rfl, rfl, ⟨[.string x.f3], [v4], rfl, rfl, ⟨v4, rfl, r4⟩⟩⟩⟩⟩⟩
theorem k35_openF {W : World} {ok : Nat → Prop} {x : S35} {cs : List Value} (h : Kd.FK k35 W ok x cs) : ∃ A4 c4, cs = [.int .u8 x.f0, .bool x.f1, .int .u64 x.f2, .string x.f3, .slice A4 x.f4.length c4] ∧ x.f4.length ≤ c4 ∧ Kd.F k35 W ok A4 x.f4.length x.f4 := by
  obtain ⟨A4, c4, rfl, l4, _⟩ := k35_open (Kd.FK_now h)
  exact ⟨A4, c4, rfl, l4, (fun W' hW => by obtain ⟨A4_, c4_, he, l4_, g4_⟩ := k35_open (h W' hW); injection (Option.some.inj (show some (Value.slice A4 x.f4.length c4) = some (Value.slice A4_ x.f4.length c4_) from congrArg (fun l => l[4]?) he)) with ha_ _ _; rw [ha_]; exact g4_)⟩
theorem k35_mkF (W : World) (ok : Nat → Prop) (x : S35) {A4 : Option Addr} {c4 : Nat} (l4 : x.f4.length ≤ c4) (g4 : Kd.F k35 W ok A4 x.f4.length x.f4) : Kd.FK k35 W ok x [.int .u8 x.f0, .bool x.f1, .int .u64 x.f2, .string x.f3, .slice A4 x.f4.length c4] := fun W2 hW => k35_mk W2 x l4 (g4 W2 hW)
def rd_T35 (xs : List S35) (i : Int) : S35 := xs.getD i.toNat z35
theorem at_T35 {w : World} {A : Option Addr} {n : Nat} {xs : List S35} (h : Kd.C k35 w A n xs) (i : Int) (h0 : 0 ≤ i) (h1 : i < n) : ∃ ad A4 c4, A = some ad ∧ w.cell? (ad.add (i.toNat * 5)) = some (.int .u8 (rd_T35 xs i).f0) ∧ w.cell? ⟨(ad.add (i.toNat * 5)).block, (ad.add (i.toNat * 5)).off + 1, none⟩ = some (.bool (rd_T35 xs i).f1) ∧ w.cell? ⟨(ad.add (i.toNat * 5)).block, (ad.add (i.toNat * 5)).off + 2, none⟩ = some (.int .u64 (rd_T35 xs i).f2) ∧ w.cell? ⟨(ad.add (i.toNat * 5)).block, (ad.add (i.toNat * 5)).off + 3, none⟩ = some (.string (rd_T35 xs i).f3) ∧ w.cell? ⟨(ad.add (i.toNat * 5)).block, (ad.add (i.toNat * 5)).off + 4, none⟩ = some (.slice A4 (rd_T35 xs i).f4.length c4) ∧ (rd_T35 xs i).f4.length ≤ c4 ∧ k35.C w A4 (rd_T35 xs i).f4.length (rd_T35 xs i).f4 := by
  obtain ⟨ad, c, e, _, hK, hc0⟩ := Kd.C_get h z35 i h0 h1
  have hc : ∀ j u, c[j]? = some u → w.cell? (ad.add (i.toNat * 5 + j)) = some u := hc0
  obtain ⟨A4, c4, rfl, l4, g4⟩ := k35_open hK
  exact ⟨ad, A4, c4, e, hc 0 _ rfl, by rw [← add_field _ _ 1 (by omega)]; exact hc 1 _ rfl, by rw [← add_field _ _ 2 (by omega)]; exact hc 2 _ rfl, by rw [← add_field _ _ 3 (by omega)]; exact hc 3 _ rfl, by rw [← add_field _ _ 4 (by omega)]; exact hc 4 _ rfl, l4, g4⟩

end Go.Proofs.YtdfehaonngccjaaGreatDoor.PFnResultTold
