/- Primitive universal packets have values: the law FnBerValues holds for every input, where the listed package-level variables start as the program's text lays them. -/
import Derived.Test.YtdfehaonngccjaaDoorM10
import Derived.Test.YtdfehaonngccjaaDoorCards
import Derived.Test.YtdfehaonngccjaaDoorTie
import Derived.ProofKit
import Derived.ChangeMaps5
import Derived.LaidMore
import Derived.Lay
import Derived.SevenTiedAt
import Derived.Stop.Joined
import Derived.Deep.DeepHandedRow
namespace Go.Proofs.YtdfehaonngccjaaDoor
open Go.ChangeShapes Go.WideShapes Go.ChangeAt Go.RowKit

theorem own_knob : ownKnob Tryd.prog.godebug = none := by kernel_rfl

set_option maxRecDepth 100000 in
theorem valuesContract (H : Type) (enc : TypeId × Value → H) (W : World) (base : Nat) (args : Array Value) (ds gs : List (DataW H)) (before : List MemPlace)
    (hval : ∀ (j : Nat) t v, Tryd.f5.params[j]? = some t → args[j]? = some v → Value.okWide Tryd.prog W .any base t v)
    (hW : DataW.Whole enc Tryd.prog Tryd.f5.params.toList Rows.fnBerValuesSpec.vars false W args.toList ds gs before) (hL : laidMetH Tryd.prog Rows.fnBerValuesRow.laid W) :
    Calls Tryd.prog 5 args W fun e W' => ∃ v, e = .returned v ∧ Rows.fnBerValuesSpec.post enc Tryd.prog Tryd.f5 false true false false W args v W' := by
  have hW' := hW
  obtain ⟨p, q, hA0, hV, rfl, hfz, hnd⟩ := hW
  have hA : DataW.TrodAll enc Tryd.prog W 0 (fun _ => true) true Tryd.f5.params.toList args.toList ds p := hA0
  rw [Tryd.params5] at hA hval
  obtain ⟨v0, vs0, d0, ds0, p0, q0, hargs, rfl, rfl, h0, r0⟩ := trodAll_cons hA
  obtain ⟨v1, vs1, d1, ds1, p1, q1, hvs, rfl, rfl, h1, r1⟩ := trodAll_cons r0
  obtain ⟨rfl, rfl, rfl⟩ := trodAll_nil r1
  subst hvs
  obtain rfl : args = #[v0, v1] := Array.toList_inj.1 hargs
  obtain ⟨rfl, rfl⟩ := trodVars_none hV
  obtain ⟨n, rfl, rfl, rfl, wn⟩ := open_int Tryd.underlying5 (hval 0 5 v0 (by simp) (by simp)) h0
  obtain ⟨s, rfl, rfl, rfl, hs⟩ := Go.ChangeMaps.open_string Tryd.underlying9 (hval 1 9 v1 (by simp) (by simp)) h1
  clear hA0
  simp only [List.append_nil] at hW'
  have hn : 0 ≤ n ∧ n < 256 := by
    have h := wn
    simp only [Lit.wf, Bool.and_eq_true, decide_eq_true_eq] at h
    exact ⟨h.1, Int.lt_of_le_of_lt h.2 (by decide)⟩
  obtain ⟨k, rfl⟩ : ∃ k : Nat, n = k := ⟨n.toNat, by omega⟩
  refine (law_values W.heap.size W (env_of_laid hL) (Nat.le_refl _) k (by omega) s.data.toList).mono fun e W' ⟨he, hb⟩ => ?_
  subst he
  exact ⟨_, rfl, post_below (pa := []) (pv := []) hW' (fun _ _ _ => trodAll_cons_mk (shut_bool Tryd.underlying4 _) trodAll_mk0)
    (fun _ _ => trodAll_cons_mk (shut_int Tryd.underlying5 wn) (trodAll_cons_mk (Go.ChangeMaps.shut_string Tryd.underlying9 hs) trodAll_mk0)) (fun _ _ => rfl) rfl
    hb (ok_one (by kernel_rfl) rfl (okWide_bool_mk Tryd.underlying4 _))⟩

theorem laidFits (os : Os) : (World.holding Tryd.prog os ⟨#[], #[], []⟩).layFits Tryd.prog Rows.fnBerAnyRow.laid [] = true := by kernel_rfl
theorem laidIfaces (os : Os) : (World.holding Tryd.prog os ⟨#[], #[], []⟩).layIfaces Tryd.prog Rows.fnBerAnyRow.laid (World.laidAll Tryd.prog os Rows.fnBerAnyRow.laid) = true := by kernel_rfl

theorem valuesReads (os : Os) {H : Type} (enc : TypeId × Value → H) : ∃ places, DataW.whole enc Tryd.prog ((World.laidAll Tryd.prog os Rows.fnBerAnyRow.laid).forCall (fun _ _ => 0) ⟨#[], #[.int .u8 0, .string ⟨#[]⟩], []⟩).memory Tryd.f5.params.toList Rows.fnBerValuesSpec.vars false #[Value.int .u8 0, Value.string ⟨#[]⟩].toList 8 = some ([.lit (.int .u8 0), .lit (.string [])], [], places) :=
  ⟨[], by kernel_rfl⟩

set_option maxRecDepth 100000 in
theorem valuesLifted (os : Os) (started : os.Started) (H : Type) (enc : TypeId × Value → H) (F : Stop.Interp) :
    ReturnsInHanded {} Tryd.checked os 5 .any ((OpenSpec.ofChange Rows.fnBerValuesSpec).preRow enc Tryd.prog Tryd.f5 Rows.fnBerValuesRow.domain false Rows.fnBerValuesRow.laid) (((OpenSpec.ofChange Rows.fnBerValuesSpec).at F).post enc Tryd.prog Tryd.f5 false true false false) := by
  obtain ⟨places, hx⟩ := valuesReads os enc
  refine returnsInHanded_of_row (C := Tryd.checked) (s := OpenSpec.ofChange Rows.fnBerValuesSpec) own_knob started (by kernel_rfl) Tryd.func5
    (witness_row_at (enc := enc) (C := Tryd.checked) false (World.laidAll Tryd.prog os Rows.fnBerAnyRow.laid) #[.int .u8 0, .string ⟨#[]⟩] (World.laidAll_os _ _ _) (by kernel_rfl) (by kernel_rfl) (by kernel_rfl)
      (OpenSpec.preRow_of_cond 8 hx (by kernel_rfl) (fun k hk => by cases hk) (by kernel_rfl) (laidMet_laidAll (laid := Rows.fnBerAnyRow.laid) _ (laidFits os) (laidIfaces os)))) ?_
  intro W base args ds gs before hval hW _ _ _ hL _ _
  exact valuesContract H enc W base args ds gs before hval hW hL

theorem values_said : Rows.FnBerValuesSaid :=
  OpenClaim.holds_of_cond 5 Tryd.f5 rfl rfl rfl rfl rfl rfl rfl ⟨rfl, rfl, rfl, rfl, rfl⟩ rfl rfl rfl rfl rfl (by kernel_rfl) Tryd.func5 (by kernel_rfl)
    (of_decide_eq_true (by kernel_rfl)) (by unfold Func.isWrapper; first | (rw [if_pos (by decide +kernel)]; kernel_rfl) | (rw [if_neg (by decide +kernel)]; exact ⟨rfl, rfl⟩))
    (fun os started H enc _ F => by rw [OpenClaim.pre_eq_preRow]; exact valuesLifted os started H enc F)

theorem valuesPlain (f : FuncId) (fn : Func) (hf : Tryd.pinned.checked.prog.funcNamed "pub-compendium/laws.FnBerValues" = some f) (hfn : Tryd.pinned.checked.prog.funcs[f]? = some fn) :
    true = Tryd.pinned.checked.prog.looks [] ∧ ∀ (j : Nat) t, fn.params[j]? = some t → Tryd.pinned.checked.prog.wantsStandIn t = false := by
  obtain rfl : f = 5 := Option.some.inj ((show Tryd.prog.funcNamed "pub-compendium/laws.FnBerValues" = some 5 by kernel_rfl).symm.trans hf) |>.symm
  obtain rfl : fn = Tryd.f5 := (Option.some.inj (Tryd.func5.symm.trans hfn)).symm
  refine ⟨by kernel_rfl, fun j t ht => ?_⟩
  rw [Tryd.params5] at ht
  have hm : t ∈ [5, 9] := by simpa using Array.mem_of_getElem? ht
  have hall : ([5, 9].all fun u => !Tryd.prog.wantsStandIn u) = true := by kernel_rfl
  exact (show Tryd.prog.wantsStandIn t = false by simpa using List.all_eq_true.1 hall t hm)

theorem fnBerValues_card : Rows.FnBerValuesCardSaid :=
  Claim7.holds_tied_plain_at .later [] _ _ _ _ values_said (fun _ h => by cases h) (by kernel_rfl) (fun _ h => by cases h) fnBerValues_row_tie rfl ⟨rfl, rfl⟩ (by kernel_rfl) rfl valuesPlain (by kernel_rfl)
end Go.Proofs.YtdfehaonngccjaaDoor

