/- Packets one behind the other: the law FnBerStream holds for every input, where the listed package-level variables start as the program's text lays them. -/
import Derived.Test.YtdfehaonngccjaaDoorS1
import Derived.Test.YtdfehaonngccjaaDoorCards
import Derived.Test.YtdfehaonngccjaaDoorTie
import Derived.ProofKit
import Derived.ChangeMaps5
import Derived.ChangeSlices
import Derived.LaidMore
import Derived.Lay
import Derived.SevenTiedAt
import Derived.Stop.Joined
import Derived.Deep.DeepHandedRow
import Derived.WideKeyArgs
set_option linter.unusedVariables false
set_option linter.unusedSimpArgs false
namespace Go.Proofs.YtdfehaonngccjaaDoor
open Go Go.ChangeShapes Go.WideShapes Go.ChangeAt Go.RowKit Go.Proofs.YtdfehaonngccjaaDoorW.PrintWords

theorem own_knobS : ownKnob Tryd.prog.godebug = none := by kernel_rfl
theorem laid_outS : laidOutB Tryd.prog = true := by kernel_rfl
set_option maxRecDepth 100000 in
theorem streamContract (H : Type) (enc : TypeId × Value → H) (W : World) (base : Nat) (args : Array Value) (ds gs : List (DataW H)) (before : List MemPlace)
    (hval : ∀ (j : Nat) t v, Tryd.f4.params[j]? = some t → args[j]? = some v → Value.okWide Tryd.prog W .any base t v)
    (hW : DataW.Whole enc Tryd.prog Tryd.f4.params.toList Rows.fnBerStreamSpec.vars false W args.toList ds gs before) (hL : laidMetH Tryd.prog Rows.fnBerStreamRow.laid W) :
    Calls Tryd.prog 4 args W fun e W' => ∃ v, e = .returned v ∧ Rows.fnBerStreamSpec.post enc Tryd.prog Tryd.f4 false true false false W args v W' := by
  have hW' := hW
  obtain ⟨p, q, hA0, hV, rfl, hfz, hnd⟩ := hW
  have hA : DataW.TrodAll enc Tryd.prog W 0 (fun _ => true) true Tryd.f4.params.toList args.toList ds p := hA0
  rw [Tryd.params4] at hA hval
  obtain ⟨v0, vs0, d0, ds0, p0, q0, hargs, rfl, rfl, h0, r0⟩ := trodAll_cons hA
  obtain ⟨v1, vs1, d1, ds1, p1, q1, hvs, rfl, rfl, h1, r1⟩ := trodAll_cons r0
  obtain ⟨rfl, rfl, rfl⟩ := trodAll_nil r1
  subst hvs
  obtain rfl : args = #[v0, v1] := Array.toList_inj.1 hargs
  obtain ⟨rfl, rfl⟩ := trodVars_none hV
  have h0k := h0
  have h1k := h1
  obtain ⟨A0, cp0, pks, rfl, hc0, hty, hC0⟩ := open_berlist (okWide_slice Tryd.underlying24 (hval 0 24 v0 (by simp) (by simp))) h0
  obtain ⟨A1, cp1, ch, rfl, hc1, hC1⟩ := open_choices (okWide_slice Tryd.underlying37 (hval 1 37 v1 (by simp) (by simp))) h1
  clear hA0
  simp only [List.append_nil] at hW'
  have hlt := hW'.lt
  refine (law_stream W.heap.size W (env_of_laid hL) (Nat.le_refl _) pks A0 cp0 hC0 hc0 hty ch A1 cp1 hC1 hc1).mono fun e W' ⟨he, hb⟩ => ?_
  subst he
  have hs0 : ∀ x ∈ p0, W.sameAt W' x := fun x hx => hb.same (hlt x (List.mem_append_left _ hx))
  have hs1 : ∀ x ∈ p1, W.sameAt W' x := fun x hx => hb.same (hlt x (List.mem_append_right _ hx))
  exact ⟨_, rfl, post_below (pa := p0 ++ (p1 ++ [])) (pv := []) hW' (fun _ _ _ => trodAll_cons_mk (shut_bool Tryd.underlying4 _) trodAll_mk0)
    (fun sp hsp => trodAll_cons_mk (WideElems.Trod_stays laid_outS (by kernel_rfl) (of_decide_eq_true (by kernel_rfl)) h0k hs0 (fun x hx => hsp x (List.mem_append_left _ hx)))
      (trodAll_cons_mk (WideElems.Trod_stays laid_outS (by kernel_rfl) (of_decide_eq_true (by kernel_rfl)) h1k hs1 (fun x hx => hsp x (List.mem_append_right _ hx))) trodAll_mk0)) (fun _ _ => rfl) (by simp)
    hb (ok_one (by kernel_rfl) rfl (okWide_bool_mk Tryd.underlying4 _))⟩

theorem laidFitsS (os : Os) : (World.holding Tryd.prog os ⟨#[], #[], []⟩).layFits Tryd.prog Rows.fnBerAnyRow.laid [] = true := by kernel_rfl
theorem laidIfacesS (os : Os) : (World.holding Tryd.prog os ⟨#[], #[], []⟩).layIfaces Tryd.prog Rows.fnBerAnyRow.laid (World.laidAll Tryd.prog os Rows.fnBerAnyRow.laid) = true := by kernel_rfl

theorem streamReads (os : Os) {H : Type} (enc : TypeId × Value → H) : ∃ places, DataW.whole enc Tryd.prog ((World.laidAll Tryd.prog os Rows.fnBerAnyRow.laid).forCall (fun _ _ => 0) ⟨#[], #[.slice none 0 0, .slice none 0 0], []⟩).memory Tryd.f4.params.toList Rows.fnBerStreamSpec.vars false #[Value.slice none 0 0, Value.slice none 0 0].toList 8 = some ([.nil, .nil], [], places) :=
  ⟨[], by kernel_rfl⟩

set_option maxRecDepth 100000 in
theorem streamLifted (os : Os) (started : os.Started) (H : Type) (enc : TypeId × Value → H) (F : Stop.Interp) :
    ReturnsInHanded {} Tryd.checked os 4 .any ((OpenSpec.ofChange Rows.fnBerStreamSpec).preRow enc Tryd.prog Tryd.f4 Rows.fnBerStreamRow.domain false Rows.fnBerStreamRow.laid) (((OpenSpec.ofChange Rows.fnBerStreamSpec).at F).post enc Tryd.prog Tryd.f4 false true false false) := by
  obtain ⟨places, hx⟩ := streamReads os enc
  refine returnsInHanded_of_row (C := Tryd.checked) (s := OpenSpec.ofChange Rows.fnBerStreamSpec) own_knobS started (by kernel_rfl) Tryd.func4
    (witness_row_at (enc := enc) (C := Tryd.checked) false (World.laidAll Tryd.prog os Rows.fnBerAnyRow.laid) #[.slice none 0 0, .slice none 0 0] (World.laidAll_os _ _ _) (by kernel_rfl) (by kernel_rfl) (by kernel_rfl)
      (OpenSpec.preRow_of_cond 8 hx (by kernel_rfl) (fun k hk => by cases hk) (by kernel_rfl) (laidMet_laidAll (laid := Rows.fnBerAnyRow.laid) _ (laidFitsS os) (laidIfacesS os)))) ?_
  intro W base args ds gs before hval hW _ _ _ hL _ _
  exact streamContract H enc W base args ds gs before hval hW hL

theorem stream_said : Rows.FnBerStreamSaid :=
  OpenClaim.holds_of_cond 4 Tryd.f4 rfl rfl rfl rfl rfl rfl rfl ⟨rfl, rfl, rfl, rfl, rfl⟩ rfl rfl rfl rfl rfl (by kernel_rfl) Tryd.func4 (by kernel_rfl)
    (of_decide_eq_true (by kernel_rfl)) (by unfold Func.isWrapper; first | (rw [if_pos (by decide +kernel)]; kernel_rfl) | (rw [if_neg (by decide +kernel)]; exact ⟨rfl, rfl⟩))
    (fun os started H enc _ F => by rw [OpenClaim.pre_eq_preRow]; exact streamLifted os started H enc F)

theorem streamPlain (f : FuncId) (fn : Func) (hf : Tryd.pinned.checked.prog.funcNamed "pub-compendium/laws.FnBerStream" = some f) (hfn : Tryd.pinned.checked.prog.funcs[f]? = some fn) :
    true = Tryd.pinned.checked.prog.looks [] ∧ ∀ (j : Nat) t, fn.params[j]? = some t → Tryd.pinned.checked.prog.wantsStandIn t = false := by
  obtain rfl : f = 4 := Option.some.inj ((show Tryd.prog.funcNamed "pub-compendium/laws.FnBerStream" = some 4 by kernel_rfl).symm.trans hf) |>.symm
  obtain rfl : fn = Tryd.f4 := (Option.some.inj (Tryd.func4.symm.trans hfn)).symm
  refine ⟨by kernel_rfl, fun j t ht => ?_⟩
  rw [Tryd.params4] at ht
  have hm : t ∈ [24, 37] := by simpa using Array.mem_of_getElem? ht
  have hall : ([24, 37].all fun u => !Tryd.prog.wantsStandIn u) = true := by kernel_rfl
  exact (show Tryd.prog.wantsStandIn t = false by simpa using List.all_eq_true.1 hall t hm)

theorem fnBerStream_card : Rows.FnBerStreamCardSaid :=
  Claim7.holds_tied_plain_at .later [] _ _ _ _ stream_said (fun _ h => by cases h) (by kernel_rfl) (fun _ h => by cases h) fnBerStream_row_tie rfl ⟨rfl, rfl⟩ (by kernel_rfl) rfl streamPlain (by kernel_rfl)
end Go.Proofs.YtdfehaonngccjaaDoor

