/- A value in its forms: the law FnBerForms holds for every input, where the listed package-level variables start as the program's text lays them. -/
import Derived.Test.YtdfehaonngccjaaDoorG1
import Derived.Test.YtdfehaonngccjaaDoorCards
import Derived.Test.YtdfehaonngccjaaDoorTie
set_option linter.unusedVariables false
set_option linter.unusedSimpArgs false
namespace Go.Proofs.YtdfehaonngccjaaDoor
open Go Go.ChangeShapes Go.WideShapes Go.ChangeAt Go.RowKit Go.Proofs.YtdfehaonngccjaaDoorW.PrintWords

theorem own_knobF : ownKnob Tryd.prog.godebug = none := by kernel_rfl
theorem laid_outF : laidOutB Tryd.prog = true := by kernel_rfl

set_option maxRecDepth 100000 in
theorem fnBerFormsContract (H : Type) (enc : TypeId × Value → H) (W : World) (base : Nat) (args : Array Value) (ds gs : List (DataW H)) (before : List MemPlace)
    (hval : ∀ (j : Nat) t v, Tryd.f6.params[j]? = some t → args[j]? = some v → Value.okWide Tryd.prog W .any base t v)
    (hW : DataW.Whole enc Tryd.prog Tryd.f6.params.toList Rows.fnBerFormsSpec.vars false W args.toList ds gs before) (hL : laidMetH Tryd.prog Rows.fnBerFormsRow.laid W) :
    Calls Tryd.prog 6 args W fun e W' => ∃ v, e = .returned v ∧ Rows.fnBerFormsSpec.post enc Tryd.prog Tryd.f6 false true false false W args v W' := by
  have hW' := hW
  obtain ⟨p, q, hA0, hV, rfl, hfz, hnd⟩ := hW
  have hA : DataW.TrodAll enc Tryd.prog W 0 (fun _ => true) true Tryd.f6.params.toList args.toList ds p := hA0
  rw [Tryd.params6] at hA hval
  obtain ⟨v0, vs0, d0, ds0, p0, q0, hvs0, rfl, rfl, h0, r0⟩ := trodAll_cons hA
  obtain ⟨v1, vs1, d1, ds1, p1, q1, hvs1, rfl, rfl, h1, r1⟩ := trodAll_cons r0
  obtain ⟨v2, vs2, d2, ds2, p2, q2, hvs2, rfl, rfl, h2, r2⟩ := trodAll_cons r1
  obtain ⟨rfl, rfl, rfl⟩ := trodAll_nil r2
  subst hvs2
  subst hvs1
  obtain rfl : args = #[v0, v1, v2] := Array.toList_inj.1 hvs0
  obtain ⟨rfl, rfl⟩ := trodVars_none hV
  have h0k := h0
  have h1k := h1
  have h2k := h2
  obtain ⟨c0, b0, t0, data, items, A0, cp0, rfl, hty, hC0, hc0⟩ := open_ber (okWide_struct Tryd.underlying26 (hval 0 26 v0 (by simp) (by simp))) h0
  obtain ⟨A1, cp1, ch, rfl, hc1, hC1⟩ := open_choices (okWide_slice Tryd.underlying37 (hval 1 37 v1 (by simp) (by simp))) h1
  obtain ⟨s, rfl⟩ := okWide_string Tryd.underlying9 (hval 2 9 v2 (by simp) (by simp))
  clear hA0
  simp only [List.append_nil] at hW'
  have hlt := hW'.lt
  refine (law_forms W.heap.size W (env_of_laid hL) (Nat.le_refl _) c0 b0 t0 data items A0 cp0 hC0 hc0 hty ch A1 cp1 hC1 s.data.toList).mono fun e W' ⟨he, hb⟩ => ?_
  subst he
  have hs0 : ∀ x ∈ p0, W.sameAt W' x := fun x hx => hb.same (hlt x (List.mem_append_left _ hx))
  have hs1 : ∀ x ∈ p1, W.sameAt W' x := fun x hx => hb.same (hlt x (List.mem_append_right _ (List.mem_append_left _ hx)))
  have hs2 : ∀ x ∈ p2, W.sameAt W' x := fun x hx => hb.same (hlt x (List.mem_append_right _ (List.mem_append_right _ hx)))
  exact ⟨_, rfl, post_below (pa := p0 ++ (p1 ++ (p2 ++ []))) (pv := []) hW' (fun _ _ _ => trodAll_cons_mk (shut_bool Tryd.underlying4 _) trodAll_mk0)
    (fun sp hsp => trodAll_cons_mk (WideElems.Trod_stays laid_outF (by kernel_rfl) (of_decide_eq_true (by kernel_rfl)) h0k hs0 (fun x hx => hsp x (List.mem_append_left _ hx))) (trodAll_cons_mk (WideElems.Trod_stays laid_outF (by kernel_rfl) (of_decide_eq_true (by kernel_rfl)) h1k hs1 (fun x hx => hsp x (List.mem_append_right _ (List.mem_append_left _ hx)))) (trodAll_cons_mk (WideElems.Trod_stays laid_outF (by kernel_rfl) (of_decide_eq_true (by kernel_rfl)) h2k hs2 (fun x hx => hsp x (List.mem_append_right _ (List.mem_append_right _ hx)))) (trodAll_mk0)))) (fun _ _ => rfl) (by simp)
    hb (ok_one (by kernel_rfl) rfl (okWide_bool_mk Tryd.underlying4 _))⟩

theorem laidFitsF (os : Os) : (World.holding Tryd.prog os ⟨#[], #[], []⟩).layFits Tryd.prog Rows.fnBerAnyRow.laid [] = true := by kernel_rfl
theorem laidIfacesF (os : Os) : (World.holding Tryd.prog os ⟨#[], #[], []⟩).layIfaces Tryd.prog Rows.fnBerAnyRow.laid (World.laidAll Tryd.prog os Rows.fnBerAnyRow.laid) = true := by kernel_rfl

theorem fnBerFormsReads (os : Os) {H : Type} (enc : TypeId × Value → H) : ∃ places, DataW.whole enc Tryd.prog ((World.laidAll Tryd.prog os Rows.fnBerAnyRow.laid).forCall (fun _ _ => 0) ⟨#[], #[.agg #[.int .u8 0, .bool false, .int .u64 0, .string ⟨#[]⟩, .slice none 0 0], .slice none 0 0, .string ⟨#[]⟩], []⟩).memory Tryd.f6.params.toList Rows.fnBerFormsSpec.vars false #[Value.agg #[.int .u8 0, .bool false, .int .u64 0, .string ⟨#[]⟩, .slice none 0 0], Value.slice none 0 0, Value.string ⟨#[]⟩].toList 8 = some ([.agg [.lit (.int .u8 0), .lit (.bool false), .lit (.int .u64 0), .lit (.string []), .nil], .nil, .lit (.string [])], [], places) :=
  ⟨[], by kernel_rfl⟩

set_option maxRecDepth 100000 in
theorem fnBerFormsLifted (os : Os) (started : os.Started) (H : Type) (enc : TypeId × Value → H) (F : Stop.Interp) :
    ReturnsInHanded {} Tryd.checked os 6 .any ((OpenSpec.ofChange Rows.fnBerFormsSpec).preRow enc Tryd.prog Tryd.f6 Rows.fnBerFormsRow.domain false Rows.fnBerFormsRow.laid) (((OpenSpec.ofChange Rows.fnBerFormsSpec).at F).post enc Tryd.prog Tryd.f6 false true false false) := by
  obtain ⟨places, hx⟩ := fnBerFormsReads os enc
  refine returnsInHanded_of_row (C := Tryd.checked) (s := OpenSpec.ofChange Rows.fnBerFormsSpec) own_knobF started (by kernel_rfl) Tryd.func6
    (witness_row_at (enc := enc) (C := Tryd.checked) false (World.laidAll Tryd.prog os Rows.fnBerAnyRow.laid) #[.agg #[.int .u8 0, .bool false, .int .u64 0, .string ⟨#[]⟩, .slice none 0 0], .slice none 0 0, .string ⟨#[]⟩] (World.laidAll_os _ _ _) (by kernel_rfl) (by kernel_rfl) (by kernel_rfl)
      (OpenSpec.preRow_of_cond 8 hx (by kernel_rfl) (fun k hk => by cases hk) (by kernel_rfl) (laidMet_laidAll (laid := Rows.fnBerAnyRow.laid) _ (laidFitsF os) (laidIfacesF os)))) ?_
  intro W base args ds gs before hval hW _ _ _ hL _ _
  exact fnBerFormsContract H enc W base args ds gs before hval hW hL

theorem fnBerForms_said : Rows.FnBerFormsSaid :=
  OpenClaim.holds_of_cond 6 Tryd.f6 rfl rfl rfl rfl rfl rfl rfl ⟨rfl, rfl, rfl, rfl, rfl⟩ rfl rfl rfl rfl rfl (by kernel_rfl) Tryd.func6 (by kernel_rfl)
    (of_decide_eq_true (by kernel_rfl)) (by unfold Func.isWrapper; first | (rw [if_pos (by decide +kernel)]; kernel_rfl) | (rw [if_neg (by decide +kernel)]; exact ⟨rfl, rfl⟩))
    (fun os started H enc _ F => by rw [OpenClaim.pre_eq_preRow]; exact fnBerFormsLifted os started H enc F)

theorem fnBerFormsPlain (f : FuncId) (fn : Func) (hf : Tryd.pinned.checked.prog.funcNamed "pub-compendium/laws.FnBerForms" = some f) (hfn : Tryd.pinned.checked.prog.funcs[f]? = some fn) :
    true = Tryd.pinned.checked.prog.looks [] ∧ ∀ (j : Nat) t, fn.params[j]? = some t → Tryd.pinned.checked.prog.wantsStandIn t = false := by
  obtain rfl : f = 6 := Option.some.inj ((show Tryd.prog.funcNamed "pub-compendium/laws.FnBerForms" = some 6 by kernel_rfl).symm.trans hf) |>.symm
  obtain rfl : fn = Tryd.f6 := (Option.some.inj (Tryd.func6.symm.trans hfn)).symm
  refine ⟨by kernel_rfl, fun j t ht => ?_⟩
  rw [Tryd.params6] at ht
  have hm : t ∈ [26, 37, 9] := by simpa using Array.mem_of_getElem? ht
  have hall : ([26, 37, 9].all fun u => !Tryd.prog.wantsStandIn u) = true := by kernel_rfl
  exact (show Tryd.prog.wantsStandIn t = false by simpa using List.all_eq_true.1 hall t hm)

theorem fnBerForms_card : Rows.FnBerFormsCardSaid :=
  Claim7.holds_tied_plain_at .later [] _ _ _ _ fnBerForms_said (fun _ h => by cases h) (by kernel_rfl) (fun _ h => by cases h) fnBerForms_row_tie rfl ⟨rfl, rfl⟩ (by kernel_rfl) rfl fnBerFormsPlain (by kernel_rfl)
end Go.Proofs.YtdfehaonngccjaaDoor

