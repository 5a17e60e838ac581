/- A message with a result: the law FnResultTold holds for every input, where the listed package-level variables start as the program's text lays them. -/
import Derived.Test.YtdfehaonngccjaaGreatDoorZ12
import Derived.Test.YtdfehaonngccjaaGreatDoorCards
import Derived.Test.YtdfehaonngccjaaGreatDoorTie
set_option linter.unusedVariables false
set_option linter.unusedSimpArgs false
namespace Go.Proofs.YtdfehaonngccjaaGreatDoor
open Go Go.ChangeShapes Go.WideShapes Go.ChangeAt Go.RowKit Go.Proofs.YtdfehaonngccjaaGreatDoorW.PrintWords

theorem own_knobR : ownKnob Tryz.prog.godebug = none := by kernel_rfl
theorem laid_outR : laidOutB Tryz.prog = true := by kernel_rfl

set_option maxRecDepth 100000 in
theorem fnResultToldContract (H : Type) (enc : TypeId × Value → H) (W : World) (base : Nat) (args : Array Value) (ds gs : List (DataW H)) (before : List MemPlace)
    (hval : ∀ (j : Nat) t v, Tryz.f3.params[j]? = some t → args[j]? = some v → Value.okWide Tryz.prog W .any base t v)
    (hW : DataW.Whole enc Tryz.prog Tryz.f3.params.toList Rows.fnResultToldSpec.vars false W args.toList ds gs before) (hL : laidMetH Tryz.prog Rows.fnResultToldRow.laid W) :
    Calls Tryz.prog 3 args W fun e W' => ∃ v, e = .returned v ∧ Rows.fnResultToldSpec.post enc Tryz.prog Tryz.f3 false true false false W args v W' := by
  have hW' := hW
  obtain ⟨p, q, hA0, hV, rfl, hfz, hnd⟩ := hW
  have hA : DataW.TrodAll enc Tryz.prog W 0 (fun _ => true) true Tryz.f3.params.toList args.toList ds p := hA0
  rw [Tryz.params3] at hA hval
  obtain ⟨v0, vs0, d0, ds0, p0, q0, hvs0, rfl, rfl, h0, r0⟩ := trodAll_cons hA
  obtain ⟨v1, vs1, d1, ds1, p1, q1, hvs1, rfl, rfl, h1, r1⟩ := trodAll_cons r0
  obtain ⟨v2, vs2, d2, ds2, p2, q2, hvs2, rfl, rfl, h2, r2⟩ := trodAll_cons r1
  obtain ⟨v3, vs3, d3, ds3, p3, q3, hvs3, rfl, rfl, h3, r3⟩ := trodAll_cons r2
  obtain ⟨rfl, rfl, rfl⟩ := trodAll_nil r3
  subst hvs3
  subst hvs2
  subst hvs1
  obtain rfl : args = #[v0, v1, v2, v3] := Array.toList_inj.1 hvs0
  obtain ⟨rfl, rfl⟩ := trodVars_none hV
  have h0k := h0
  have h1k := h1
  have h2k := h2
  have h3k := h3
  obtain ⟨id, rfl, -, -, wid⟩ := open_int Tryz.underlying2 (hval 0 2 v0 (by simp) (by simp)) h0
  obtain ⟨kn, rfl, -, -, wk⟩ := open_int Tryz.underlying5 (hval 1 5 v1 (by simp) (by simp)) h1
  obtain ⟨code, matched, text, refs, A2, cp2, rfl, hcp2, hrm, hC2⟩ := open_result (okWide_struct Tryz.underlying24 (hval 2 24 v2 (by simp) (by simp))) h2
  obtain ⟨A3, cp3, ch, rfl, hc3, hC3⟩ := open_choices (okWide_slice Tryz.underlying25 (hval 3 25 v3 (by simp) (by simp))) h3
  have hkn : 0 ≤ kn ∧ kn < 256 := by
    have h := wk
    simp only [Lit.wf, Bool.and_eq_true, decide_eq_true_eq] at h
    exact ⟨h.1, Int.lt_of_le_of_lt h.2 (by decide)⟩
  obtain ⟨kv, rfl⟩ : ∃ kv : Nat, kn = (kv : Int) := ⟨kn.toNat, by omega⟩
  clear hA0
  simp only [List.append_nil] at hW'
  have hlt := hW'.lt
  refine (law_result W.heap.size W (env_of_laid hL) (Nat.le_refl _) id code kv (by omega) matched text refs A2 cp2 hC2 hcp2 hrm ch A3 cp3 hC3 hc3).mono fun e W' ⟨he, hb⟩ => ?_
  subst he
  have hs0 : ∀ x ∈ p0, W.sameAt W' x := fun x hx => hb.same (hlt x (List.mem_append_left _ hx))
  have hs1 : ∀ x ∈ p1, W.sameAt W' x := fun x hx => hb.same (hlt x (List.mem_append_right _ (List.mem_append_left _ hx)))
  have hs2 : ∀ x ∈ p2, W.sameAt W' x := fun x hx => hb.same (hlt x (List.mem_append_right _ (List.mem_append_right _ (List.mem_append_left _ hx))))
  have hs3 : ∀ x ∈ p3, W.sameAt W' x := fun x hx => hb.same (hlt x (List.mem_append_right _ (List.mem_append_right _ (List.mem_append_right _ hx))))
  exact ⟨_, rfl, post_below (pa := p0 ++ (p1 ++ (p2 ++ (p3 ++ [])))) (pv := []) hW' (fun _ _ _ => trodAll_cons_mk (shut_bool Tryz.underlying4 _) trodAll_mk0)
    (fun sp hsp => trodAll_cons_mk (WideElems.Trod_stays laid_outR (by kernel_rfl) (of_decide_eq_true (by kernel_rfl)) h0k hs0 (fun x hx => hsp x (List.mem_append_left _ hx))) (trodAll_cons_mk (WideElems.Trod_stays laid_outR (by kernel_rfl) (of_decide_eq_true (by kernel_rfl)) h1k hs1 (fun x hx => hsp x (List.mem_append_right _ (List.mem_append_left _ hx)))) (trodAll_cons_mk (WideElems.Trod_stays laid_outR (by kernel_rfl) (of_decide_eq_true (by kernel_rfl)) h2k hs2 (fun x hx => hsp x (List.mem_append_right _ (List.mem_append_right _ (List.mem_append_left _ hx))))) (trodAll_cons_mk (WideElems.Trod_stays laid_outR (by kernel_rfl) (of_decide_eq_true (by kernel_rfl)) h3k hs3 (fun x hx => hsp x (List.mem_append_right _ (List.mem_append_right _ (List.mem_append_right _ hx))))) (trodAll_mk0))))) (fun _ _ => rfl) (by simp)
    hb (ok_one (by kernel_rfl) rfl (okWide_bool_mk Tryz.underlying4 _))⟩

theorem laidFitsR (os : Os) : (World.holding Tryz.prog os ⟨#[], #[], []⟩).layFits Tryz.prog Rows.fnResultToldRow.laid [] = true := by kernel_rfl
theorem laidIfacesR (os : Os) : (World.holding Tryz.prog os ⟨#[], #[], []⟩).layIfaces Tryz.prog Rows.fnResultToldRow.laid (World.laidAll Tryz.prog os Rows.fnResultToldRow.laid) = true := by kernel_rfl

theorem fnResultToldReads (os : Os) {H : Type} (enc : TypeId × Value → H) : ∃ places, DataW.whole enc Tryz.prog ((World.laidAll Tryz.prog os Rows.fnResultToldRow.laid).forCall (fun _ _ => 0) ⟨#[], #[.int .i64 0, .int .u8 0, .agg #[.int .i64 0, .string ⟨#[]⟩, .string ⟨#[]⟩, .slice none 0 0], .slice none 0 0], []⟩).memory Tryz.f3.params.toList Rows.fnResultToldSpec.vars false #[Value.int .i64 0, Value.int .u8 0, Value.agg #[.int .i64 0, .string ⟨#[]⟩, .string ⟨#[]⟩, .slice none 0 0], Value.slice none 0 0].toList 8 = some ([.lit (.int .i64 0), .lit (.int .u8 0), .agg [.lit (.int .i64 0), .lit (.string []), .lit (.string []), .nil], .nil], [], places) :=
  ⟨[], by kernel_rfl⟩

set_option maxRecDepth 100000 in
theorem fnResultToldLifted (os : Os) (started : os.Started) (H : Type) (enc : TypeId × Value → H) (F : Stop.Interp) :
    ReturnsInHanded {} Tryz.checked os 3 .any ((OpenSpec.ofChange Rows.fnResultToldSpec).preRow enc Tryz.prog Tryz.f3 Rows.fnResultToldRow.domain false Rows.fnResultToldRow.laid) (((OpenSpec.ofChange Rows.fnResultToldSpec).at F).post enc Tryz.prog Tryz.f3 false true false false) := by
  obtain ⟨places, hx⟩ := fnResultToldReads os enc
  refine returnsInHanded_of_row (C := Tryz.checked) (s := OpenSpec.ofChange Rows.fnResultToldSpec) own_knobR started (by kernel_rfl) Tryz.func3
    (witness_row_at (enc := enc) (C := Tryz.checked) false (World.laidAll Tryz.prog os Rows.fnResultToldRow.laid) #[.int .i64 0, .int .u8 0, .agg #[.int .i64 0, .string ⟨#[]⟩, .string ⟨#[]⟩, .slice none 0 0], .slice none 0 0] (World.laidAll_os _ _ _) (by kernel_rfl) (by kernel_rfl) (by kernel_rfl)
      (OpenSpec.preRow_of_cond 8 hx (by kernel_rfl) (fun k hk => by cases hk) (by kernel_rfl) (laidMet_laidAll (laid := Rows.fnResultToldRow.laid) _ (laidFitsR os) (laidIfacesR os)))) ?_
  intro W base args ds gs before hval hW _ _ _ hL _ _
  exact fnResultToldContract H enc W base args ds gs before hval hW hL

theorem fnResultTold_said : Rows.FnResultToldSaid :=
  OpenClaim.holds_of_cond 3 Tryz.f3 rfl rfl rfl rfl rfl rfl rfl ⟨rfl, rfl, rfl, rfl, rfl⟩ rfl rfl rfl rfl rfl (by kernel_rfl) Tryz.func3 (by kernel_rfl)
    (of_decide_eq_true (by kernel_rfl)) (by unfold Func.isWrapper; first | (rw [if_pos (by decide +kernel)]; kernel_rfl) | (rw [if_neg (by decide +kernel)]; exact ⟨rfl, rfl⟩))
    (fun os started H enc _ F => by rw [OpenClaim.pre_eq_preRow]; exact fnResultToldLifted os started H enc F)

theorem fnResultToldPlain (f : FuncId) (fn : Func) (hf : Tryz.pinned.checked.prog.funcNamed "pub-compendium/laws.FnResultTold" = some f) (hfn : Tryz.pinned.checked.prog.funcs[f]? = some fn) :
    true = Tryz.pinned.checked.prog.looks [] ∧ ∀ (j : Nat) t, fn.params[j]? = some t → Tryz.pinned.checked.prog.wantsStandIn t = false := by
  obtain rfl : f = 3 := Option.some.inj ((show Tryz.prog.funcNamed "pub-compendium/laws.FnResultTold" = some 3 by kernel_rfl).symm.trans hf) |>.symm
  obtain rfl : fn = Tryz.f3 := (Option.some.inj (Tryz.func3.symm.trans hfn)).symm
  refine ⟨by kernel_rfl, fun j t ht => ?_⟩
  rw [Tryz.params3] at ht
  have hm : t ∈ [2, 5, 24, 25] := by simpa using Array.mem_of_getElem? ht
  have hall : ([2, 5, 24, 25].all fun u => !Tryz.prog.wantsStandIn u) = true := by kernel_rfl
  exact (show Tryz.prog.wantsStandIn t = false by simpa using List.all_eq_true.1 hall t hm)

theorem fnResultTold_card : Rows.FnResultToldCardSaid :=
  Claim7.holds_tied_plain_at .later [] _ _ _ _ fnResultTold_said (fun _ h => by cases h) (by kernel_rfl) (fun _ h => by cases h) fnResultTold_row_tie rfl ⟨rfl, rfl⟩ (by kernel_rfl) rfl fnResultToldPlain (by kernel_rfl)
end Go.Proofs.YtdfehaonngccjaaGreatDoor

