/- The law FnPostal holds for every input, where the listed package-level variables start as the program's text lays them; fmt's texts are told. -/
import Derived.Test.YtjmahgefijncaaaGreatFmtLawP
import Derived.Test.YtjmahgefijncaaaGreatFmtOpenN
import Derived.Test.YtjmahgefijncaaaGreatFmtPostN
import Derived.ChangeMaps5
namespace Go.Proofs.YtjmahgefijncaaaGreatFmt
open Go Go.ChangeShapes Go.WideShapes Go.ChangeAt Go.RowKit Go.Extern.Stop Go.Stop Go.Extern

set_option maxRecDepth 100000 in
theorem fnPostalContract (H : Type) (enc : TypeId × Value → H) (W : World) (base : Nat) (args : Array Value) (ds gs : List (DataW H)) (before : List MemPlace)
    (hval : ∀ (j : Nat) t v, Tryz.f5.params[j]? = some t → args[j]? = some v → Value.okWide Tryz.prog W .any base t v)
    (hW : DataW.Whole enc Tryz.prog Tryz.f5.params.toList Rows.fnPostalSpec.vars false W args.toList ds gs before) (hL : laidMetH Tryz.prog Rows.fnPostalRow.laid W) :
    Calls Tryz.prog 5 args W fun e W' => ∃ v, e = .returned v ∧ Rows.fnPostalSpec.post enc Tryz.prog Tryz.f5 false true false false W args v W' := by
  have hW' := hW
  obtain ⟨p, q, hA0, hV, rfl, hfz, hnd⟩ := hW
  have hA : DataW.TrodAll enc Tryz.prog W 0 (fun _ => true) true Tryz.f5.params.toList args.toList ds p := hA0
  rw [Tryz.params5] at hA hval
  obtain ⟨v0, vs0, d0, ds0, p0, q0, hvs0, rfl, rfl, h0, r0⟩ := trodAll_cons hA
  obtain ⟨v1, vs1, d1, ds1, p1, q1, hvs1, rfl, rfl, h1, r1⟩ := trodAll_cons r0
  obtain ⟨rfl, rfl, rfl⟩ := trodAll_nil r1
  subst hvs1
  obtain rfl : args = #[v0, v1] := Array.toList_inj.1 hvs0
  obtain ⟨rfl, rfl⟩ := trodVars_none hV
  have h0k := h0
  have h1k := h1
  obtain ⟨a0, n0, c0, rfl⟩ := okWide_slice Tryz.underlying34 (hval 0 34 v0 (by simp) (by simp))
  obtain ⟨u0, hu0⟩ := h0
  obtain ⟨al, hAl, hl1, hl2⟩ := open_strs (u := .slice a0 n0 c0) (x := (d0, p0)) hu0
  obtain ⟨b1, rfl, -, -⟩ := open_bool Tryz.underlying4 (hval 1 4 v1 (by simp) (by simp)) h1
  have hmx : maxLen ≤ 9223372036854775807 := by decide
  obtain ⟨ev, hev⟩ : ∃ ev, W.cell? ⟨1, 0, none⟩ = some ev := by
    have hL2 := hL
    rw [MakeChecks.laidMetH_plain _ _ _ (by kernel_rfl)] at hL2
    exact hex_len hL2.tail.tail.tail.tail.tail.tail.tail.tail
  clear hA0
  simp only [List.append_nil] at hW'
  have hlt := hW'.lt
  have hcall : Calls Tryz.prog 5 #[.slice a0 n0 c0, .bool b1] W fun e w' => e = .returned (.bool true) ∧ Below W.heap.size W w' := by

    exact law_postal al _ b1 W hAl (Nat.le_trans hl1 hmx) ev hev
  refine hcall.mono fun e W' ⟨he, hb⟩ => ?_
  subst he
  have hs100 : ∀ x ∈ p0, W.sameAt W' x := fun x hx => hb.same (hlt x (List.mem_append_left _ hx))
  have hs101 : ∀ x ∈ p1, W.sameAt W' x := fun x hx => hb.same (hlt x (List.mem_append_right _ hx))
  refine ⟨_, rfl, post_below (pa := (p0 ++ (p1 ++ []))) (pv := []) hW' (fun _ _ _ => trodAll_cons_mk (shut_bool Tryz.underlying4 _) trodAll_mk0) (fun sp hsp => ?_) (fun _ _ => rfl) (by simp) hb (ok_one (by kernel_rfl) rfl (okWide_bool_mk Tryz.underlying4 _))⟩
  have hsp : ∀ x ∈ (p0 ++ (p1 ++ [])), sp x.block = true := by simpa using hsp
  exact trodAll_cons_mk (WideElems.Trod_stays laid_outN (by kernel_rfl) (of_decide_eq_true (by kernel_rfl)) h0k hs100 (fun x hx => hsp x (List.mem_append_left _ hx))) (trodAll_cons_mk (WideElems.Trod_stays laid_outN (by kernel_rfl) (of_decide_eq_true (by kernel_rfl)) h1k hs101 (fun x hx => hsp x (List.mem_append_right _ (List.mem_append_left _ hx)))) (trodAll_mk0))

theorem fnPostalFits (os : Os) : (World.holding Tryz.prog os ⟨#[], #[], []⟩).layFits Tryz.prog Rows.fnPostalRow.laid [] = true := by kernel_rfl
theorem fnPostalIfaces (os : Os) : (World.holding Tryz.prog os ⟨#[], #[], []⟩).layIfaces Tryz.prog Rows.fnPostalRow.laid (World.laidAll Tryz.prog os Rows.fnPostalRow.laid) = true := by kernel_rfl

theorem fnPostalReads (os : Os) {H : Type} (enc : TypeId × Value → H) : ∃ places, DataW.whole enc Tryz.prog ((World.laidAll Tryz.prog os Rows.fnPostalRow.laid).forCall (fun _ _ => 0) ⟨#[], #[Value.slice none 0 0, Value.bool false], []⟩).memory Tryz.f5.params.toList Rows.fnPostalSpec.vars false #[Value.slice none 0 0, Value.bool false].toList 8 = some ([.nil, .lit (.bool false)], [], places) :=
  ⟨[], by kernel_rfl⟩

set_option maxRecDepth 100000 in
theorem fnPostalLifted (os : Os) (started : os.Started) (H : Type) (enc : TypeId × Value → H) :
    ReturnsInTold none {} Tryz.checked os 5 .any Input.okWide ((OpenSpec.ofChange Rows.fnPostalSpec).preRow enc Tryz.prog Tryz.f5 Rows.fnPostalRow.domain false Rows.fnPostalRow.laid) (fun F => ((OpenSpec.ofChange Rows.fnPostalSpec).at F).post enc Tryz.prog Tryz.f5 false true false false) (aloneAtReturn Tryz.prog) nothingAlways := by
  obtain ⟨places, hx⟩ := fnPostalReads os enc
  refine returnsInTold_of_row (C := Tryz.checked) (s := OpenSpec.ofChange Rows.fnPostalSpec) (by kernel_rfl) own_knobN started (by kernel_rfl) Tryz.func5
    (OpenSpec.witness_stopped_atRef (enc := enc) (C := Tryz.checked) false (World.laidAll Tryz.prog os Rows.fnPostalRow.laid) #[Value.slice none 0 0, Value.bool false] (World.laidAll_os _ _ _) (by kernel_rfl) (by kernel_rfl) (by kernel_rfl)
      (OpenSpec.preRow_of_cond 8 hx (by kernel_rfl) (fun k hk => by cases hk) (by kernel_rfl) (laidMet_laidAll (laid := Rows.fnPostalRow.laid) _ (fnPostalFits os) (fnPostalIfaces os)))) ?_
  intro F W base args ds gs before _ _ hval hW _ _ _ hL _
  exact fnPostalContract H enc W base args ds gs before hval hW hL

theorem fnPostal_card : Rows.FnPostalToldSaid :=
  Claim7.holds_of_told_tied_any_at .later 5 Tryz.f5 "fmt.Sprintf" [] [] _ _ _ _ _ (by kernel_rfl) rfl rfl rfl laid_outN (by kernel_rfl) rfl ⟨rfl, rfl, rfl, rfl, rfl, rfl, rfl⟩ rfl rfl (by kernel_rfl) (by kernel_rfl) Tryz.func5 (by kernel_rfl)
    (of_decide_eq_true (by kernel_rfl)) (of_decide_eq_true (by kernel_rfl)) stopsN.symm rfl stopKnobsN.symm (by kernel_rfl)
    (by kernel_rfl) (by kernel_rfl) (by kernel_rfl) (by kernel_rfl) (by kernel_rfl) (by kernel_rfl) (by kernel_rfl) (by kernel_rfl) (by kernel_rfl) rfl (by kernel_rfl) rfl rfl
    rfl rfl
    rfl (by kernel_rfl) (by kernel_rfl) (by kernel_rfl) (by decide) (by kernel_rfl) fnPostal_row_tie
    (OpenClaim.moreEntering_of (by kernel_rfl) (by kernel_rfl) (by kernel_rfl) (by kernel_rfl) (by kernel_rfl) (by kernel_rfl) (by kernel_rfl) (by kernel_rfl) (by kernel_rfl) (by kernel_rfl))
    ⟨_, WideRow.started_initial, quietN _⟩
    (fun os started _ H enc _ => fnPostalLifted os started H enc)
end Go.Proofs.YtjmahgefijncaaaGreatFmt
