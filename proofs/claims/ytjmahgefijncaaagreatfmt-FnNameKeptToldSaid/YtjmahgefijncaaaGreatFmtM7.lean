/- The law FnNameKept holds for every input, where the listed package-level variables start as the program's text lays them; fmt's texts are told. -/
import Derived.Test.YtjmahgefijncaaaGreatFmtM6
import Derived.Test.YtjmahgefijncaaaGreatFmtM5
import Derived.ChangeMaps5
set_option linter.unusedVariables false
set_option linter.unusedSimpArgs false
namespace Go.Proofs.YtjmahgefijncaaaGreatFmt
open Go Go.ChangeShapes Go.WideShapes Go.ChangeAt Go.RowKit Go.Extern.Stop Go.Stop Go.Extern

set_option maxRecDepth 100000 in
theorem fnNameKeptContract (F : Interp) (H : Type) (enc : TypeId × Value → H) (W : World) (base : Nat) (args : Array Value) (ds gs : List (DataW H)) (before : List MemPlace) (hF : F.told.answers W.tape)
    (hval : ∀ (j : Nat) t v, Tryz.f10.params[j]? = some t → args[j]? = some v → Value.okWide Tryz.prog W .any base t v)
    (hW : DataW.Whole enc Tryz.prog Tryz.f10.params.toList Rows.fnNameKeptSpec.vars false W args.toList ds gs before) (hL : laidMetH Tryz.prog Rows.fnNameKeptRow.laid W) :
    Calls Tryz.prog 10 args W fun e W' => ∃ v, e = .returned v ∧ Rows.fnNameKeptSpec.post enc Tryz.prog Tryz.f10 false true false false W args v W' := by
  have hW' := hW
  obtain ⟨p, q, hA0, hV, rfl, hfz, hnd⟩ := hW
  have hA : DataW.TrodAll enc Tryz.prog W 0 (fun _ => true) true Tryz.f10.params.toList args.toList ds p := hA0
  rw [Tryz.params10] at hA hval
  obtain ⟨v0, vs0, d0, ds0, p0, q0, hvs0, rfl, rfl, h0, r0⟩ := trodAll_cons hA
  obtain ⟨rfl, rfl, rfl⟩ := trodAll_nil r0
  obtain rfl : args = #[v0] := Array.toList_inj.1 hvs0
  obtain ⟨rfl, rfl⟩ := trodVars_none hV
  have h0k := h0
  obtain ⟨s0, rfl, -, -, hs0⟩ := Go.ChangeMaps.open_string Tryz.underlying9 (hval 0 9 v0 (by simp) (by simp)) h0
  have hmx : maxLen ≤ 9223372036854775807 := by decide
  have hs0l : s0.data.toList.length ≤ 9223372036854775807 := by rw [Array.length_toList]; exact Nat.le_trans hs0 hmx
  have e0 : Value.string s0 = .string (Nm.bs s0.data.toList) := by rw [bs_data]
  have hT : EnvT W.heap.size W ∧ ∃ et eu, W.cell? ⟨1, 0, none⟩ = some (.iface et eu) := by
    have hL2 := hL
    rw [MakeChecks.laidMetH_plain _ _ _ (by kernel_rfl)] at hL2
    exact ⟨envT_laid (env_laid hL2.tail.tail.tail.tail.tail) hL2 (.tail _ (.tail _ (.tail _ (.tail _ (.tail _ (.tail _ (.tail _ (.tail _ (.tail _ (.head _)))))))))) (.tail _ (.tail _ (.tail _ (.head _)))) hL2.tail.tail, hex_err hL2.tail.tail.tail.tail.tail.tail.tail.tail⟩
  obtain ⟨hEnv, et, eu, hev2⟩ := hT
  obtain ⟨ev, hev⟩ : ∃ ev, W.cell? ⟨1, 0, none⟩ = some ev := by
    have hL2 := hL
    rw [MakeChecks.laidMetH_plain _ _ _ (by kernel_rfl)] at hL2
    exact hex_len hL2.tail.tail.tail.tail.tail.tail.tail.tail
  clear hA0
  simp only [List.append_nil] at hW'
  have hlt := hW'.lt
  have hcall : Calls Tryz.prog 10 #[.string s0] W fun e w' => e = .returned (.bool true) ∧ Below W.heap.size W w' := by
    rw [e0]
    exact law_kept F s0.data.toList hs0l W hF et eu hev2 hEnv
  refine hcall.mono fun e W' ⟨he, hb⟩ => ?_
  subst he
  have hs100 : ∀ x ∈ p0, W.sameAt W' x := fun x hx => hb.same (hlt x (hx))
  refine ⟨_, rfl, post_below (pa := (p0 ++ [])) (pv := []) hW' (fun _ _ _ => trodAll_cons_mk (shut_bool Tryz.underlying4 _) trodAll_mk0) (fun sp hsp => ?_) (fun _ _ => rfl) (by simp) hb (ok_one (by kernel_rfl) rfl (okWide_bool_mk Tryz.underlying4 _))⟩
  have hsp : ∀ x ∈ (p0 ++ []), sp x.block = true := by simpa using hsp
  exact trodAll_cons_mk (WideElems.Trod_stays laid_outN (by kernel_rfl) (of_decide_eq_true (by kernel_rfl)) h0k hs100 (fun x hx => hsp x (List.mem_append_left _ hx))) (trodAll_mk0)

theorem fnNameKeptFits (os : Os) : (World.holding Tryz.prog os ⟨#[], #[], []⟩).layFits Tryz.prog Rows.fnNameKeptRow.laid [] = true := by kernel_rfl
theorem fnNameKeptIfaces (os : Os) : (World.holding Tryz.prog os ⟨#[], #[], []⟩).layIfaces Tryz.prog Rows.fnNameKeptRow.laid (World.laidAll Tryz.prog os Rows.fnNameKeptRow.laid) = true := by kernel_rfl

theorem fnNameKeptReads (os : Os) {H : Type} (enc : TypeId × Value → H) : ∃ places, DataW.whole enc Tryz.prog ((World.laidAll Tryz.prog os Rows.fnNameKeptRow.laid).forCall (fun _ _ => 0) ⟨#[], #[Value.string ⟨#[]⟩], []⟩).memory Tryz.f10.params.toList Rows.fnNameKeptSpec.vars false #[Value.string ⟨#[]⟩].toList 8 = some ([.lit (.string [])], [], places) :=
  ⟨[], by kernel_rfl⟩

set_option maxRecDepth 100000 in
theorem fnNameKeptLifted (os : Os) (started : os.Started) (H : Type) (enc : TypeId × Value → H) :
    ReturnsInTold none {} Tryz.checked os 10 .any Input.okWide ((OpenSpec.ofChange Rows.fnNameKeptSpec).preRow enc Tryz.prog Tryz.f10 Rows.fnNameKeptRow.domain false Rows.fnNameKeptRow.laid) (fun F => ((OpenSpec.ofChange Rows.fnNameKeptSpec).at F).post enc Tryz.prog Tryz.f10 false true false false) (aloneAtReturn Tryz.prog) nothingAlways := by
  obtain ⟨places, hx⟩ := fnNameKeptReads os enc
  refine returnsInTold_of_row (C := Tryz.checked) (s := OpenSpec.ofChange Rows.fnNameKeptSpec) (by kernel_rfl) own_knobN started (by kernel_rfl) Tryz.func10
    (OpenSpec.witness_stopped_atRef (enc := enc) (C := Tryz.checked) false (World.laidAll Tryz.prog os Rows.fnNameKeptRow.laid) #[Value.string ⟨#[]⟩] (World.laidAll_os _ _ _) (by kernel_rfl) (by kernel_rfl) (by kernel_rfl)
      (OpenSpec.preRow_of_cond 8 hx (by kernel_rfl) (fun k hk => by cases hk) (by kernel_rfl) (laidMet_laidAll (laid := Rows.fnNameKeptRow.laid) _ (fnNameKeptFits os) (fnNameKeptIfaces os)))) ?_
  intro F W base args ds gs before _ hF hval hW _ _ _ hL _
  exact fnNameKeptContract F H enc W base args ds gs before hF hval hW hL

theorem fnNameKept_card : Rows.FnNameKeptToldSaid :=
  Claim7.holds_of_told_tied_any_at .later 10 Tryz.f10 "fmt.Sprintf" [] [] _ _ _ _ _ (by kernel_rfl) rfl rfl rfl laid_outN (by kernel_rfl) rfl ⟨rfl, rfl, rfl, rfl, rfl, rfl, rfl⟩ rfl rfl (by kernel_rfl) (by kernel_rfl) Tryz.func10 (by kernel_rfl)
    (of_decide_eq_true (by kernel_rfl)) (of_decide_eq_true (by kernel_rfl)) stopsN.symm rfl stopKnobsN.symm (by kernel_rfl)
    (by kernel_rfl) (by kernel_rfl) (by kernel_rfl) (by kernel_rfl) (by kernel_rfl) (by kernel_rfl) (by kernel_rfl) (by kernel_rfl) (by kernel_rfl) rfl (by kernel_rfl) rfl rfl
    rfl rfl
    rfl (by kernel_rfl) (by kernel_rfl) (by kernel_rfl) (by decide) (by kernel_rfl) fnNameKept_row_tie
    (OpenClaim.moreEntering_of (by kernel_rfl) (by kernel_rfl) (by kernel_rfl) (by kernel_rfl) (by kernel_rfl) (by kernel_rfl) (by kernel_rfl) (by kernel_rfl) (by kernel_rfl) (by kernel_rfl))
    ⟨_, WideRow.started_initial, quietN _⟩
    (fun os started _ H enc _ => fnNameKeptLifted os started H enc)
end Go.Proofs.YtjmahgefijncaaaGreatFmt

