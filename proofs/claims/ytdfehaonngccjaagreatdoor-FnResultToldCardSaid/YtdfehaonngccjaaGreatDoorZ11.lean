/- What the rows' lists give; the rows' posts behind calls that leave old memory alone. -/
import Derived.Test.YtdfehaonngccjaaGreatDoorZ10
import Derived.Test.YtdfehaonngccjaaGreatDoorRows
import Derived.Stop.LaidTwo
import Derived.MakeChecks
import Derived.RowKit
import Derived.OpenShut
import Derived.Below
set_option linter.unusedVariables false
set_option linter.unusedSimpArgs false
namespace Go.Proofs.YtdfehaonngccjaaGreatDoor
open Go Go.RowKit Go.ChangeShapes Go.WideShapes

/-- A post whose call leaves every old block as it was. -/
theorem post_below {H : Type} {enc : TypeId × Value → H} {P : Program} {f : Func} {s : ChangeSpec} {apart fresh handsOn again : Bool} {W W' : World} {args : Array Value} {v : Value} {ds gs : List (DataW H)} {before pa pv : List MemPlace}
    (hW : DataW.Whole enc P f.params.toList s.vars apart W args.toList ds gs before)
    (hres : ∀ (b : Nat) (sp : Nat → Bool) (hd : Bool), DataW.TrodAll enc P W' b sp hd f.resultTypes.toList (v.resultList f.resultTypes.size) (s.fn H (ds ++ gs)).results [])
    (hargs : ∀ sp : Nat → Bool, (∀ p ∈ before, sp p.block = true) → DataW.TrodAll enc P W' 0 sp true f.params.toList args.toList (s.fn H (ds ++ gs)).args pa)
    (hvars : ∀ sp : Nat → Bool, (∀ p ∈ before, sp p.block = true) → DataW.TrodVars enc P W' sp s.vars (s.fn H (ds ++ gs)).vars pv)
    (hps : before = pa ++ pv) (hb : Below W.heap.size W W')
    (hok : ∀ (j : Nat) (t : TypeId) (r : Value), f.resultTypes[j]? = some t → (v.resultList f.resultTypes.size)[j]? = some r → Value.okWide P W' .any 0 t r) :
    s.post enc P f apart fresh handsOn again W args v W' := by
  have hlt := hW.lt
  have hold : ∀ p ∈ before, (fun b => decide (b < W.heap.size)) p.block = true := fun p hp => decide_eq_true (hlt p hp)
  refine ⟨ds, gs, before, [], pa, pv, hW, hres _ _ _, hargs _ hold, hvars _ hold, World.keptBut_mono (fun p hp => ⟨hp, Or.inr (List.mem_append.1 (hps ▸ hp))⟩) (hb.frame (· ∈ before)), fun _ => ?_⟩
  obtain ⟨_, _, _, _, _, hz, hn⟩ := hW
  refine ⟨hok, _, _, ([] ++ pa) ++ pv, ⟨[] ++ pa, pv, trodAll_append (hargs _ (fun _ _ => rfl)) (hres _ _ _), hvars _ (fun _ _ => rfl), rfl, fun b off hp => ?_, fun ha => ?_⟩, fun p hp _ => by rw [hps]; simpa using hp⟩
  · have hm : MemPlace.cell b off ∈ before := by rw [hps]; simpa using hp
    exact (hb.frozen (p := ⟨b, off, none⟩) (hlt _ hm)).trans (hz b off hm)
  · have := hn ha
    rw [hps] at this
    simpa using this

theorem err_star : "*" ++ "errors.errorString" = "*errors.errorString" := by decide
theorem err_row (u : TypeId) (h : Tryz.prog.typeName? 3 u = some "*errors.errorString") : u = 110 :=
  typeName_ptr_named (nm := "errors.errorString") (by rw [err_star]; kernel_rfl) (by kernel_rfl) (by decide) u (by rw [err_star]; exact h)

theorem env_of_laid {W : World} (h : laidMetH Tryz.prog Rows.fnResultToldRow.laid W) : Env W.heap.size W := by
  rw [MakeChecks.laidMetH_plain _ _ _ (by kernel_rfl)] at h
  have h5 := h.tail.tail.tail.tail.tail
  have g0 : Tryz.prog.globalNamed "io.EOF" = some 0 := by kernel_rfl
  have g1 : Tryz.prog.globalNamed "io.ErrUnexpectedEOF" = some 2 := by kernel_rfl
  obtain ⟨a0, a1, s0, s1, c0, c1, t0, t1, hv0, hv1, k0, e0, -, k1, e1, -, -, b0, b1⟩ := laid_sentinels2 h5 g0 (show (Tryz.prog.globals[0]?).map (·.type) = some 58 by kernel_rfl) g1 (show (Tryz.prog.globals[2]?).map (·.type) = some 58 by kernel_rfl)
    Tryz.underlying58 err_row Tryz.underlying110 Tryz.underlying112 rfl rfl Tryz.underlying9 (by kernel_rfl) (by kernel_rfl)
  have z0 : s0.size = 3 := by have := congrArg List.length e0; simpa using this
  have z1 : s1.size = 14 := by have := congrArg List.length e1; simpa using this
  have w0 := World.var?_cell g0 hv0 0
  have w1 := World.var?_cell g1 hv1 0
  refine ⟨⟨a0, w0.trans rfl, blockLt b0, s0, c0, t0, b0, k0, by omega, by omega⟩, ⟨a1, w1.trans rfl, blockLt b1, s1, c1, t1, b1, k1, by omega, by omega⟩, World.block_lt_of_cell? W ⟨0, 0, none⟩ (w0.trans rfl), World.block_lt_of_cell? W ⟨2, 0, none⟩ (w1.trans rfl)⟩
end Go.Proofs.YtdfehaonngccjaaGreatDoor

