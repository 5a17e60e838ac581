/- The rows' posts behind calls that leave old memory alone; what the rows' lists give. -/
import Derived.Test.YtjmahgefijncaaaGreatFmtCards
import Derived.Test.YtjmahgefijncaaaGreatFmtTie
import Derived.Test.YtjmahgefijncaaaGreatFmtKeep
import Derived.Stop.LaidErr
import Derived.Stop.LaidTwo
import Derived.MakeChecks
import Derived.RowKit
import Derived.OpenShut
import Derived.Below
import Derived.Stop.JoinedTold
import Derived.Deep.DeepWitnessRef
import Derived.LaidMore
import Derived.Lay
import Derived.SevenTiedAt
import Derived.Deep.DeepHandedRow
import Derived.WideKeyArgs
import Derived.ProofKit
namespace Go.Proofs.YtjmahgefijncaaaGreatFmt
open Go Go.RowKit Go.ChangeShapes Go.WideShapes

/-- A post whose call leaves every old block as it was. -/
theorem post_below {H : Type} {enc : TypeId × Value → H} {P : Program} {f : Func} {s : ChangeSpec} {apart fresh handsOn again : Bool} {W W' : World} {args : Array Value} {v : Value} {ds gs : List (DataW H)} {before pa pv : List MemPlace}
    (hW : DataW.Whole enc P f.params.toList s.vars apart W args.toList ds gs before)
    (hres : ∀ (b : Nat) (sp : Nat → Bool) (hd : Bool), DataW.TrodAll enc P W' b sp hd f.resultTypes.toList (v.resultList f.resultTypes.size) (s.fn H (ds ++ gs)).results [])
    (hargs : ∀ sp : Nat → Bool, (∀ p ∈ before, sp p.block = true) → DataW.TrodAll enc P W' 0 sp true f.params.toList args.toList (s.fn H (ds ++ gs)).args pa)
    (hvars : ∀ sp : Nat → Bool, (∀ p ∈ before, sp p.block = true) → DataW.TrodVars enc P W' sp s.vars (s.fn H (ds ++ gs)).vars pv)
    (hps : before = pa ++ pv) (hb : Below W.heap.size W W')
    (hok : ∀ (j : Nat) (t : TypeId) (r : Value), f.resultTypes[j]? = some t → (v.resultList f.resultTypes.size)[j]? = some r → Value.okWide P W' .any 0 t r) :
    s.post enc P f apart fresh handsOn again W args v W' := by
  have hlt := hW.lt
  have hold : ∀ p ∈ before, (fun b => decide (b < W.heap.size)) p.block = true := fun p hp => decide_eq_true (hlt p hp)
  refine ⟨ds, gs, before, [], pa, pv, hW, hres _ _ _, hargs _ hold, hvars _ hold, World.keptBut_mono (fun p hp => ⟨hp, Or.inr (List.mem_append.1 (hps ▸ hp))⟩) (hb.frame (· ∈ before)), fun _ => ?_⟩
  obtain ⟨_, _, _, _, _, hz, hn⟩ := hW
  refine ⟨hok, _, _, ([] ++ pa) ++ pv, ⟨[] ++ pa, pv, trodAll_append (hargs _ (fun _ _ => rfl)) (hres _ _ _), hvars _ (fun _ _ => rfl), rfl, fun b off hp => ?_, fun ha => ?_⟩, fun p hp _ => by rw [hps]; simpa using hp⟩
  · have hm : MemPlace.cell b off ∈ before := by rw [hps]; simpa using hp
    exact (hb.frozen (p := ⟨b, off, none⟩) (hlt _ hm)).trans (hz b off hm)
  · have := hn ha
    rw [hps] at this
    simpa using this

theorem err_star : "*" ++ "errors.errorString" = "*errors.errorString" := by decide
theorem err_row (u : TypeId) (h : Tryz.prog.typeName? 3 u = some "*errors.errorString") : u = 144 :=
  typeName_ptr_named (nm := "errors.errorString") (by rw [err_star]; kernel_rfl) (by kernel_rfl) (by decide) u (by rw [err_star]; exact h)

/-- encoding/hex.ErrLength's cell. -/
theorem hex_len {W : World} {r : List (String × DataW Unit)} (h : laidMet Tryz.prog (("encoding/hex.ErrLength", Rows.laid_encoding_hex_ErrLength) :: r) W) : ∃ ev, W.cell? ⟨1, 0, none⟩ = some ev := by
  have g1 : Tryz.prog.globalNamed "encoding/hex.ErrLength" = some 1 := by kernel_rfl
  obtain ⟨a, s, hv, -⟩ := laid_sentinel (g := 1) h g1 (show (Tryz.prog.globals[1]?).map (·.type) = some 83 by kernel_rfl) Tryz.underlying83 err_row Tryz.underlying144 Tryz.underlying146 rfl rfl Tryz.underlying9 (by kernel_rfl) (by kernel_rfl)
  exact ⟨_, (World.var?_cell g1 hv 0).trans rfl⟩

theorem own_knobN : ownKnob Tryz.prog.godebug = none := by kernel_rfl
theorem laid_outN : laidOutB Tryz.prog = true := by kernel_rfl
theorem stopsN : Tryz.pinned.checked.prog.stops = ["fmt.Sprintf"] := by kernel_rfl
theorem stopKnobsN : Tryz.pinned.checked.prog.stopKnobs = [] := by kernel_rfl
theorem quietN (os : Os) : Stop.quiet Tryz.pinned.checked.prog os := by
  intro k hk
  rw [stopKnobsN] at hk
  cases hk
end Go.Proofs.YtjmahgefijncaaaGreatFmt
