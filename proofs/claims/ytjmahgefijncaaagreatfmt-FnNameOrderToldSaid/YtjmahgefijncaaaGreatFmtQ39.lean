/- The rows' posts behind calls that leave old memory alone; what the rows' lists give. -/
import Derived.Test.YtjmahgefijncaaaGreatFmtCards
import Derived.Test.YtjmahgefijncaaaGreatFmtTie
import Derived.Test.YtjmahgefijncaaaGreatFmtQ1
import Derived.Stop.LaidErr
import Derived.Stop.LaidTwo
import Derived.MakeChecks
import Derived.RowKit
import Derived.OpenShut
import Derived.Below
import Derived.Stop.JoinedTold
import Derived.Deep.DeepWitnessRef
import Derived.LaidMore
import Derived.Lay
import Derived.SevenTiedAt
import Derived.Deep.DeepHandedRow
import Derived.WideKeyArgs
import Derived.ProofKit
import Derived.Lib.LaidTab
import Derived.Test.YtjmahgefijncaaaGreatFmtQ9
import Derived.Test.YtjmahgefijncaaaGreatFmtQ18
import Derived.Lib.LaidU8T
import Derived.Test.YtjmahgefijncaaaGreatFmtQ38
import Derived.ChangeMaps5
set_option linter.unusedVariables false
set_option linter.unusedSimpArgs false
namespace Go.Proofs.YtjmahgefijncaaaGreatFmt
open Go Go.RowKit Go.ChangeShapes Go.WideShapes

/-- A post whose call leaves every old block as it was. -/
theorem post_below {H : Type} {enc : TypeId × Value → H} {P : Program} {f : Func} {s : ChangeSpec} {apart fresh handsOn again : Bool} {W W' : World} {args : Array Value} {v : Value} {ds gs : List (DataW H)} {before pa pv : List MemPlace}
    (hW : DataW.Whole enc P f.params.toList s.vars apart W args.toList ds gs before)
    (hres : ∀ (b : Nat) (sp : Nat → Bool) (hd : Bool), DataW.TrodAll enc P W' b sp hd f.resultTypes.toList (v.resultList f.resultTypes.size) (s.fn H (ds ++ gs)).results [])
    (hargs : ∀ sp : Nat → Bool, (∀ p ∈ before, sp p.block = true) → DataW.TrodAll enc P W' 0 sp true f.params.toList args.toList (s.fn H (ds ++ gs)).args pa)
    (hvars : ∀ sp : Nat → Bool, (∀ p ∈ before, sp p.block = true) → DataW.TrodVars enc P W' sp s.vars (s.fn H (ds ++ gs)).vars pv)
    (hps : before = pa ++ pv) (hb : Below W.heap.size W W')
    (hok : ∀ (j : Nat) (t : TypeId) (r : Value), f.resultTypes[j]? = some t → (v.resultList f.resultTypes.size)[j]? = some r → Value.okWide P W' .any 0 t r) :
    s.post enc P f apart fresh handsOn again W args v W' := by
  have hlt := hW.lt
  have hold : ∀ p ∈ before, (fun b => decide (b < W.heap.size)) p.block = true := fun p hp => decide_eq_true (hlt p hp)
  refine ⟨ds, gs, before, [], pa, pv, hW, hres _ _ _, hargs _ hold, hvars _ hold, World.keptBut_mono (fun p hp => ⟨hp, Or.inr (List.mem_append.1 (hps ▸ hp))⟩) (hb.frame (· ∈ before)), fun _ => ?_⟩
  obtain ⟨_, _, _, _, _, hz, hn⟩ := hW
  refine ⟨hok, _, _, ([] ++ pa) ++ pv, ⟨[] ++ pa, pv, trodAll_append (hargs _ (fun _ _ => rfl)) (hres _ _ _), hvars _ (fun _ _ => rfl), rfl, fun b off hp => ?_, fun ha => ?_⟩, fun p hp _ => by rw [hps]; simpa using hp⟩
  · have hm : MemPlace.cell b off ∈ before := by rw [hps]; simpa using hp
    exact (hb.frozen (p := ⟨b, off, none⟩) (hlt _ hm)).trans (hz b off hm)
  · have := hn ha
    rw [hps] at this
    simpa using this

theorem err_star : "*" ++ "errors.errorString" = "*errors.errorString" := by decide
theorem err_row (u : TypeId) (h : Tryz.prog.typeName? 3 u = some "*errors.errorString") : u = 144 :=
  typeName_ptr_named (nm := "errors.errorString") (by rw [err_star]; kernel_rfl) (by kernel_rfl) (by decide) u (by rw [err_star]; exact h)

/-- encoding/hex.ErrLength's cell. -/
theorem hex_len {W : World} {r : List (String × DataW Unit)} (h : laidMet Tryz.prog (("encoding/hex.ErrLength", Rows.laid_encoding_hex_ErrLength) :: r) W) : ∃ ev, W.cell? ⟨1, 0, none⟩ = some ev := by
  have g1 : Tryz.prog.globalNamed "encoding/hex.ErrLength" = some 1 := by kernel_rfl
  obtain ⟨a, s, hv, -⟩ := laid_sentinel (g := 1) h g1 (show (Tryz.prog.globals[1]?).map (·.type) = some 83 by kernel_rfl) Tryz.underlying83 err_row Tryz.underlying144 Tryz.underlying146 rfl rfl Tryz.underlying9 (by kernel_rfl) (by kernel_rfl)
  exact ⟨_, (World.var?_cell g1 hv 0).trans rfl⟩

theorem own_knobN : ownKnob Tryz.prog.godebug = none := by kernel_rfl
theorem laid_outN : laidOutB Tryz.prog = true := by kernel_rfl
theorem stopsN : Tryz.pinned.checked.prog.stops = ["fmt.Sprintf"] := by kernel_rfl
theorem stopKnobsN : Tryz.pinned.checked.prog.stopKnobs = [] := by kernel_rfl
theorem quietN (os : Os) : Stop.quiet Tryz.pinned.checked.prog os := by
  intro k hk
  rw [stopKnobsN] at hk
  cases hk
end Go.Proofs.YtjmahgefijncaaaGreatFmt

/- An argument that is an array of three texts, opened. -/
namespace Go.Proofs.YtjmahgefijncaaaGreatFmt
open Go Go.RowKit Go.ChangeShapes Go.WideShapes

theorem three_of {cs : Array Value} {a b c : Value} (h : cs.size = 3) (h0 : cs[0]? = some a) (h1 : cs[1]? = some b) (h2 : cs[2]? = some c) : cs = #[a, b, c] := by
  apply Array.ext (by rw [h]; rfl)
  intro i g1 g2
  have h4 : i = 0 ∨ i = 1 ∨ i = 2 := by omega
  rcases h4 with rfl | rfl | rfl
  · exact (Array.getElem?_eq_some_iff.1 h0).2
  · exact (Array.getElem?_eq_some_iff.1 h1).2
  · exact (Array.getElem?_eq_some_iff.1 h2).2
set_option maxRecDepth 100000 in
theorem open_texts {H : Type} {enc : TypeId × Value → H} {w : World} {base : Nat} {spare : Nat → Bool} {held : Bool} {r : Reach} {b0 : Nat} {v : Value} {d : DataW H} {ps : List MemPlace}
    (hok : Value.okWide Tryz.prog w r b0 58 v) (h : DataW.Trod enc Tryz.prog w base spare held 58 v d ps) : ∃ s0 s1 s2 : ByteArray, v = .agg #[.string s0, .string s1, .string s2] := by
  simp only [Value.okWide, Tryz.underlying58] at hok
  obtain ⟨cs, rfl, hsz, -⟩ := hok
  have h3 : cs.size = 3 := hsz.trans (by kernel_rfl)
  obtain ⟨fuel, hf⟩ := h
  cases fuel with
  | zero => simp [DataW.trod] at hf
  | succ m =>
    rw [DataW.trod_step] at hf
    unfold DataW.trodStep at hf
    simp only [Tryz.underlying58, Value.cells] at hf
    split at hf
    · simp only [Option.map_eq_some_iff] at hf
      obtain ⟨ys, hy, -⟩ := hf
      have hc : Tryz.prog.cellsOf 9 = 1 := by kernel_rfl
      have key : ∀ i, i < 3 → ∃ s : ByteArray, cs[i]? = some (.string s) := by
        intro i hi
        obtain ⟨y, -, hfy⟩ := Lib.mapM_at hy i i (by simp [hi])
        obtain ⟨s, e, _⟩ := DataW.trod_string Tryz.underlying9 hfy
        have e2 := congrArg (·[0]?) e
        rw [hc] at e2
        simp only [List.getElem?_take, List.getElem?_drop, Nat.mul_one, List.getElem?_cons_zero] at e2
        exact ⟨s, by simpa using e2⟩
      obtain ⟨s0, e0⟩ := key 0 (by decide)
      obtain ⟨s1, e1⟩ := key 1 (by decide)
      obtain ⟨s2, e2⟩ := key 2 (by decide)
      exact ⟨s0, s1, s2, congrArg Value.agg (three_of h3 e0 e1 e2)⟩
    · cases hf
end Go.Proofs.YtjmahgefijncaaaGreatFmt

/- io.EOF and io.ErrUnexpectedEOF, as the rows' lists lay them. -/
namespace Go.Proofs.YtjmahgefijncaaaGreatFmt
open Go Go.RowKit Go.ChangeShapes Go.WideShapes

theorem env_laid {W : World} {r : List (String × DataW Unit)} (h5 : laidMet Tryz.prog (("io.EOF", Rows.laid_io_EOF) :: ("io.ErrUnexpectedEOF", Rows.laid_io_ErrUnexpectedEOF) :: r) W) : Env W.heap.size W := by
  have g0 : Tryz.prog.globalNamed "io.EOF" = some 2 := by kernel_rfl
  have g1 : Tryz.prog.globalNamed "io.ErrUnexpectedEOF" = some 3 := by kernel_rfl
  obtain ⟨a0, a1, s0, s1, c0, c1, t0, t1, hv0, hv1, k0, e0, -, k1, e1, -, -, b0, b1⟩ := laid_sentinels2 h5 g0 (show (Tryz.prog.globals[2]?).map (·.type) = some 83 by kernel_rfl) g1 (show (Tryz.prog.globals[3]?).map (·.type) = some 83 by kernel_rfl)
    Tryz.underlying83 err_row Tryz.underlying144 Tryz.underlying146 rfl rfl Tryz.underlying9 (by kernel_rfl) (by kernel_rfl)
  have z0 : s0.size = 3 := by have := congrArg List.length e0; simpa using this
  have z1 : s1.size = 14 := by have := congrArg List.length e1; simpa using this
  have w0 := World.var?_cell g0 hv0 0
  have w1 := World.var?_cell g1 hv1 0
  refine ⟨⟨a0, w0.trans rfl, blockLt b0, s0, c0, t0, b0, k0, by omega, by omega⟩, ⟨a1, w1.trans rfl, blockLt b1, s1, c1, t1, b1, k1, by omega, by omega⟩, World.block_lt_of_cell? W ⟨2, 0, none⟩ (w0.trans rfl), World.block_lt_of_cell? W ⟨3, 0, none⟩ (w1.trans rfl)⟩
end Go.Proofs.YtjmahgefijncaaaGreatFmt

/- The tables that the whole reading asks for, as the rows' lists lay them. -/
namespace Go.Proofs.YtjmahgefijncaaaGreatFmt
open Go Go.RowKit Go.ChangeShapes Go.WideShapes

def renU : Go.Shelf.Ren := ⟨fun n => n, fun | 5 => 5 | 119 => 222 | 138 => 224 | 139 => 225 | n => n, fun | 3 => 4 | 4 => 5 | n => n⟩
theorem renU_types : Go.Proofs.U8Types Tryz.prog renU := ⟨by kernel_rfl, by kernel_rfl, by kernel_rfl, by kernel_rfl⟩
theorem renU_extra : Go.Proofs.U8Extra Tryz.prog renU := ⟨by kernel_rfl, by kernel_rfl, by kernel_rfl, by kernel_rfl, by kernel_rfl, by kernel_rfl, by kernel_rfl⟩
theorem first_eq : Rows.laid_unicode_utf8_first = Lib.firstData := by kernel_rfl
theorem accept_eq : (Rows.laid_unicode_utf8_acceptRanges : DataW Unit) = Lib.acceptData := by kernel_rfl
theorem pow_eq : (Rows.laid_internal_strconv_uint64pow10 : DataW Unit) = Lib.tabData .u64 Lib.pow10Tab := by kernel_rfl

theorem tab_laid {W : World} {l : List (String × DataW Unit)} (h : laidMet Tryz.prog l W) (h1 : ("unicode/utf8.first", Rows.laid_unicode_utf8_first) ∈ l) (h2 : ("unicode/utf8.acceptRanges", Rows.laid_unicode_utf8_acceptRanges) ∈ l) : UtvTab W := by
  have r1 := Go.Lib.laidMet.reads h h1
  have r2 := Go.Lib.laidMet.reads h h2
  rw [first_eq] at r1
  rw [accept_eq] at r2
  have ht := Go.Proofs.utf8Tabs_of_readsT renU_types renU_extra r1 r2
  refine ⟨fun c hc => ?_, fun k hk => ?_⟩
  · refine ⟨_, ?_, ht.1 c hc⟩
    have := Go.Lib.firstT_cases c
    omega
  · obtain ⟨h1, h2⟩ := ht.2 k hk
    exact ⟨_, _, by rw [Nat.mul_comm]; exact h1, by rw [Nat.mul_comm]; exact h2⟩
theorem envT_laid {W : World} {r : List (String × DataW Unit)} {l : List (String × DataW Unit)} (hE : Env W.heap.size W) (h : laidMet Tryz.prog l W) (h1 : ("unicode/utf8.first", Rows.laid_unicode_utf8_first) ∈ l) (h2 : ("unicode/utf8.acceptRanges", Rows.laid_unicode_utf8_acceptRanges) ∈ l)
    (h3 : laidMet Tryz.prog (("internal/strconv.uint64pow10", Rows.laid_internal_strconv_uint64pow10) :: r) W) : EnvT W.heap.size W := by
  refine ⟨hE, Lib.tabBelow_of_tabIs ?_, fun w' hb => (tab_laid h h1 h2).stays hb⟩
  rw [pow_eq] at h3
  exact Lib.tabIs_of_head (g := 9) (t := 243) (e := 165) (n := 20) (by kernel_rfl) (by kernel_rfl) (by kernel_rfl) (by kernel_rfl) (by kernel_rfl) (by kernel_rfl) h3

/-- hex.ErrLength is an error value. -/
theorem hex_err {W : World} {r : List (String × DataW Unit)} (h : laidMet Tryz.prog (("encoding/hex.ErrLength", Rows.laid_encoding_hex_ErrLength) :: r) W) : ∃ et eu, W.cell? ⟨1, 0, none⟩ = some (.iface et eu) := by
  have g1 : Tryz.prog.globalNamed "encoding/hex.ErrLength" = some 1 := by kernel_rfl
  obtain ⟨a, s, hv, -⟩ := laid_sentinel (g := 1) h g1 (show (Tryz.prog.globals[1]?).map (·.type) = some 83 by kernel_rfl) Tryz.underlying83 err_row Tryz.underlying144 Tryz.underlying146 rfl rfl Tryz.underlying9 (by kernel_rfl) (by kernel_rfl)
  exact ⟨_, _, (World.var?_cell g1 hv 0).trans rfl⟩
end Go.Proofs.YtjmahgefijncaaaGreatFmt

/- The law FnNameOrder holds for every input, where the listed package-level variables start as the program's text lays them; fmt's texts are told. -/
namespace Go.Proofs.YtjmahgefijncaaaGreatFmt
open Go Go.ChangeShapes Go.WideShapes Go.ChangeAt Go.RowKit Go.Extern.Stop Go.Stop Go.Extern

set_option maxRecDepth 100000 in
theorem fnNameOrderContract (F : Interp) (H : Type) (enc : TypeId × Value → H) (W : World) (base : Nat) (args : Array Value) (ds gs : List (DataW H)) (before : List MemPlace) (hF : F.told.answers W.tape)
    (hval : ∀ (j : Nat) t v, Tryz.f7.params[j]? = some t → args[j]? = some v → Value.okWide Tryz.prog W .any base t v)
    (hW : DataW.Whole enc Tryz.prog Tryz.f7.params.toList Rows.fnNameOrderSpec.vars false W args.toList ds gs before) (hL : laidMetH Tryz.prog Rows.fnNameOrderRow.laid W) :
    Calls Tryz.prog 7 args W fun e W' => ∃ v, e = .returned v ∧ Rows.fnNameOrderSpec.post enc Tryz.prog Tryz.f7 false true false false W args v W' := by
  have hW' := hW
  obtain ⟨p, q, hA0, hV, rfl, hfz, hnd⟩ := hW
  have hA : DataW.TrodAll enc Tryz.prog W 0 (fun _ => true) true Tryz.f7.params.toList args.toList ds p := hA0
  rw [Tryz.params7] at hA hval
  obtain ⟨v0, vs0, d0, ds0, p0, q0, hvs0, rfl, rfl, h0, r0⟩ := trodAll_cons hA
  obtain ⟨rfl, rfl, rfl⟩ := trodAll_nil r0
  obtain rfl : args = #[v0] := Array.toList_inj.1 hvs0
  obtain ⟨rfl, rfl⟩ := trodVars_none hV
  have h0k := h0
  obtain ⟨s0, s1, s2, rfl⟩ := open_texts (hval 0 58 v0 (by simp) (by simp)) h0
  have e0 : ∀ s : ByteArray, Value.string s = .string (Nm.bs s.data.toList) := fun s => congrArg Value.string (ByteArray.ext (by show s.data = s.data.toList.toArray; simp))
  have hT : EnvT W.heap.size W ∧ ∃ et eu, W.cell? ⟨1, 0, none⟩ = some (.iface et eu) := by
    have hL2 := hL
    rw [MakeChecks.laidMetH_plain _ _ _ (by kernel_rfl)] at hL2
    exact ⟨envT_laid (env_laid hL2.tail.tail.tail.tail.tail) hL2 (.tail _ (.tail _ (.tail _ (.tail _ (.tail _ (.tail _ (.tail _ (.tail _ (.tail _ (.head _)))))))))) (.tail _ (.tail _ (.tail _ (.head _)))) hL2.tail.tail, hex_err hL2.tail.tail.tail.tail.tail.tail.tail.tail⟩
  obtain ⟨hEnv, et, eu, hev2⟩ := hT
  obtain ⟨ev, hev⟩ : ∃ ev, W.cell? ⟨1, 0, none⟩ = some ev := by
    have hL2 := hL
    rw [MakeChecks.laidMetH_plain _ _ _ (by kernel_rfl)] at hL2
    exact hex_len hL2.tail.tail.tail.tail.tail.tail.tail.tail
  clear hA0
  simp only [List.append_nil] at hW'
  have hlt := hW'.lt
  have hcall : Calls Tryz.prog 7 #[.agg #[.string s0, .string s1, .string s2]] W fun e w' => e = .returned (.bool true) ∧ Below W.heap.size W w' := by
    rw [e0 s0, e0 s1, e0 s2]
    exact law_order F s0.data.toList s1.data.toList s2.data.toList W hF et eu hev2 hEnv
  refine hcall.mono fun e W' ⟨he, hb⟩ => ?_
  subst he
  have hs100 : ∀ x ∈ p0, W.sameAt W' x := fun x hx => hb.same (hlt x (hx))
  refine ⟨_, rfl, post_below (pa := (p0 ++ [])) (pv := []) hW' (fun _ _ _ => trodAll_cons_mk (shut_bool Tryz.underlying4 _) trodAll_mk0) (fun sp hsp => ?_) (fun _ _ => rfl) (by simp) hb (ok_one (by kernel_rfl) rfl (okWide_bool_mk Tryz.underlying4 _))⟩
  have hsp : ∀ x ∈ (p0 ++ []), sp x.block = true := by simpa using hsp
  exact trodAll_cons_mk (WideElems.Trod_stays laid_outN (by kernel_rfl) (of_decide_eq_true (by kernel_rfl)) h0k hs100 (fun x hx => hsp x (List.mem_append_left _ hx))) (trodAll_mk0)

theorem fnNameOrderFits (os : Os) : (World.holding Tryz.prog os ⟨#[], #[], []⟩).layFits Tryz.prog Rows.fnNameOrderRow.laid [] = true := by kernel_rfl
theorem fnNameOrderIfaces (os : Os) : (World.holding Tryz.prog os ⟨#[], #[], []⟩).layIfaces Tryz.prog Rows.fnNameOrderRow.laid (World.laidAll Tryz.prog os Rows.fnNameOrderRow.laid) = true := by kernel_rfl

theorem fnNameOrderReads (os : Os) {H : Type} (enc : TypeId × Value → H) : ∃ places, DataW.whole enc Tryz.prog ((World.laidAll Tryz.prog os Rows.fnNameOrderRow.laid).forCall (fun _ _ => 0) ⟨#[], #[Value.agg #[Value.string ⟨#[]⟩, Value.string ⟨#[]⟩, Value.string ⟨#[]⟩]], []⟩).memory Tryz.f7.params.toList Rows.fnNameOrderSpec.vars false #[Value.agg #[Value.string ⟨#[]⟩, Value.string ⟨#[]⟩, Value.string ⟨#[]⟩]].toList 8 = some ([.agg [.lit (.string []), .lit (.string []), .lit (.string [])]], [], places) :=
  ⟨[], by kernel_rfl⟩

set_option maxRecDepth 100000 in
theorem fnNameOrderLifted (os : Os) (started : os.Started) (H : Type) (enc : TypeId × Value → H) :
    ReturnsInTold none {} Tryz.checked os 7 .any Input.okWide ((OpenSpec.ofChange Rows.fnNameOrderSpec).preRow enc Tryz.prog Tryz.f7 Rows.fnNameOrderRow.domain false Rows.fnNameOrderRow.laid) (fun F => ((OpenSpec.ofChange Rows.fnNameOrderSpec).at F).post enc Tryz.prog Tryz.f7 false true false false) (aloneAtReturn Tryz.prog) nothingAlways := by
  obtain ⟨places, hx⟩ := fnNameOrderReads os enc
  refine returnsInTold_of_row (C := Tryz.checked) (s := OpenSpec.ofChange Rows.fnNameOrderSpec) (by kernel_rfl) own_knobN started (by kernel_rfl) Tryz.func7
    (OpenSpec.witness_stopped_atRef (enc := enc) (C := Tryz.checked) false (World.laidAll Tryz.prog os Rows.fnNameOrderRow.laid) #[Value.agg #[Value.string ⟨#[]⟩, Value.string ⟨#[]⟩, Value.string ⟨#[]⟩]] (World.laidAll_os _ _ _) (by kernel_rfl) (by kernel_rfl) (by kernel_rfl)
      (OpenSpec.preRow_of_cond 8 hx (by kernel_rfl) (fun k hk => by cases hk) (by kernel_rfl) (laidMet_laidAll (laid := Rows.fnNameOrderRow.laid) _ (fnNameOrderFits os) (fnNameOrderIfaces os)))) ?_
  intro F W base args ds gs before _ hF hval hW _ _ _ hL _
  exact fnNameOrderContract F H enc W base args ds gs before hF hval hW hL

theorem fnNameOrder_card : Rows.FnNameOrderToldSaid :=
  Claim7.holds_of_told_tied_any_at .later 7 Tryz.f7 "fmt.Sprintf" [] [] _ _ _ _ _ (by kernel_rfl) rfl rfl rfl laid_outN (by kernel_rfl) rfl ⟨rfl, rfl, rfl, rfl, rfl, rfl, rfl⟩ rfl rfl (by kernel_rfl) (by kernel_rfl) Tryz.func7 (by kernel_rfl)
    (of_decide_eq_true (by kernel_rfl)) (of_decide_eq_true (by kernel_rfl)) stopsN.symm rfl stopKnobsN.symm (by kernel_rfl)
    (by kernel_rfl) (by kernel_rfl) (by kernel_rfl) (by kernel_rfl) (by kernel_rfl) (by kernel_rfl) (by kernel_rfl) (by kernel_rfl) (by kernel_rfl) rfl (by kernel_rfl) rfl rfl
    rfl rfl
    rfl (by kernel_rfl) (by kernel_rfl) (by kernel_rfl) (by decide) (by kernel_rfl) fnNameOrder_row_tie
    (OpenClaim.moreEntering_of (by kernel_rfl) (by kernel_rfl) (by kernel_rfl) (by kernel_rfl) (by kernel_rfl) (by kernel_rfl) (by kernel_rfl) (by kernel_rfl) (by kernel_rfl) (by kernel_rfl))
    ⟨_, WideRow.started_initial, quietN _⟩
    (fun os started _ H enc _ => fnNameOrderLifted os started H enc)
end Go.Proofs.YtjmahgefijncaaaGreatFmt

