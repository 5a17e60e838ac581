/- ParseDN, whatever it reads: it ends, and comes to what parseR says. -/
import Derived.Test.YtjmahgefijncaaaGreatFmtJ6
import Derived.Test.YtjmahgefijncaaaGreatFmtJ32
import Derived.Test.YtjmahgefijncaaaGreatFmtJ11
import Derived.Test.YtjmahgefijncaaaGreatFmtJ35
set_option linter.unusedVariables false
set_option linter.unusedSimpArgs false
namespace Go.Proofs.YtjmahgefijncaaaGreatFmt
open Go Go.RowKit Go.Extern.Stop Go.Stop Go.Extern

/-- The round's head. -/
structure TLoop (VR : List UInt8 → List UInt8 → Prop) (VE : List UInt8 → Prop) (l : List UInt8) (R0 : Option Nm.Name → Prop) (w : World) (X Y Z D i st : Nat) (esc : Bool) (Rb A : Nat) (v : Value) (xs : List Value) (vd : Value) (ds : List Value) (S : Nat → Prop) (ty : List UInt8) (rdn : List Nm.Part) (dn : Nm.Name) (wr : World) : Prop where
  from' : st ≤ i
  le : i ≤ l.length
  rest : ∀ r, Nm.parseR VR VE (l.drop i) ((l.take i).drop st) esc ty rdn dn r → R0 r
  inv : PInv w.heap.size X Y Z D Rb A v xs vd ds S ty [] rdn dn wr
  bel : Below w.heap.size w wr
  few : rdn.length ≤ i
  few2 : dn.length ≤ i
def TLoopE (VR : List UInt8 → List UInt8 → Prop) (VE : List UInt8 → Prop) (l : List UInt8) (R0 : Option Nm.Name → Prop) (w : World) (X Y Z D i st : Nat) (esc : Bool) (wr : World) : Prop :=
  ∃ (Rb A : Nat) (v : Value) (xs : List Value) (vd : Value) (ds : List Value) (S : Nat → Prop) (ty : List UInt8) (rdn : List Nm.Part) (dn : Nm.Name), TLoop VR VE l R0 w X Y Z D i st esc Rb A v xs vd ds S ty rdn dn wr

/-- What ParseDN comes to. -/
def ParseOut (B : Nat) (r : Option Nm.Name) (e : Ending) (w' : World) : Prop :=
  match r with
  | some n => ∃ (D : Nat) (S : Nat → Prop), e = .returned (.tuple #[.pointer (some ⟨D, 0, none⟩), .nilIface]) ∧ DnAt w' S D n ∧ (∀ k, S k → k < w'.heap.size)
  | none => ∃ pv ev, e = .returned (.tuple #[.pointer pv, ev]) ∧ ErrAt 0 B w' ev
theorem u8_61 {b : UInt8} (h : b = 61) : b.toNat = 61 := by rw [h]; rfl

set_option maxRecDepth 100000 in
set_option maxHeartbeats 16000000 in
theorem parse_total (F : Interp) (VR : List UInt8 → List UInt8 → Prop) (VE : List UInt8 → Prop) (l : List UInt8) (hl : l.length ≤ 900) (w : World) (hF : F.told.answers w.tape) (hval : ValT F w VR VE) (ev : Value) (hE : w.cell? ⟨1, 0, none⟩ = some ev) :
    Calls Tryz.prog 39 #[.string (Nm.bs l)] w fun e w' => (∃ r, Nm.parseDNR VR VE l r ∧ ParseOut w.heap.size r e w') ∧ Below w.heap.size w w' := by
  have hsz := bs_size l
  have hmf : ∀ (fn : Fn) (first cap : Array Value) (w : World), (Instr.makeFunc fn first cap).run Tryz.prog w = .ok (.func fn first cap) w := fun _ _ _ _ => rfl
  have hmk : ∀ w : World, (Instr.makeSlice 112 (.int .i64 0) (.int .i64 0)).run Tryz.prog w = .ok (.slice (some ⟨w.heap.size, 0, none⟩) 0 0) (w.alloc (.cells #[] 115 (0, 0))) := fun _ => by kernel_rfl
  obtain ⟨R0, hR0⟩ : ∃ R0, R0 = Nm.parseDNR VR VE l := ⟨_, rfl⟩
  have hn : ∀ r, Nm.parseDNR VR VE l r → R0 r := by rw [hR0]; exact fun _ h => h
  have hgoal : (∃ r, Nm.parseDNR VR VE l r ∧ True) = (∃ r, R0 r ∧ True) := by rw [hR0]
  clear hgoal
  rw [← hR0]
  clear hR0
  unfold Nm.parseDNR at hn
  have hbl := fun w => blank_any l (by omega) w
  have HBL := Lib.hid hbl
  clear hbl
  have HV := Lib.hid hval
  have HF := Lib.hid hF
  clear hval hF
  by_cases hb : Nm.blank l = true
  · rw [hb] at HBL
    have HN := Lib.hid (hn (some []) (by rw [if_pos hb]))
    clear hn hb
    go_enter Tryz.func39, Tryz.ntmps39
    go_wp2_with fail
    refine (HBL.out _).mono ?_
    rintro e w1 ⟨rfl, rfl⟩
    go_wp2_with fail
    go_ret2
    have h1 : (((w.alloc (Obj.cells #[] 115)).alloc (Obj.cells #[Value.slice (some { block := w.heap.size, off := 0 }) 0 0] 114)).alloc (Obj.cells #[Value.pointer (some { block := w.heap.size + 1, off := 0 })] 81)).heap[w.heap.size + 1]? = some (Obj.cells #[Value.slice (some { block := w.heap.size, off := 0 }) 0 0] 114) := by
      rw [Below.heap_alloc _ _ _ (by simp)]
      have := heap_alloc_new (w.alloc (Obj.cells #[] 115)) (Obj.cells #[Value.slice (some { block := w.heap.size, off := 0 }) 0 0] 114)
      simpa using this
    have h0 : (((w.alloc (Obj.cells #[] 115)).alloc (Obj.cells #[Value.slice (some { block := w.heap.size, off := 0 }) 0 0] 114)).alloc (Obj.cells #[Value.pointer (some { block := w.heap.size + 1, off := 0 })] 81)).heap[w.heap.size]? = some (Obj.cells #[] 115) := by
      rw [Below.heap_alloc _ _ _ (by simp; omega), Below.heap_alloc _ _ _ (by simp)]
      exact heap_alloc_new w _
    refine ⟨⟨some [], HN.out, w.heap.size + 1, fun k => k = w.heap.size ∨ k = w.heap.size + 1, rfl, ?_, ?_⟩, ?_⟩
    · refine ⟨Or.inr rfl, _, [], h1, ⟨rfl, Or.inr ⟨w.heap.size, 0, #[], rfl, Nat.zero_le _, h0, Nat.le_refl _, Nat.zero_le _, rfl, rfl⟩⟩, ?_, rfl⟩
      intro k hk
      simp only [Value.ownBlock, Option.some.injEq] at hk
      exact Or.inl hk.symm
    · rintro k (rfl | rfl) <;> simp <;> omega
    · exact (((Below.refl _ w).alloc (Nat.le_refl _) _).alloc (by simp) _).alloc (by simp; omega) _
  · have hb' : Nm.blank l = false := by simpa using hb
    rw [hb'] at HBL
    have HN := Lib.hid (fun r h => hn r (by rw [if_neg hb]; exact h))
    clear hn hb hb'
    go_enter Tryz.func39, Tryz.ntmps39
    go_wp2_with fail
    refine (HBL.out _).mono ?_
    rintro e w1 ⟨rfl, rfl⟩
    go_wp2_with fail
    obtain ⟨hP, hB⟩ := pinv_start w _ rfl
    have HP := Lib.hid hP
    have HB := Lib.hid hB
    clear hP hB
    generalize hY : w.heap.size + 1 + 1 + 1 + 1 + 1 + 1 = Y at *
    clear hY
    generalize hA : w.heap.size + 1 + 1 + 1 + 1 + 1 = A0 at *
    clear hA
    generalize hX : w.heap.size + 1 + 1 + 1 + 1 = X at *
    clear hX
    generalize hR : w.heap.size + 1 + 1 + 1 = Rb0 at *
    clear hR
    generalize hZ : w.heap.size + 1 + 1 = Z at *
    clear hZ
    generalize hD : w.heap.size + 1 = D at *
    clear hD
    go_loopw [7, 8, 10] (fun t7 t8 t10 wr => ∃ (i st : Nat) (esc : Bool), t7 = .bool esc ∧ t8 = .int .i64 st ∧ t10 = .int .i64 i ∧ st ≤ i ∧ i ≤ l.length ∧ Hid (TLoopE VR VE l R0 w X Y Z D i st esc wr)) (fun _ _ t10 _ => l.length - (intOf t10).toNat)
    case atStart => exact ⟨0, 0, false, rfl, rfl, rfl, Nat.le_refl _, Nat.zero_le _, Lib.hid ⟨_, _, _, _, _, _, _, _, _, _, Nat.le_refl _, Nat.zero_le _, HN.out, HP.out, HB.out, Nat.le_refl _, Nat.le_refl _⟩⟩
    case round =>
      clear HP HB HN HBL hmk
      obtain ⟨i, st, esc, rfl, rfl, rfl, hst, hi, HL⟩ := hrel
      have HL := HL.out
      obtain ⟨Rb, A, v, xs, vd, ds, S, ty, rdn, dn, hl'⟩ := HL
      have H := Lib.hid hl'
      have HL := hl'.inv
      have hwr := hl'.bel.size
      have cY : wr.cell? ⟨Y, 0, none⟩ = some (.pointer (some ⟨A, 0, none⟩)) := blockCell HL.hY 0
      have cZ : wr.cell? ⟨Z, 0, none⟩ = some (.pointer (some ⟨D, 0, none⟩)) := blockCell HL.hZ 0
      have cA : wr.cell? ⟨A, 0, none⟩ = some (.string (Nm.bs ty)) := blockCell HL.hA 0
      have hz1 : ∀ w1, Keep wr.drew.heap.size A wr.drew w1 → w1.cell? ⟨Z, 0, none⟩ = some (.pointer (some ⟨D, 0, none⟩)) := fun w1 h2 => by
        have hb : w1.heap[Z]? = wr.heap[Z]? := h2.block Z (blockLt HL.hZ) (ne_of_types HL.hA HL.hZ (by decide)).symm
        exact (World.cell?_of_block (w := wr) hb).trans cZ
      have HZ1 := Lib.hid hz1
      clear hz1
      have hAty := HL.hA
      have hrest := hl'.rest
      have hgl : 1 < w.heap.size := World.block_lt_of_cell? w ⟨1, 0, none⟩ hE
      have hEw : wr.drew.cell? ⟨1, 0, none⟩ = some ev := (hl'.bel.cell (p := ⟨1, 0, none⟩) hgl).trans hE
      have HBD : Hid (Below w.heap.size w wr.drew) := Lib.hid hl'.bel.drew
      have htz := bs_size ty
      have hsl := bs_slice l st i hi
      have hsegl : ((l.take i).drop st).length ≤ 900 := by simp; omega
      have hFw : F.told.answers wr.drew.tape := by have := hl'.bel.tape; show F.told.answers wr.tape; rw [this]; exact HF.out
      have HFW := Lib.hid hFw
      clear hFw
      clear HL hl'
      by_cases hend : i = l.length
      · subst hend
        have t1 : decide ((l.length : Int) < (l.length : Int)) = false := by simp
        rw [List.drop_length] at hrest
        rw [List.take_length] at hrest hsl hsegl
        cases esc
        all_goals
          unfold Nm.parseR at hrest
          by_cases hty : ty = []
          · have HN := Lib.hid (hrest none (by rw [if_pos hty]))
            have hty0 : ((ty.length : Int) == 0) = true := by rw [hty]; rfl
            clear hrest hAty hEw hty
            go_wp2_with fail
            go_region_with (go_at_call 69; refine (new_err _ (by decide) (by decide) 0 _).mono ?_; rintro e w1 ⟨ev1, rfl, he, hb⟩; have cZ1 := HZ1.out w1 (Keep.ofBelow hb))
            all_goals
              try go_simp
              obtain ⟨a1, rfl⟩ := he.iface
              have HE1 := Lib.hid (he.mono H.out.bel.size)
              have HB1 := Lib.hid (H.out.bel.drew.trans (hb.mono H.out.bel.size))
              clear he hb
              try go_wp2_with fail
              go_ret2
              exact ⟨⟨none, HN.out, _, _, rfl, HE1.out⟩, HB1.out⟩
          · replace hrest := fun r h => hrest r (by rw [if_neg hty]; exact h)
            have hty0 : ((ty.length : Int) == 0) = false := by
              rw [beq_eq_false_iff_ne]; intro h; exact hty (List.length_eq_zero_iff.1 (by omega))
            have hT := HV.out _ hsegl wr.drew HBD.out HFW.out ev hEw A _ _ hAty
            have hnoerr : ∀ w1, Keep wr.drew.heap.size A wr.drew w1 → Below w.heap.size w w1 := by
              intro w1 h2
              have hk : Keep wr.heap.size A wr w1 := ⟨h2.os, h2.tape, h2.output, h2.size, h2.block⟩
              obtain ⟨b1, b2, b3, b4, b5, b6⟩ := H.out.inv.low
              exact H.out.bel.trans ((hk.mono H.out.bel.size).toBelow b5)
            have HNE := Lib.hid hnoerr
            clear hnoerr
            have hnext : ∀ (u : List UInt8) (w1 : World), w1.heap[A]? = some (.cells #[.string (Nm.bs ty), .string (Nm.bs u)] 120 (0, 0)) → Keep wr.drew.heap.size A wr.drew w1 →
                PInv w.heap.size X Y Z D Rb A v xs vd ds S ty u rdn dn w1 ∧ Below w.heap.size w w1 := by
              intro u w1 h1 h2
              have hk : Keep wr.heap.size A wr w1 := ⟨h2.os, h2.tape, h2.output, h2.size, h2.block⟩
              obtain ⟨b1, b2, b3, b4, b5, b6⟩ := H.out.inv.low
              exact ⟨H.out.inv.keep hk h1, H.out.bel.trans ((hk.mono H.out.bel.size).toBelow b5)⟩
            have hxl : xs.length < 1000000000 ∧ ds.length < 1000000000 := by
              have h1 := H.out.inv.parts.len
              have h2 := H.out.inv.rdns.len
              have h3 := H.out.few
              have h4 := H.out.few2
              omega
            have HT := Lib.hid hT
            have HN := Lib.hid hnext
            have HR := Lib.hid hrest
            have HXL := Lib.hid hxl
            clear hT hnext hrest hAty hEw hty hxl
            go_wp2_with fail
            go_region_with (go_at_call 70; refine HT.out.mono ?_; rintro e w1 ⟨⟨rv, rfl, ho⟩, hk⟩)
            rcases ho with ⟨rfl, u, hu, hA1⟩ | ⟨hve, he1⟩
            rotate_left 1
            · obtain ⟨a1, rfl⟩ := he1.iface
              have HE1 := Lib.hid (he1.mono (show w.heap.size ≤ wr.drew.heap.size from H.out.bel.size))
              have HB1 := Lib.hid (HNE.out w1 hk)
              have HRN := Lib.hid (HR.out none (Or.inl ⟨hve, rfl⟩))
              have cZ1 := HZ1.out w1 hk
              clear he1 hk hve HR HT HN
              go_wp2_with fail
              go_ret2
              exact ⟨⟨none, HRN.out, _, _, rfl, HE1.out⟩, HB1.out⟩
            have HR2 := Lib.hid (HR.out _ (Or.inr ⟨u, hu, rfl⟩))
            clear HR hu
            obtain ⟨hP, hBl⟩ := HN.out u w1 hA1 hk
            have hadd := add_last w1 _ X Y Z D Rb A v xs vd ds S ty u rdn dn hP HXL.out.1 HXL.out.2
            have HADD := Lib.hid hadd
            have HBl := Lib.hid hBl
            clear hA1 hk HT HN hP hadd hBl
            go_wp2_with fail
            refine HADD.out.mono ?_
            rintro e w2 ⟨rfl, hb2, Rb', A', v', xs', vd', ds', S', hP'⟩
            have cZ2 : w2.cell? ⟨Z, 0, none⟩ = some (.pointer (some ⟨D, 0, none⟩)) := blockCell hP'.hZ 0
            obtain ⟨T, hD1, hD2⟩ := hP'.dn
            have HE := Lib.hid (And.intro hD1 (And.intro hD2 (HBl.out.trans hb2)))
            clear hP' hb2 HADD hD1 hD2
            go_wp2_with fail
            go_ret2
            exact ⟨⟨_, HR2.out, D, T, rfl, HE.out.1, HE.out.2.1⟩, HE.out.2.2⟩
      · have hlt : i < l.length := by omega
        have hlt2 : i < (Nm.bs l).size := by rw [hsz]; exact hlt
        have t1 : decide ((i : Int) < (l.length : Int)) = true := by simp; omega
        obtain ⟨b, hb, hget⟩ : ∃ b : UInt8, l[i]? = some b ∧ ((Nm.bs l)[i]'hlt2).toNat = b.toNat := ⟨_, List.getElem?_eq_getElem hlt, by rw [bs_get]⟩
        have hdrop : l.drop i = b :: l.drop (i + 1) := by
          rw [List.drop_eq_getElem_cons hlt]
          rw [List.getElem?_eq_getElem hlt] at hb
          rw [Option.some.inj hb]
        have hsn : (l.take (i + 1)).drop st = (l.take i).drop st ++ [b] := by
          rw [seg_snoc hst hlt]
          rw [List.getElem?_eq_getElem hlt] at hb
          rw [Option.some.inj hb]
        have hnew := seg_new (l := l) i
        rw [hdrop] at hrest
        clear hdrop hb hend
        have hgo : ∀ esc' : Bool, (∀ r, Nm.parseR VR VE (l.drop (i + 1)) ((l.take i).drop st ++ [b]) esc' ty rdn dn r → R0 r) → TLoopE VR VE l R0 w X Y Z D (i + 1) st esc' wr := fun esc' h =>
          ⟨Rb, A, v, xs, vd, ds, S, ty, rdn, dn, by omega, by omega, by rw [hsn]; exact h, H.out.inv, H.out.bel, by have := H.out.few; omega, by have := H.out.few2; omega⟩
        have HG := Lib.hid hgo
        clear hgo hsn
        cases esc with
        | true =>
          have HN := Lib.hid (HG.out false (fun r h => hrest r (by unfold Nm.parseR; rw [if_pos rfl]; exact h)))
          clear hrest
          go_wp2_with fail
          exact ⟨⟨i + 1, st, false, rfl, rfl, by go_num, by omega, by omega, HN⟩, by simp [intOf]; omega⟩
        | false =>
          replace hrest := fun r h => hrest r (by unfold Nm.parseR; rw [if_neg (by simp)]; exact h)
          by_cases h92 : b = 92
          · replace hrest := fun r h => hrest r (by rw [if_pos h92]; exact h)
            have HN := Lib.hid (HG.out true hrest)
            have hb92 : b.toNat = 92 := by rw [h92]; rfl
            rw [hb92] at hget
            clear hrest h92 hb92
            go_wp2_with fail
            exact ⟨⟨i + 1, st, true, rfl, rfl, by go_num, by omega, by omega, HN⟩, by simp [intOf]; omega⟩
          · replace hrest := fun r h => hrest r (by rw [if_neg h92]; exact h)
            have q92 : ((b.toNat : Int) == 92) = false := u8_ne h92
            by_cases h61 : b = 61 ∧ ty = []
            · replace hrest := fun r h => hrest r (by rw [if_pos h61]; exact h)
              obtain ⟨rfl, rfl⟩ := h61
              have hb61 : (61 : UInt8).toNat = 61 := rfl
              rw [hb61] at hget
              have hT := type_total F _ hsegl wr.drew HFW.out ev hEw A _ _ hAty
              cases hd : Nm.decode ((l.take i).drop st) with
              | none =>
                rw [hd] at hT hrest
                have HRN := Lib.hid (hrest none (Or.inl ⟨rfl, rfl⟩))
                have hnoerr : ∀ w1, Keep wr.drew.heap.size A wr.drew w1 → Below w.heap.size w w1 := by
                  intro w1 h2
                  have hk : Keep wr.heap.size A wr w1 := ⟨h2.os, h2.tape, h2.output, h2.size, h2.block⟩
                  obtain ⟨b1, b2, b3, b4, b5, b6⟩ := H.out.inv.low
                  exact H.out.bel.trans ((hk.mono H.out.bel.size).toBelow b5)
                have HNE := Lib.hid hnoerr
                have HT := Lib.hid hT
                clear hT hrest hd h92 hnew hAty hEw hnoerr
                go_wp2_with fail
                go_region_with (go_at_call 68; refine HT.out.mono ?_; rintro e w1 ⟨⟨ev1, rfl, he1⟩, hk⟩)
                obtain ⟨a1, rfl⟩ := he1.iface
                have HE1 := Lib.hid (he1.mono (show w.heap.size ≤ wr.drew.heap.size from H.out.bel.size))
                have HB1 := Lib.hid (HNE.out w1 hk)
                clear he1 hk HT HNE
                go_wp2_with fail
                go_ret2
                exact ⟨⟨none, HRN.out, _, _, rfl, HE1.out⟩, HB1.out⟩
              | some t =>
                rw [hd] at hT hrest
                replace hrest := fun r h => hrest r (Or.inr ⟨t, rfl, h⟩)
                have hnext : ∀ w1 : World, w1.heap[A]? = some (.cells #[.string (Nm.bs t), .string (Nm.bs [])] 120 (0, 0)) → Keep wr.drew.heap.size A wr.drew w1 → TLoopE VR VE l R0 w X Y Z D (i + 1) (i + 1) false w1 := by
                  intro w1 h1 h2
                  have hk : Keep wr.heap.size A wr w1 := ⟨h2.os, h2.tape, h2.output, h2.size, h2.block⟩
                  obtain ⟨b1, b2, b3, b4, b5, b6⟩ := H.out.inv.low
                  exact ⟨Rb, A, v, xs, vd, ds, S, t, rdn, dn, Nat.le_refl _, by omega, by rw [hnew]; exact hrest, H.out.inv.keep hk h1, H.out.bel.trans ((hk.mono H.out.bel.size).toBelow b5), by have := H.out.few; omega, by have := H.out.few2; omega⟩
                have HT := Lib.hid hT
                have HN := Lib.hid hnext
                clear hT hnext hrest hd h92 hnew hAty hEw
                go_wp2_with fail
                go_region_with (go_at_call 68; refine HT.out.mono ?_; rintro e w1 ⟨⟨rfl, hA1⟩, hk⟩)
                have HNN := Lib.hid (HN.out w1 hA1 hk)
                clear hA1 hk HT HN
                go_wp2_with fail
                exact ⟨⟨i + 1, i + 1, false, rfl, by go_num, by go_num, by omega, by omega, HNN⟩, by simp [intOf]; omega⟩
            · replace hrest := fun r h => hrest r (by rw [if_neg h61]; exact h)
              by_cases hsep : b = 44 ∨ b = 43 ∨ b = 59
              · replace hrest := fun r h => hrest r (by rw [if_pos hsep]; exact h)
                by_cases hty : ty = []
                · have HN := Lib.hid (hrest none (by rw [if_pos hty]))
                  have hty0 : ((ty.length : Int) == 0) = true := by rw [hty]; rfl
                  have hsep2 : b = 44 ∨ b = 43 ∨ b = 59 := hsep
                  clear hrest hAty hEw h92 h61 hty hsep HG q92
                  rcases hsep2 with rfl | rfl | rfl
                  all_goals
                    first
                      | rw [show (44 : UInt8).toNat = 44 from rfl] at hget
                      | rw [show (43 : UInt8).toNat = 43 from rfl] at hget
                      | rw [show (59 : UInt8).toNat = 59 from rfl] at hget
                    go_wp2_with fail
                    go_region_with (go_at_call 69; refine (new_err _ (by decide) (by decide) 0 _).mono ?_; rintro e w1 ⟨ev1, rfl, he, hb⟩; have cZ1 := HZ1.out w1 (Keep.ofBelow hb))
                    all_goals
                      try go_simp
                      obtain ⟨a1, rfl⟩ := he.iface
                      have HE1 := Lib.hid (he.mono H.out.bel.size)
                      have HB1 := Lib.hid (H.out.bel.drew.trans (hb.mono H.out.bel.size))
                      clear he hb
                      try go_wp2_with fail
                      go_ret2
                      exact ⟨⟨none, HN.out, _, _, rfl, HE1.out⟩, HB1.out⟩
                · replace hrest := fun r h => hrest r (by rw [if_neg hty]; exact h)
                  have hty0 : ((ty.length : Int) == 0) = false := by
                    rw [beq_eq_false_iff_ne]; intro h; exact hty (List.length_eq_zero_iff.1 (by omega))
                  have hT := HV.out _ hsegl wr.drew HBD.out HFW.out ev hEw A _ _ hAty
                  have hnoerr : ∀ w1, Keep wr.drew.heap.size A wr.drew w1 → Below w.heap.size w w1 := by
                    intro w1 h2
                    have hk : Keep wr.heap.size A wr w1 := ⟨h2.os, h2.tape, h2.output, h2.size, h2.block⟩
                    obtain ⟨b1, b2, b3, b4, b5, b6⟩ := H.out.inv.low
                    exact H.out.bel.trans ((hk.mono H.out.bel.size).toBelow b5)
                  have HNE := Lib.hid hnoerr
                  clear hnoerr
                  have hnext : ∀ (u : List UInt8) (w1 : World), w1.heap[A]? = some (.cells #[.string (Nm.bs ty), .string (Nm.bs u)] 120 (0, 0)) → Keep wr.drew.heap.size A wr.drew w1 →
                      PInv w.heap.size X Y Z D Rb A v xs vd ds S ty u rdn dn w1 ∧ Below w.heap.size w w1 := by
                    intro u w1 h1 h2
                    have hk : Keep wr.heap.size A wr w1 := ⟨h2.os, h2.tape, h2.output, h2.size, h2.block⟩
                    obtain ⟨b1, b2, b3, b4, b5, b6⟩ := H.out.inv.low
                    exact ⟨H.out.inv.keep hk h1, H.out.bel.trans ((hk.mono H.out.bel.size).toBelow b5)⟩
                  have hxl : xs.length < 1000000000 ∧ ds.length < 1000000000 := by
                    have h1 := H.out.inv.parts.len
                    have h2 := H.out.inv.rdns.len
                    have h3 := H.out.few
                    have h4 := H.out.few2
                    omega
                  have HT := Lib.hid hT
                  have HN := Lib.hid hnext
                  have HR := Lib.hid hrest
                  have HXL := Lib.hid hxl
                  clear hT hnext hrest h92 hAty hEw h61 hty hxl
                  by_cases h43 : b = 43
                  · subst h43
                    have hb43 : (43 : UInt8).toNat = 43 := rfl
                    rw [hb43] at hget
                    clear hsep q92
                    go_wp2_with fail
                    go_region_with (go_at_call 70; refine HT.out.mono ?_; rintro e w1 ⟨⟨rv, rfl, ho⟩, hk⟩)
                    rcases ho with ⟨rfl, u, hu, hA1⟩ | ⟨hve, he1⟩
                    rotate_left 1
                    · obtain ⟨a1, rfl⟩ := he1.iface
                      have HE1 := Lib.hid (he1.mono (show w.heap.size ≤ wr.drew.heap.size from H.out.bel.size))
                      have HB1 := Lib.hid (HNE.out w1 hk)
                      have HRN := Lib.hid (HR.out none (Or.inl ⟨hve, rfl⟩))
                      clear he1 hk hve HR HT HN
                      go_wp2_with fail
                      go_ret2
                      exact ⟨⟨none, HRN.out, _, _, rfl, HE1.out⟩, HB1.out⟩
                    have HR2 := Lib.hid (show ∀ r, Nm.parseR VR VE (l.drop (i + 1)) [] false [] (rdn ++ [(ty, u)]) dn r → R0 r from fun r h => HR.out r (Or.inr ⟨u, hu, by rw [if_pos trivial]; exact h⟩))
                    clear HR hu
                    obtain ⟨hP, hBl⟩ := HN.out u w1 hA1 hk
                    have hadd := add_part w1 _ X Y Z D Rb A v xs vd ds S ty u rdn dn hP HXL.out.1
                    have HADD := Lib.hid hadd
                    have HBl := Lib.hid hBl
                    clear hA1 hk HT HN hP hadd hBl
                    go_wp2_with fail
                    refine HADD.out.mono ?_
                    rintro e w2 ⟨rfl, hb2, Rb', A', v', xs', vd', ds', S', hP'⟩
                    have hE2 : TLoopE VR VE l R0 w X Y Z D (i + 1) (i + 1) false w2 := by
                      refine ⟨Rb', A', v', xs', vd', ds', S', [], _, _, Nat.le_refl _, by omega, by rw [hnew]; exact HR2.out, hP', HBl.out.trans hb2, ?_, by have := H.out.few2; omega⟩
                      rw [List.length_append]; have := H.out.few; simp; omega
                    have HNN := Lib.hid hE2
                    clear hE2 hP' hb2 HADD HR2 hnew
                    go_wp2_with fail
                    exact ⟨⟨i + 1, i + 1, false, rfl, by go_num, by go_num, by omega, by omega, HNN⟩, by simp [intOf]; omega⟩
                  · have H43 := Lib.hid h43
                    have hsep2 : b = 44 ∨ b = 59 := by
                      rcases hsep with h | h | h
                      · exact Or.inl h
                      · exact absurd h h43
                      · exact Or.inr h
                    clear hsep h43 q92
                    rcases hsep2 with rfl | rfl
                    all_goals
                      first
                        | rw [show (44 : UInt8).toNat = 44 from rfl] at hget
                        | rw [show (59 : UInt8).toNat = 59 from rfl] at hget
                      go_wp2_with fail
                      go_region_with (go_at_call 70; refine HT.out.mono ?_; rintro e w1 ⟨⟨rv, rfl, ho⟩, hk⟩)
                      rcases ho with ⟨rfl, u, hu, hA1⟩ | ⟨hve, he1⟩
                      rotate_left 1
                      · obtain ⟨a1, rfl⟩ := he1.iface
                        have HE1 := Lib.hid (he1.mono (show w.heap.size ≤ wr.drew.heap.size from H.out.bel.size))
                        have HB1 := Lib.hid (HNE.out w1 hk)
                        have HRN := Lib.hid (HR.out none (Or.inl ⟨hve, rfl⟩))
                        clear he1 hk hve HR HT HN
                        go_wp2_with fail
                        go_ret2
                        exact ⟨⟨none, HRN.out, _, _, rfl, HE1.out⟩, HB1.out⟩
                      have HR2 := Lib.hid (show ∀ r, Nm.parseR VR VE (l.drop (i + 1)) [] false [] [] (dn ++ [rdn ++ [(ty, u)]]) r → R0 r from fun r h => HR.out r (Or.inr ⟨u, hu, by rw [if_neg H43.out]; exact h⟩))
                      clear HR hu
                      obtain ⟨hP, hBl⟩ := HN.out u w1 hA1 hk
                      have hadd := add_last w1 _ X Y Z D Rb A v xs vd ds S ty u rdn dn hP HXL.out.1 HXL.out.2
                      have HADD := Lib.hid hadd
                      have HBl := Lib.hid hBl
                      clear hA1 hk HT HN hP hadd hBl
                      go_wp2_with fail
                      refine HADD.out.mono ?_
                      rintro e w2 ⟨rfl, hb2, Rb', A', v', xs', vd', ds', S', hP'⟩
                      have hE2 : TLoopE VR VE l R0 w X Y Z D (i + 1) (i + 1) false w2 := by
                        refine ⟨Rb', A', v', xs', vd', ds', S', [], _, _, Nat.le_refl _, by omega, by rw [hnew]; exact HR2.out, hP', HBl.out.trans hb2, by simp, ?_⟩
                        rw [List.length_append]; have := H.out.few2; simp; omega
                      have HNN := Lib.hid hE2
                      clear hE2 hP' hb2 HADD HR2 hnew
                      go_wp2_with fail
                      exact ⟨⟨i + 1, i + 1, false, rfl, by go_num, by go_num, by omega, by omega, HNN⟩, by simp [intOf]; omega⟩
              · replace hrest := fun r h => hrest r (by rw [if_neg hsep]; exact h)
                have HN := Lib.hid (HG.out false hrest)
                have q44 : ((b.toNat : Int) == 44) = false := u8_ne (fun h => hsep (Or.inl h))
                have q43 : ((b.toNat : Int) == 43) = false := u8_ne (fun h => hsep (Or.inr (Or.inl h)))
                have q59 : ((b.toNat : Int) == 59) = false := u8_ne (fun h => hsep (Or.inr (Or.inr h)))
                clear hrest hsep hAty hEw
                by_cases hb61 : b = 61
                · have hty0 : ((ty.length : Int) == 0) = false := by
                    rw [beq_eq_false_iff_ne]; intro h; exact h61 ⟨hb61, List.length_eq_zero_iff.1 (by omega)⟩
                  subst hb61
                  rw [show (61 : UInt8).toNat = 61 from rfl] at hget
                  clear h61 q92 q44 q43 q59 h92
                  go_wp2_with fail
                  exact ⟨⟨i + 1, st, false, rfl, rfl, by go_num, by omega, by omega, HN⟩, by simp [intOf]; omega⟩
                · have q61 : ((b.toNat : Int) == 61) = false := u8_ne hb61
                  clear h61 hb61 h92
                  go_wp2_with fail
                  exact ⟨⟨i + 1, st, false, rfl, rfl, by go_num, by omega, by omega, HN⟩, by simp [intOf]; omega⟩
end Go.Proofs.YtjmahgefijncaaaGreatFmt

