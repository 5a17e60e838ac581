/- The law FnEntryValues, as a call. -/
import Derived.Test.YtjmahgefijncaaaGreatFmtVals2
import Derived.Test.YtjmahgefijncaaaGreatFmtTyp
import Derived.Test.YtjmahgefijncaaaGreatFmtAwakeN
namespace Go.Proofs.YtjmahgefijncaaaGreatFmt
open Go Go.RowKit

theorem lookup_snoc {p : Attr → Bool} {al : List Attr} {i : Nat} {a : Attr} (ha : al[i]? = some a) : lookupB p (al.take (i + 1)) = if (al.take i).any p then lookupB p (al.take i) else if p a then a.2 else [] := by
  unfold lookupB
  rw [take_snoc ha, List.find?_append]
  cases h : (al.take i).any p with
  | true =>
    rw [if_pos rfl]
    obtain ⟨b, hb, hpb⟩ := List.any_eq_true.1 h
    obtain ⟨c, hc⟩ : ∃ c, (al.take i).find? p = some c := by
      cases hf : (al.take i).find? p with
      | some c => exact ⟨c, rfl⟩
      | none => exact absurd hpb (by simpa using List.find?_eq_none.1 hf b hb)
    rw [hc]; rfl
  | false =>
    have hn : (al.take i).find? p = none := List.find?_eq_none.2 (fun b hb => by
      have := List.any_eq_false.1 h b hb
      simpa using this)
    rw [hn]
    cases hp : p a <;> simp [List.find?, hp]
theorem any_snoc {p : Attr → Bool} {al : List Attr} {i : Nat} {a : Attr} (ha : al[i]? = some a) : (al.take (i + 1)).any p = ((al.take i).any p || p a) := by
  rw [take_snoc ha, List.any_append]; simp
theorem lookup_no {p : Attr → Bool} {l : List Attr} (h : l.any p = false) : lookupB p l = [] :=
  lookup_none fun b hb => by
    have := List.any_eq_false.1 h b hb
    simpa using this
theorem foldSame_comm (a b : List UInt8) : foldSame a b = foldSame b a := by
  unfold foldSame
  by_cases h : low a = low b
  · rw [decide_eq_true h, decide_eq_true h.symm]
  · rw [decide_eq_false h, decide_eq_false (fun e => h e.symm)]

/-- The round's head: i attributes have been seen. -/
structure LInv (al : List Attr) (nm : List UInt8) (w : World) (i : Nat) (u5 u6 : Value) (one two : Bool) (wr : World) : Prop where
  e5 : StrsIn w u5 (lookupB (exactP nm) (al.take i))
  e6 : StrsIn w u6 (lookupB (foldP nm) (al.take i))
  o5 : one = (al.take i).any (exactP nm)
  o6 : two = (al.take i).any (foldP nm)
  bel : Below w.heap.size w wr

theorem linv_step {al : List Attr} {nm : List UInt8} {w : World} {i : Nat} {u5 u6 u : Value} {one two : Bool} {wr w' : World} {a : Attr} (h : LInv al nm w i u5 u6 one two wr) (ha : al[i]? = some a) (hu : StrsIn w u a.2) (hb : Below w.heap.size w w') :
    LInv al nm w (i + 1) (if one then u5 else if exactP nm a then u else u5) (if two then u6 else if foldP nm a then u else u6) (one || exactP nm a) (two || foldP nm a) w' := by
  refine ⟨?_, ?_, by rw [any_snoc ha, ← h.o5], by rw [any_snoc ha, ← h.o6], hb⟩
  · rw [lookup_snoc ha, ← h.o5]
    cases hone : one with
    | true => exact h.e5
    | false =>
      simp only [Bool.false_eq_true, if_false]
      cases hp : exactP nm a with
      | true => simpa using hu
      | false =>
        have := h.e5
        rw [lookup_no (by rw [← h.o5, hone])] at this
        simpa using this
  · rw [lookup_snoc ha, ← h.o6]
    cases hone : two with
    | true => exact h.e6
    | false =>
      simp only [Bool.false_eq_true, if_false]
      cases hp : foldP nm a with
      | true => simpa using hu
      | false =>
        have := h.e6
        rw [lookup_no (by rw [← h.o6, hone])] at this
        simpa using this

set_option maxRecDepth 100000 in
set_option maxHeartbeats 32000000 in
theorem law_entry (al : List Attr) (va : Value) (nm : List UInt8) (w : World) (hA : AttrsIn w va al) (hl : al.length ≤ 9223372036854775807) (hl2 : ∀ a ∈ al, a.2.length ≤ 9223372036854775807) (hnm : nm.length ≤ 9223372036854775807) (ev : Value) (hE : w.cell? ⟨1, 0, none⟩ = some ev) :
    Calls Tryz.prog 4 #[va, .string (Nm.bs nm)] w fun e w' => e = .returned (.bool true) ∧ Below w.heap.size w w' := by
  have hgl : 1 < w.heap.size := World.block_lt_of_cell? w ⟨1, 0, none⟩ hE
  have HAW := Lib.hid (fun (w2 : World) (h : Below w.heap.size w w2) => awake_any w2 ev ((h.cell (p := ⟨1, 0, none⟩) hgl).trans hE))
  have HFIT := Lib.hid (fits21_any va al hl hl2 w hA)
  have HAI := Lib.hid hA
  have hns := bs_size nm
  obtain ⟨o0, c0, rfl, hA0⟩ := hA
  have HA := Lib.hid hA0
  clear hA0 hl2 hE
  by_cases hbig : nm.length ≤ 2147483647
  · have t0 : decide ((nm.length : Int) > 2147483647) = false := by simp; omega
    have HTY := Lib.hid (fun w2 => type_any nm (by omega) w2)
    go_enter Tryz.func4, Tryz.ntmps4
    go_wp2_with fail
    refine HFIT.out.mono ?_
    rintro e w1 ⟨⟨r, rfl, hr⟩, hb1⟩
    have HB1 := Lib.hid hb1
    have HR := Lib.hid hr
    have hs1 := hb1.size
    clear hb1 hr HFIT
    cases r with
    | false =>
      go_wp2_with fail
      go_ret
      exact ⟨rfl, HB1.out⟩
    | true =>
      have hfit := HR.out rfl
      have hal := hfit.1
      have HF := Lib.hid hfit.2
      clear HR hfit
      by_cases h6 : al.length ≤ 6
      · have t1 : decide ((al.length : Int) > 6) = false := by simp; omega
        go_wp2_with fail
        refine (HTY.out w1).mono ?_
        rintro e w2 ⟨⟨r, rfl, -⟩, hb2⟩
        have HB2 := Lib.hid (HB1.out.trans (hb2.mono hs1))
        have hs2 := HB2.out.size
        clear hb2
        cases r with
        | false =>
          go_wp2_with fail
          refine (HAW.out w2 HB2.out).mono ?_
          rintro e w3 ⟨rfl, hb3⟩
          have HB3 := Lib.hid (HB2.out.trans (hb3.mono hs2))
          clear hb3
          go_wp2_with fail
          go_ret
          exact ⟨rfl, HB3.out⟩
        | true =>
          go_wp2_with fail
          go_loopw [5, 6, 7, 8, 33] (fun t5 t6 t7 t8 t33 wr => ∃ (i : Nat) (u5 u6 : Value) (one two : Bool), t33 = .int .i64 i ∧ t5 = u5 ∧ t6 = u6 ∧ t7 = .bool one ∧ t8 = .bool two ∧ i ≤ al.length ∧ Hid (LInv al nm w i u5 u6 one two wr)) (fun _ _ _ _ t33 _ => al.length - (intOf t33).toNat)
          case atStart => exact ⟨0, _, _, _, _, rfl, rfl, rfl, rfl, rfl, Nat.zero_le _, Lib.hid ⟨⟨none, 0, rfl, fun j s hj => by simp [lookupB] at hj⟩, ⟨none, 0, rfl, fun j s hj => by simp [lookupB] at hj⟩, rfl, rfl, HB2.out⟩⟩
          case round =>
            obtain ⟨i, u5, u6, one, two, rfl, rfl, rfl, rfl, rfl, hi, HI⟩ := hrel
            have hsr := HI.out.bel.size
            by_cases hend : i = al.length
            · subst hend
              have t2 : decide ((al.length : Int) < (al.length : Int)) = false := by simp
              have h5 := HI.out.e5
              have h6' := HI.out.e6
              rw [List.take_length] at h5 h6'
              have HB3 := Lib.hid HI.out.bel
              have hle := lookup_len (p := exactP nm) (fun a ha => (HF.out a ha).2.1)
              have hlf := lookup_len (p := foldP nm) (fun a ha => (HF.out a ha).2.1)
              have HV1 := Lib.hid (fun w' (hb : Below w.heap.size w w') => values_of ⟨#[99, 110, 61, 97]⟩ al _ nm w' (HAI.out.stays hb) hal HF.out hbig)
              have HV2 := Lib.hid (fun w' (hb : Below w.heap.size w w') => values_of_fold ⟨#[99, 110, 61, 97]⟩ al _ nm w' (HAI.out.stays hb) hal HF.out hbig)
              have HF1 := Lib.hid (fun w' (hb : Below w.heap.size w w') => first_of ⟨#[99, 110, 61, 97]⟩ al _ nm w' (HAI.out.stays hb) hal HF.out hbig)
              have HF2 := Lib.hid (fun w' (hb : Below w.heap.size w w') => first_of_fold ⟨#[99, 110, 61, 97]⟩ al _ nm w' (HAI.out.stays hb) hal HF.out hbig)
              clear HAI HA HF HTY
              generalize lookupB (exactP nm) al = LE at *
              generalize lookupB (foldP nm) al = LF at *
              have H5 := Lib.hid h5
              have H6 := Lib.hid h6'
              obtain ⟨o5, c5, rfl, h5c⟩ := h5
              obtain ⟨o6, c6, rfl, h6c⟩ := h6'
              generalize hn5 : LE.length = n5 at *
              generalize hn6 : LF.length = n6 at *
              have HXN := Lib.hid (heap_alloc_new wr (.cells #[.string ⟨#[99, 110, 61, 97]⟩, .slice o0 al.length c0] 39 (0, 0)))
              have HB4 := Lib.hid (HB3.out.alloc hsr (.cells #[.string ⟨#[99, 110, 61, 97]⟩, .slice o0 al.length c0] 39 (0, 0)))
              have hmv : ∀ {b o : Nat} {u : Value}, w.cell? ⟨b, o, none⟩ = some u → (wr.alloc (.cells #[.string ⟨#[99, 110, 61, 97]⟩, .slice o0 al.length c0] 39 (0, 0))).cell? ⟨b, o, none⟩ = some u := fun {b o u} h => cell_alloc ((HB3.out.cell (World.block_lt_of_cell? w ⟨b, o, none⟩ h)).trans h) _
              have HN5 := Lib.hid (show LE.length ≤ 2147483647 by rw [hn5]; exact hle)
              have q5 : (LE = [] ∧ n5 = 0) ∨ ∃ s r b off, LE = s :: r ∧ o5 = some ⟨b, off, none⟩ ∧ (wr.alloc (.cells #[.string ⟨#[99, 110, 61, 97]⟩, .slice o0 al.length c0] 39 (0, 0))).cell? ⟨b, off, none⟩ = some (.string (Nm.bs s)) ∧ (0 : Int) < (n5 : Int) := by
                cases LE with
                | nil => exact Or.inl ⟨rfl, by simpa using hn5.symm⟩
                | cons s r =>
                  obtain ⟨b, off, e, hc⟩ := h5c 0 s rfl
                  exact Or.inr ⟨s, r, b, off, rfl, e, hmv hc, by rw [← hn5, List.length_cons]; omega⟩
              clear hn5
              have HN6 := Lib.hid (show LF.length ≤ 2147483647 by rw [hn6]; exact hlf)
              have q6 : (LF = [] ∧ n6 = 0) ∨ ∃ s r b off, LF = s :: r ∧ o6 = some ⟨b, off, none⟩ ∧ (wr.alloc (.cells #[.string ⟨#[99, 110, 61, 97]⟩, .slice o0 al.length c0] 39 (0, 0))).cell? ⟨b, off, none⟩ = some (.string (Nm.bs s)) ∧ (0 : Int) < (n6 : Int) := by
                cases LF with
                | nil => exact Or.inl ⟨rfl, by simpa using hn6.symm⟩
                | cons s r =>
                  obtain ⟨b, off, e, hc⟩ := h6c 0 s rfl
                  exact Or.inr ⟨s, r, b, off, rfl, e, hmv hc, by rw [← hn6, List.length_cons]; omega⟩
              clear hn6
              clear hmv h5c h6c HI
              rcases q5 with ⟨rfl, rfl⟩ | ⟨s5, r5, b5, off5, rfl, rfl, k5, hpos5⟩
              all_goals
                rcases q6 with ⟨rfl, rfl⟩ | ⟨s6, r6, b6, off6, rfl, rfl, k6, hpos6⟩
                all_goals
                  go_wp2_with fail
                  refine (HV1.out _ HB4.out).mono ?_
                  rintro e wA ⟨⟨v1, rfl, hst1⟩, hbA⟩
                  have HBA := Lib.hid (HB4.out.trans (hbA.mono (by simp; omega)))
                  have szA := HBA.out.size
                  have x0 : wA.cell? ⟨wr.heap.size, 0, none⟩ = some (.string ⟨#[99, 110, 61, 97]⟩) := (hbA.cell (p := ⟨wr.heap.size, 0, none⟩) (by simp)).trans (blockCell HXN.out 0)
                  have x1 : wA.cell? ⟨wr.heap.size, 1, none⟩ = some (.slice o0 al.length c0) := (hbA.cell (p := ⟨wr.heap.size, 1, none⟩) (by simp)).trans (blockCell HXN.out 1)
                  have hxlt : wr.heap.size < wA.heap.size := by have := hbA.size; simp at this; omega
                  have HS1 := Lib.hid (entry_same v1 _ _ (by have := HN5.out; omega) wA hst1 (H5.out.stays HBA.out))
                  obtain ⟨oA, cA, rfl, -⟩ := hst1
                  clear hbA HXN
                  generalize hX : wr.heap.size = X at *
                  go_wp2_with fail
                  refine HS1.out.mono ?_
                  rintro e wB ⟨rfl, hbB⟩
                  have HBB := Lib.hid (HBA.out.trans (hbB.mono szA))
                  have szB := HBB.out.size
                  have y0 : wB.cell? ⟨X, 0, none⟩ = some (.string ⟨#[99, 110, 61, 97]⟩) := (hbB.cell (p := ⟨X, 0, none⟩) hxlt).trans x0
                  have y1 : wB.cell? ⟨X, 1, none⟩ = some (.slice o0 al.length c0) := (hbB.cell (p := ⟨X, 1, none⟩) hxlt).trans x1
                  have hxltB : X < wB.heap.size := Nat.lt_of_lt_of_le hxlt hbB.size
                  clear hbB HS1 x0 x1
                  go_wp2_with fail
                  refine (HV2.out _ HBB.out).mono ?_
                  rintro e wC ⟨⟨v2, rfl, hst2⟩, hbC⟩
                  have HBC := Lib.hid (HBB.out.trans (hbC.mono szB))
                  have szC := HBC.out.size
                  have x0 : wC.cell? ⟨X, 0, none⟩ = some (.string ⟨#[99, 110, 61, 97]⟩) := (hbC.cell (p := ⟨X, 0, none⟩) hxltB).trans y0
                  have x1 : wC.cell? ⟨X, 1, none⟩ = some (.slice o0 al.length c0) := (hbC.cell (p := ⟨X, 1, none⟩) hxltB).trans y1
                  have hxltC : X < wC.heap.size := Nat.lt_of_lt_of_le hxltB hbC.size
                  have HS2 := Lib.hid (entry_same v2 _ _ (by have := HN6.out; omega) wC hst2 (H6.out.stays HBC.out))
                  obtain ⟨oC, cC, rfl, -⟩ := hst2
                  clear hbC y0 y1
                  go_wp2_with fail
                  refine HS2.out.mono ?_
                  rintro e wD ⟨rfl, hbD⟩
                  have HBD := Lib.hid (HBC.out.trans (hbD.mono szC))
                  have szD := HBD.out.size
                  have y0 : wD.cell? ⟨X, 0, none⟩ = some (.string ⟨#[99, 110, 61, 97]⟩) := (hbD.cell (p := ⟨X, 0, none⟩) hxltC).trans x0
                  have y1 : wD.cell? ⟨X, 1, none⟩ = some (.slice o0 al.length c0) := (hbD.cell (p := ⟨X, 1, none⟩) hxltC).trans x1
                  have hxltD : X < wD.heap.size := Nat.lt_of_lt_of_le hxltC hbD.size
                  clear hbD HS2 x0 x1
                  go_wp2_with fail
                  refine (HF1.out _ HBD.out).mono ?_
                  rintro e wE ⟨he, hbE⟩
                  first
                    | rw [show head1 (s5 :: r5) = s5 from rfl] at he
                    | rw [show Nm.bs (head1 []) = ⟨#[]⟩ from rfl] at he
                  subst he
                  have HBE := Lib.hid (HBD.out.trans (hbE.mono szD))
                  have szE := HBE.out.size
                  have x0 : wE.cell? ⟨X, 0, none⟩ = some (.string ⟨#[99, 110, 61, 97]⟩) := (hbE.cell (p := ⟨X, 0, none⟩) hxltD).trans y0
                  have x1 : wE.cell? ⟨X, 1, none⟩ = some (.slice o0 al.length c0) := (hbE.cell (p := ⟨X, 1, none⟩) hxltD).trans y1
                  clear hbE y0 y1
                  go_wp2_with fail
                  refine (HF2.out _ HBE.out).mono ?_
                  rintro e wF ⟨he, hbF⟩
                  first
                    | rw [show head1 (s6 :: r6) = s6 from rfl] at he
                    | rw [show Nm.bs (head1 []) = ⟨#[]⟩ from rfl] at he
                  subst he
                  have HBF := Lib.hid (HBE.out.trans (hbF.mono szE))
                  have szF := HBF.out.size
                  clear hbF x0 x1
                  go_wp2_with fail
                  refine (HAW.out _ HBF.out).mono ?_
                  rintro e wG ⟨rfl, hbG⟩
                  have HBG := Lib.hid (HBF.out.trans (hbG.mono szF))
                  clear hbG
                  go_wp2_with fail
                  go_ret
                  exact ⟨rfl, HBG.out⟩
            · have hlt : i < al.length := by omega
              have t2 : decide ((i : Int) < (al.length : Int)) = true := by simp; omega
              obtain ⟨a, hp⟩ : ∃ a, al[i]? = some a := ⟨_, List.getElem?_eq_getElem hlt⟩
              obtain ⟨ga, offa, u, rfl, cra, crb, hst⟩ := HA.out i a hp
              have ka : wr.cell? ⟨ga, offa + i * 2, none⟩ = some (.string (Nm.bs a.1)) := (HI.out.bel.cell (World.block_lt_of_cell? w ⟨ga, offa + i * 2, none⟩ cra)).trans cra
              have kb : wr.cell? ⟨ga, offa + i * 2 + 1, none⟩ = some u := (HI.out.bel.cell (World.block_lt_of_cell? w ⟨ga, offa + i * 2 + 1, none⟩ crb)).trans crb
              have HST := Lib.hid hst
              obtain ⟨ou, cu, rfl, hcu⟩ := hst
              have hfit := HF.out a (List.mem_of_getElem? hp)
              have hfl := hfit.1
              have hf2 := hfit.2.1
              have HP := Lib.hid hp
              have HB3 := Lib.hid (HI.out.bel.alloc hsr (.cells #[.string (Nm.bs a.1), .slice ou a.2.length cu] 36 (0, 0)))
              have HNEW := Lib.hid (heap_alloc_new wr (.cells #[.string (Nm.bs a.1), .slice ou a.2.length cu] 36 (0, 0)))
              clear cra crb hcu hp hend hfit
              go_wp2_with fail
              refine (type_any a.1 (by omega) _).mono ?_
              rintro e w3 ⟨⟨r, rfl, -⟩, hb3⟩
              have hz3 := hb3.size
              rw [World.size_alloc] at hz3
              have k0 : w3.cell? ⟨wr.heap.size, 0, none⟩ = some (.string (Nm.bs a.1)) := (hb3.cell (p := ⟨wr.heap.size, 0, none⟩) (by simp)).trans (blockCell HNEW.out 0)
              have k1 : w3.cell? ⟨wr.heap.size, 1, none⟩ = some (.slice ou a.2.length cu) := (hb3.cell (p := ⟨wr.heap.size, 1, none⟩) (by simp)).trans (blockCell HNEW.out 1)
              have HB4 := Lib.hid (HB3.out.trans (hb3.mono (by simp; omega)))
              have hz4 := HB4.out.size
              clear hb3 ka kb HB3 HNEW
              generalize hA : wr.heap.size = A at *
              clear hA
              cases r with
              | false =>
                go_wp2_with fail
                refine (HAW.out w3 HB4.out).mono ?_
                rintro e w4 ⟨rfl, hb4⟩
                have HB5 := Lib.hid (HB4.out.trans (hb4.mono hz4))
                clear hb4
                go_wp2_with fail
                go_ret
                exact ⟨rfl, HB5.out⟩
              | true =>
                by_cases h4 : a.2.length ≤ 4
                · have t4 : decide ((a.2.length : Int) > 4) = false := by simp; omega
                  have HAL := Lib.hid (alike_any a.1 nm (by omega) (by omega) w3)
                  have hxe : ((Nm.bs a.1).toList == (Nm.bs nm).toList) = exactP nm a := by
                    rw [bs_toList, bs_toList]; unfold exactP
                    by_cases h : a.1 = nm
                    · simp [h]
                    · rw [decide_eq_false h, beq_eq_false_iff_ne]; exact h
                  have hye : foldSame a.1 nm = foldP nm a := foldSame_comm _ _
                  rw [hye] at HAL
                  have HLS := Lib.hid (fun w' (hb : Below w.heap.size w w') => linv_step HI.out HP.out HST.out hb)
                  clear hye
                  cases hx : exactP nm a
                  all_goals
                    rw [hx] at hxe HLS
                  · cases hy : foldP nm a
                    all_goals
                      rw [hy] at HLS HAL
                    · clear hx hy
                      go_wp2_with fail
                      refine HAL.out.mono ?_
                      rintro e w5 ⟨rfl, hb5⟩
                      have k2 : w5.cell? ⟨A, 1, none⟩ = some (.slice ou a.2.length cu) := (hb5.cell (World.block_lt_of_cell? w3 ⟨A, 1, none⟩ k1)).trans k1
                      have hN := HLS.out w5 (HB4.out.trans (hb5.mono hz4))
                      simp at hN
                      have HN := Lib.hid hN
                      clear hN hb5 HLS HAL k0 k1
                      go_wp2_with fail
                      exact ⟨⟨i + 1, _, _, _, _, by go_num, rfl, rfl, rfl, rfl, by omega, HN⟩, by simp [intOf]; omega⟩
                    · cases two
                      all_goals
                        clear hx hy
                        go_wp2_with fail
                        refine HAL.out.mono ?_
                        rintro e w5 ⟨rfl, hb5⟩
                        have k2 : w5.cell? ⟨A, 1, none⟩ = some (.slice ou a.2.length cu) := (hb5.cell (World.block_lt_of_cell? w3 ⟨A, 1, none⟩ k1)).trans k1
                        have hN := HLS.out w5 (HB4.out.trans (hb5.mono hz4))
                        simp at hN
                        have HN := Lib.hid hN
                        clear hN hb5 HLS HAL k0 k1
                        go_wp2_with fail
                        exact ⟨⟨i + 1, _, _, _, _, by go_num, rfl, rfl, rfl, rfl, by omega, HN⟩, by simp [intOf]; omega⟩
                  · cases one
                    all_goals
                      cases hy : foldP nm a
                      all_goals
                        rw [hy] at HLS HAL
                      · clear hx hy
                        go_wp2_with fail
                        refine HAL.out.mono ?_
                        rintro e w5 ⟨rfl, hb5⟩
                        have k2 : w5.cell? ⟨A, 1, none⟩ = some (.slice ou a.2.length cu) := (hb5.cell (World.block_lt_of_cell? w3 ⟨A, 1, none⟩ k1)).trans k1
                        have hN := HLS.out w5 (HB4.out.trans (hb5.mono hz4))
                        simp at hN
                        have HN := Lib.hid hN
                        clear hN hb5 HLS HAL k0 k1
                        go_wp2_with fail
                        exact ⟨⟨i + 1, _, _, _, _, by go_num, rfl, rfl, rfl, rfl, by omega, HN⟩, by simp [intOf]; omega⟩
                      · cases two
                        all_goals
                          clear hx hy
                          go_wp2_with fail
                          refine HAL.out.mono ?_
                          rintro e w5 ⟨rfl, hb5⟩
                          have k2 : w5.cell? ⟨A, 1, none⟩ = some (.slice ou a.2.length cu) := (hb5.cell (World.block_lt_of_cell? w3 ⟨A, 1, none⟩ k1)).trans k1
                          have hN := HLS.out w5 (HB4.out.trans (hb5.mono hz4))
                          simp at hN
                          have HN := Lib.hid hN
                          clear hN hb5 HLS HAL k0 k1
                          go_wp2_with fail
                          exact ⟨⟨i + 1, _, _, _, _, by go_num, rfl, rfl, rfl, rfl, by omega, HN⟩, by simp [intOf]; omega⟩
                · have t4 : decide ((a.2.length : Int) > 4) = true := by simp; omega
                  go_wp2_with fail
                  refine (HAW.out w3 HB4.out).mono ?_
                  rintro e w4 ⟨rfl, hb4⟩
                  have HB5 := Lib.hid (HB4.out.trans (hb4.mono hz4))
                  clear hb4
                  go_wp2_with fail
                  go_ret
                  exact ⟨rfl, HB5.out⟩
      · have t1 : decide ((al.length : Int) > 6) = true := by simp; omega
        go_wp2_with fail
        refine (HAW.out w1 HB1.out).mono ?_
        rintro e w3 ⟨rfl, hb3⟩
        have HB3 := Lib.hid (HB1.out.trans (hb3.mono hs1))
        clear hb3
        go_wp2_with fail
        go_ret
        exact ⟨rfl, HB3.out⟩
  · have t0 : decide ((nm.length : Int) > 2147483647) = true := by simp; omega
    go_enter Tryz.func4, Tryz.ntmps4
    go_wp2_with fail
    refine HFIT.out.mono ?_
    rintro e w1 ⟨⟨r, rfl, hr⟩, hb1⟩
    have HB1 := Lib.hid hb1
    clear hb1 hr
    cases r
    all_goals
      go_wp2_with fail
      go_ret
      exact ⟨rfl, HB1.out⟩
end Go.Proofs.YtjmahgefijncaaaGreatFmt
