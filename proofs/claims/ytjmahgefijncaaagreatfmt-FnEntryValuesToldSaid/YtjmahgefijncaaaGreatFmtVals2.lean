/- ValuesOf, FirstOf. -/
import Derived.Test.YtjmahgefijncaaaGreatFmtGet
namespace Go.Proofs.YtjmahgefijncaaaGreatFmt
open Go Go.RowKit

theorem lookup_len {p : Attr → Bool} {al : List Attr} (h : ∀ a ∈ al, a.2.length ≤ 2147483647) : (lookupB p al).length ≤ 2147483647 := by
  unfold lookupB
  split
  · rename_i a ha
    exact h a (List.mem_of_find?_eq_some ha)
  · simp

set_option maxRecDepth 100000 in
set_option maxHeartbeats 16000000 in
theorem values_of (dn : ByteArray) (al : List Attr) (va : Value) (nm : List UInt8) (w : World) (hA : AttrsIn w va al) (hl : al.length ≤ 2147483647) (hf : ∀ a ∈ al, AttrFits a) (hnm : nm.length ≤ 2147483647) :
    Calls Tryz.prog 20 #[.agg #[.string dn, va], .string (Nm.bs nm), .bool false] w fun e w' => (∃ v, e = .returned v ∧ StrsIn w' v (lookupB (exactP nm) al)) ∧ Below w.heap.size w w' := by
  obtain ⟨o0, c0, rfl, hA0⟩ := hA
  have HA := Lib.hid hA0
  have HF := Lib.hid hf
  clear hA0 hf
  obtain ⟨i0, hi0, hz0, hz1, hz2⟩ := info_pea
  have hns := bs_size nm
  go_enter Tryz.func20, Tryz.ntmps20
  go_wp2_with fail
  have hE0 : Below w.heap.size w ((w.alloc (Obj.cells #[Value.string dn, Value.slice o0 al.length c0] 39)).alloc (Obj.cells #[Value.string dn, Value.slice none 0 0] 92)) ∧
      VE (.string dn) al w (w.heap.size + 1) 0 ((w.alloc (Obj.cells #[Value.string dn, Value.slice o0 al.length c0] 39)).alloc (Obj.cells #[Value.string dn, Value.slice none 0 0] 92)) := by
    refine ⟨((Below.refl _ w).alloc (Nat.le_refl _) _).alloc (by simp) _, .slice none 0 0, [], by omega, ?_, owns_start _ _ _ _, rfl, ((Below.refl _ w).alloc (Nat.le_refl _) _).alloc (by simp) _⟩
    have := heap_alloc_new (w.alloc (Obj.cells #[Value.string dn, Value.slice o0 al.length c0] 39)) (Obj.cells #[Value.string dn, Value.slice none 0 0] 92)
    simpa using this
  have HE0 := Lib.hid hE0.2
  clear hE0
  have hElow : w.heap.size ≤ w.heap.size + 1 := by omega
  generalize w.heap.size + 1 = E at *
  go_loopw [17] (fun t17 wr => ∃ i : Nat, t17 = .int .i64 i ∧ i ≤ al.length ∧ Hid (VE (.string dn) al w E i wr)) (fun t17 _ => al.length - (intOf t17).toNat)
  case atStart => exact ⟨0, rfl, Nat.zero_le _, HE0⟩
  case round =>
    obtain ⟨i, rfl, hi, HE⟩ := hrel
    by_cases hend : i = al.length
    · subst hend
      have t1 : decide ((al.length : Int) < (al.length : Int)) = false := by simp
      have hent : EntAt wr E al := EntAt.of HE.out
      have hbel : Below w.heap.size w wr := by obtain ⟨_, _, h⟩ := HE.out; exact h.bel
      have hb0 := hbel.size
      have HG := Lib.hid (get_vals E al nm hl (fun a ha => (HF.out a ha).1) hnm wr hent)
      have HB := Lib.hid hbel
      have HLK := Lib.hid (lookup_len (p := exactP nm) (fun a ha => (HF.out a ha).2.1))
      clear hent hbel HE
      go_wp2_with fail
      refine HG.out.mono ?_
      rintro e w2 ⟨⟨v, rfl, hst⟩, hb2⟩
      have HB2 := Lib.hid (HB.out.trans (hb2.mono hb0))
      have hb3 := HB2.out.size
      clear hb2 HG
      go_wp2_with (at_builtin; refine wpList_append_copy (by rfl) _ _ (by rfl) (by rfl) _ (by rfl) (lookupB (exactP nm) al) HLK.out hst ?_)
      intro v1 w3 hs3 hb4
      have HE3 := Lib.hid (And.intro hs3.in' (HB2.out.trans (hb4.mono hb3)))
      obtain ⟨o3, c3, rfl⟩ := owns_form hs3
      clear hs3 hb4 hst
      go_wp2_with fail
      go_ret
      exact ⟨⟨_, rfl, HE3.out.1⟩, HE3.out.2⟩
    · have hlt : i < al.length := by omega
      have t1 : decide ((i : Int) < (al.length : Int)) = true := by simp; omega
      obtain ⟨a, hp⟩ : ∃ a, al[i]? = some a := ⟨_, List.getElem?_eq_getElem hlt⟩
      obtain ⟨v, xs, hinv⟩ := HE.out
      obtain ⟨o, c, rfl⟩ : ∃ o c, v = .slice o i c := by
        rcases hinv.own.2 with ⟨h, h0⟩ | ⟨g, cap, cur, h, _⟩
        · exact ⟨none, 0, by rw [h, h0]⟩
        · exact ⟨_, _, h⟩
      obtain ⟨ga, offa, u, rfl, cra, crb, hst⟩ := HA.out i a hp
      have hb0 := hinv.bel.size
      have ka : wr.cell? ⟨ga, offa + i * 2, none⟩ = some (.string (Nm.bs a.1)) := (hinv.bel.cell (World.block_lt_of_cell? w ⟨ga, offa + i * 2, none⟩ cra)).trans cra
      have kb : wr.cell? ⟨ga, offa + i * 2 + 1, none⟩ = some u := (hinv.bel.cell (World.block_lt_of_cell? w ⟨ga, offa + i * 2 + 1, none⟩ crb)).trans crb
      have hstr := hst.stays hinv.bel
      obtain ⟨ou, cu, rfl, hcu⟩ := id hst
      have hfit := HF.out a (List.mem_of_getElem? hp)
      have HI := Lib.hid hinv
      have HST := Lib.hid hstr
      have HP := Lib.hid hp
      have hElt := blockLt hinv.ent
      clear cra crb hst hcu hstr hinv hp hend HE
      go_upto_region 5 with (fail)
      obtain ⟨Wa, hWa⟩ : ∃ Wa, Wa = wr.alloc (.cells #[.string (Nm.bs a.1), .slice ou a.2.length cu] 36) := ⟨_, rfl⟩
      rw [← hWa]
      have hA1 : Wa.heap[wr.heap.size]? = some (.cells #[.string (Nm.bs a.1), .slice ou a.2.length cu] 36 (0, 0)) := by rw [hWa]; exact heap_alloc_new wr _
      have hbW : Below wr.heap.size wr Wa := by rw [hWa]; exact (Below.refl _ wr).alloc (Nat.le_refl _) _
      have hWz : Wa.heap.size = wr.heap.size + 1 := by rw [hWa]; simp
      have hE1 : Wa.heap[E]? = some (.cells #[.string dn, .slice o i c] 92 (0, 0)) := (hbW.block _ hElt).trans HI.out.ent
      clear hWa ka kb
      generalize hA : wr.heap.size = A at *
      have hAlt : A < Wa.heap.size := blockLt hA1
      have hAE : A ≠ E := by omega
      have hEA : E ≠ A := by omega
      have a0 : Wa.drew.cell? ⟨A, 0, none⟩ = some (.string (Nm.bs a.1)) := blockCell (w := Wa.drew) hA1 0
      have a1 : Wa.drew.cell? ⟨A, 1, none⟩ = some (.slice ou a.2.length cu) := blockCell (w := Wa.drew) hA1 1
      have e1 : Wa.drew.cell? ⟨E, 1, none⟩ = some (.slice o i c) := blockCell (w := Wa.drew) hE1 1
      have hstW : StrsIn Wa.drew (.slice ou a.2.length cu) a.2 := HST.out.stays ⟨hbW.os, hbW.tape, hbW.output, hbW.size, fun k hk => hbW.block k (by omega)⟩
      have hm1 : a.2.length ≤ 2147483647 := hfit.2.1
      have hby : (i + 1) * 8 ≤ 140737488355328 := by omega
      have h63 : i + 1 ≤ maxLen := by simp only [maxLen]; omega
      have HFIT := Lib.hid hfit
      clear hfit
      go_region_law
        (first
          | (refine step_append_copy (by rfl) _ _ (by rfl) (by rfl) _ (by rfl) a.2 hm1 hstW ?_; intro v1 w1 hs1 hb1; have hb1z := hb1.size; have a0' : w1.cell? ⟨A, 0, none⟩ = some (.string (Nm.bs a.1)) := (hb1.cell (p := ⟨A, 0, none⟩) hAlt).trans a0; have a1' : w1.cell? ⟨A, 1, none⟩ = some (.slice ou a.2.length cu) := (hb1.cell (p := ⟨A, 1, none⟩) hAlt).trans a1; have e1' : w1.cell? ⟨E, 1, none⟩ = some (.slice o i c) := (hb1.cell (p := ⟨E, 1, none⟩) (by show E < Wa.heap.size; omega)).trans e1)
          | (refine step_append_lies _ (by rfl) _ _ _ (by rfl) w.heap.size 93 i0 (.pointer none) 1 8 Tryz.underlying90 hi0 hz0 hz1 hz2 rfl (by decide) (.slice o i c) i xs (by rfl) hownW ⟨w2.heap.size, 0, none⟩ 1 1 [.pointer (some ⟨p, 0, none⟩)] (by rfl) rfl hnews (by intro u hu; simp at hu; subst hu; rfl) (by decide) h63 hby (by simp; omega) (w2.heap.size + 1) (by simp) ?_; intro g cap w4 hown' hgr hat hlt4; have hEv : (Value.slice o i c).ownBlock ≠ some E := own_ne HI.out.own HI.out.ent (by decide); have hAv : (Value.slice o i c).ownBlock ≠ some A := (fun e => by have := owns_lt HI.out.own A e; omega); have hE4 : w4.heap[E]? = some (.cells #[.string dn, .slice o i c] 92 (0, 0)) := (hgr.block E (by simp; omega) (fun e => hEv e.symm)).trans ((Below.heap_alloc w2 _ E (by omega)).trans hEw2); have e4 : w4.cell? ⟨E, 1, none⟩ = some (.slice o i c) := blockCell hE4 1; have f4 := blockFrozen hE4 1; have a4 : w4.cell? ⟨A, 0, none⟩ = some (.string (Nm.bs a.1)) := (hgr.cell_far ⟨A, 0, none⟩ (by simp; omega) (fun e => hAv e.symm)).trans ((World.cell?_of_block (w := w2) (Below.heap_alloc w2 _ A (by omega))).trans a0''); have a5 : w4.cell? ⟨A, 1, none⟩ = some (.slice ou a.2.length cu) := (hgr.cell_far ⟨A, 1, none⟩ (by simp; omega) (fun e => hAv e.symm)).trans ((World.cell?_of_block (w := w2) (Below.heap_alloc w2 _ A (by omega))).trans a1''))
          | (go_simp; go_at_call 43; refine (new_attr a v1 hm1 HFIT.out.2.2 w1 hs1.in').mono ?_; rintro e w2 ⟨⟨p, x, rfl, hp0, hp1⟩, hb2⟩; have hAw : A < w1.heap.size := Nat.lt_of_lt_of_le hAlt hb1z; have hb2z := hb2.size; have a0'' : w2.cell? ⟨A, 0, none⟩ = some (.string (Nm.bs a.1)) := (hb2.cell (p := ⟨A, 0, none⟩) hAw).trans a0'; have a1'' : w2.cell? ⟨A, 1, none⟩ = some (.slice ou a.2.length cu) := (hb2.cell (p := ⟨A, 1, none⟩) hAw).trans a1'; have e1'' : w2.cell? ⟨E, 1, none⟩ = some (.slice o i c) := (hb2.cell (p := ⟨E, 1, none⟩) (by show E < w1.heap.size; omega)).trans e1'; have e1a : (w2.alloc (.cells #[.pointer (some ⟨p, 0, none⟩)] 93)).cell? ⟨E, 1, none⟩ = some (.slice o i c) := cell_alloc e1'' _; have n1 := World.new_ne w2 ⟨E, 1, none⟩ e1''; have n2 := World.new_ne w2 ⟨A, 0, none⟩ a0''; have hb3 : Below A wr w2 := hbW.trans (((⟨hb1.os, hb1.tape, hb1.output, hb1.size, hb1.block⟩ : Below Wa.heap.size Wa w1).mono (by omega)).trans (hb2.mono (by omega))); have hownW : (w2.alloc (.cells #[.pointer (some ⟨p, 0, none⟩)] 93)).ownsRow w.heap.size 93 1 (.slice o i c) i xs := (owns_stays HI.out.own (fun g hg => hb3.block g (by have := owns_lt HI.out.own g hg; omega))).alloc _; have hnews : ∀ k u, ([.pointer (some ⟨p, 0, none⟩)] : List Value)[k]? = some u → (w2.alloc (.cells #[.pointer (some ⟨p, 0, none⟩)] 93)).cell? ((⟨w2.heap.size, 0, none⟩ : Addr).add k) = some u := (fun k u hk => World.news_of_block (B := w2.heap.size) (heap_alloc_new w2 _) k u (by simpa using hk)); have hEAp : EA w2 p a := ⟨v1, x, hp1, hs1.stays fun g c hg => hb2.block g (blockLt hg)⟩; have hEw2 : w2.heap[E]? = some (.cells #[.string dn, .slice o i c] 92 (0, 0)) := (hb3.block E hElt).trans HI.out.ent; go_wp2_with fail))
      all_goals
        have hs1 := vinv_step HI.out HP.out (hA.symm ▸ hb3) hEAp hown' hgr hat
        have HE2 := Lib.hid hs1
        clear hs1 hown' hgr hat hnews hownW hEAp hEw2 hE4 e4 f4 a4 a5 e1a n1 n2 a0'' a1'' e1'' a0' a1' e1' hb3 hp1 hA1 hE1 a0 a1 e1 hstW
        go_wp2_with fail
        exact ⟨⟨i + 1, by go_num, by omega, HE2⟩, by simp [intOf]; omega⟩

set_option maxRecDepth 100000 in
set_option maxHeartbeats 16000000 in
theorem values_of_fold (dn : ByteArray) (al : List Attr) (va : Value) (nm : List UInt8) (w : World) (hA : AttrsIn w va al) (hl : al.length ≤ 2147483647) (hf : ∀ a ∈ al, AttrFits a) (hnm : nm.length ≤ 2147483647) :
    Calls Tryz.prog 20 #[.agg #[.string dn, va], .string (Nm.bs nm), .bool true] w fun e w' => (∃ v, e = .returned v ∧ StrsIn w' v (lookupB (foldP nm) al)) ∧ Below w.heap.size w w' := by
  obtain ⟨o0, c0, rfl, hA0⟩ := hA
  have HA := Lib.hid hA0
  have HF := Lib.hid hf
  clear hA0 hf
  obtain ⟨i0, hi0, hz0, hz1, hz2⟩ := info_pea
  have hns := bs_size nm
  go_enter Tryz.func20, Tryz.ntmps20
  go_wp2_with fail
  have hE0 : Below w.heap.size w ((w.alloc (Obj.cells #[Value.string dn, Value.slice o0 al.length c0] 39)).alloc (Obj.cells #[Value.string dn, Value.slice none 0 0] 92)) ∧
      VE (.string dn) al w (w.heap.size + 1) 0 ((w.alloc (Obj.cells #[Value.string dn, Value.slice o0 al.length c0] 39)).alloc (Obj.cells #[Value.string dn, Value.slice none 0 0] 92)) := by
    refine ⟨((Below.refl _ w).alloc (Nat.le_refl _) _).alloc (by simp) _, .slice none 0 0, [], by omega, ?_, owns_start _ _ _ _, rfl, ((Below.refl _ w).alloc (Nat.le_refl _) _).alloc (by simp) _⟩
    have := heap_alloc_new (w.alloc (Obj.cells #[Value.string dn, Value.slice o0 al.length c0] 39)) (Obj.cells #[Value.string dn, Value.slice none 0 0] 92)
    simpa using this
  have HE0 := Lib.hid hE0.2
  clear hE0
  have hElow : w.heap.size ≤ w.heap.size + 1 := by omega
  generalize w.heap.size + 1 = E at *
  go_loopw [17] (fun t17 wr => ∃ i : Nat, t17 = .int .i64 i ∧ i ≤ al.length ∧ Hid (VE (.string dn) al w E i wr)) (fun t17 _ => al.length - (intOf t17).toNat)
  case atStart => exact ⟨0, rfl, Nat.zero_le _, HE0⟩
  case round =>
    obtain ⟨i, rfl, hi, HE⟩ := hrel
    by_cases hend : i = al.length
    · subst hend
      have t1 : decide ((al.length : Int) < (al.length : Int)) = false := by simp
      have hent : EntAt wr E al := EntAt.of HE.out
      have hbel : Below w.heap.size w wr := by obtain ⟨_, _, h⟩ := HE.out; exact h.bel
      have hb0 := hbel.size
      have HG := Lib.hid (get_vals_fold E al nm hl (fun a ha => (HF.out a ha).1) hnm wr hent)
      have HB := Lib.hid hbel
      have HLK := Lib.hid (lookup_len (p := foldP nm) (fun a ha => (HF.out a ha).2.1))
      clear hent hbel HE
      go_wp2_with fail
      refine HG.out.mono ?_
      rintro e w2 ⟨⟨v, rfl, hst⟩, hb2⟩
      have HB2 := Lib.hid (HB.out.trans (hb2.mono hb0))
      have hb3 := HB2.out.size
      clear hb2 HG
      go_wp2_with (at_builtin; refine wpList_append_copy (by rfl) _ _ (by rfl) (by rfl) _ (by rfl) (lookupB (foldP nm) al) HLK.out hst ?_)
      intro v1 w3 hs3 hb4
      have HE3 := Lib.hid (And.intro hs3.in' (HB2.out.trans (hb4.mono hb3)))
      obtain ⟨o3, c3, rfl⟩ := owns_form hs3
      clear hs3 hb4 hst
      go_wp2_with fail
      go_ret
      exact ⟨⟨_, rfl, HE3.out.1⟩, HE3.out.2⟩
    · have hlt : i < al.length := by omega
      have t1 : decide ((i : Int) < (al.length : Int)) = true := by simp; omega
      obtain ⟨a, hp⟩ : ∃ a, al[i]? = some a := ⟨_, List.getElem?_eq_getElem hlt⟩
      obtain ⟨v, xs, hinv⟩ := HE.out
      obtain ⟨o, c, rfl⟩ : ∃ o c, v = .slice o i c := by
        rcases hinv.own.2 with ⟨h, h0⟩ | ⟨g, cap, cur, h, _⟩
        · exact ⟨none, 0, by rw [h, h0]⟩
        · exact ⟨_, _, h⟩
      obtain ⟨ga, offa, u, rfl, cra, crb, hst⟩ := HA.out i a hp
      have hb0 := hinv.bel.size
      have ka : wr.cell? ⟨ga, offa + i * 2, none⟩ = some (.string (Nm.bs a.1)) := (hinv.bel.cell (World.block_lt_of_cell? w ⟨ga, offa + i * 2, none⟩ cra)).trans cra
      have kb : wr.cell? ⟨ga, offa + i * 2 + 1, none⟩ = some u := (hinv.bel.cell (World.block_lt_of_cell? w ⟨ga, offa + i * 2 + 1, none⟩ crb)).trans crb
      have hstr := hst.stays hinv.bel
      obtain ⟨ou, cu, rfl, hcu⟩ := id hst
      have hfit := HF.out a (List.mem_of_getElem? hp)
      have HI := Lib.hid hinv
      have HST := Lib.hid hstr
      have HP := Lib.hid hp
      have hElt := blockLt hinv.ent
      clear cra crb hst hcu hstr hinv hp hend HE
      go_upto_region 5 with (fail)
      obtain ⟨Wa, hWa⟩ : ∃ Wa, Wa = wr.alloc (.cells #[.string (Nm.bs a.1), .slice ou a.2.length cu] 36) := ⟨_, rfl⟩
      rw [← hWa]
      have hA1 : Wa.heap[wr.heap.size]? = some (.cells #[.string (Nm.bs a.1), .slice ou a.2.length cu] 36 (0, 0)) := by rw [hWa]; exact heap_alloc_new wr _
      have hbW : Below wr.heap.size wr Wa := by rw [hWa]; exact (Below.refl _ wr).alloc (Nat.le_refl _) _
      have hWz : Wa.heap.size = wr.heap.size + 1 := by rw [hWa]; simp
      have hE1 : Wa.heap[E]? = some (.cells #[.string dn, .slice o i c] 92 (0, 0)) := (hbW.block _ hElt).trans HI.out.ent
      clear hWa ka kb
      generalize hA : wr.heap.size = A at *
      have hAlt : A < Wa.heap.size := blockLt hA1
      have hAE : A ≠ E := by omega
      have hEA : E ≠ A := by omega
      have a0 : Wa.drew.cell? ⟨A, 0, none⟩ = some (.string (Nm.bs a.1)) := blockCell (w := Wa.drew) hA1 0
      have a1 : Wa.drew.cell? ⟨A, 1, none⟩ = some (.slice ou a.2.length cu) := blockCell (w := Wa.drew) hA1 1
      have e1 : Wa.drew.cell? ⟨E, 1, none⟩ = some (.slice o i c) := blockCell (w := Wa.drew) hE1 1
      have hstW : StrsIn Wa.drew (.slice ou a.2.length cu) a.2 := HST.out.stays ⟨hbW.os, hbW.tape, hbW.output, hbW.size, fun k hk => hbW.block k (by omega)⟩
      have hm1 : a.2.length ≤ 2147483647 := hfit.2.1
      have hby : (i + 1) * 8 ≤ 140737488355328 := by omega
      have h63 : i + 1 ≤ maxLen := by simp only [maxLen]; omega
      have HFIT := Lib.hid hfit
      clear hfit
      go_region_law
        (first
          | (refine step_append_copy (by rfl) _ _ (by rfl) (by rfl) _ (by rfl) a.2 hm1 hstW ?_; intro v1 w1 hs1 hb1; have hb1z := hb1.size; have a0' : w1.cell? ⟨A, 0, none⟩ = some (.string (Nm.bs a.1)) := (hb1.cell (p := ⟨A, 0, none⟩) hAlt).trans a0; have a1' : w1.cell? ⟨A, 1, none⟩ = some (.slice ou a.2.length cu) := (hb1.cell (p := ⟨A, 1, none⟩) hAlt).trans a1; have e1' : w1.cell? ⟨E, 1, none⟩ = some (.slice o i c) := (hb1.cell (p := ⟨E, 1, none⟩) (by show E < Wa.heap.size; omega)).trans e1)
          | (refine step_append_lies _ (by rfl) _ _ _ (by rfl) w.heap.size 93 i0 (.pointer none) 1 8 Tryz.underlying90 hi0 hz0 hz1 hz2 rfl (by decide) (.slice o i c) i xs (by rfl) hownW ⟨w2.heap.size, 0, none⟩ 1 1 [.pointer (some ⟨p, 0, none⟩)] (by rfl) rfl hnews (by intro u hu; simp at hu; subst hu; rfl) (by decide) h63 hby (by simp; omega) (w2.heap.size + 1) (by simp) ?_; intro g cap w4 hown' hgr hat hlt4; have hEv : (Value.slice o i c).ownBlock ≠ some E := own_ne HI.out.own HI.out.ent (by decide); have hAv : (Value.slice o i c).ownBlock ≠ some A := (fun e => by have := owns_lt HI.out.own A e; omega); have hE4 : w4.heap[E]? = some (.cells #[.string dn, .slice o i c] 92 (0, 0)) := (hgr.block E (by simp; omega) (fun e => hEv e.symm)).trans ((Below.heap_alloc w2 _ E (by omega)).trans hEw2); have e4 : w4.cell? ⟨E, 1, none⟩ = some (.slice o i c) := blockCell hE4 1; have f4 := blockFrozen hE4 1; have a4 : w4.cell? ⟨A, 0, none⟩ = some (.string (Nm.bs a.1)) := (hgr.cell_far ⟨A, 0, none⟩ (by simp; omega) (fun e => hAv e.symm)).trans ((World.cell?_of_block (w := w2) (Below.heap_alloc w2 _ A (by omega))).trans a0''); have a5 : w4.cell? ⟨A, 1, none⟩ = some (.slice ou a.2.length cu) := (hgr.cell_far ⟨A, 1, none⟩ (by simp; omega) (fun e => hAv e.symm)).trans ((World.cell?_of_block (w := w2) (Below.heap_alloc w2 _ A (by omega))).trans a1''))
          | (go_simp; go_at_call 43; refine (new_attr a v1 hm1 HFIT.out.2.2 w1 hs1.in').mono ?_; rintro e w2 ⟨⟨p, x, rfl, hp0, hp1⟩, hb2⟩; have hAw : A < w1.heap.size := Nat.lt_of_lt_of_le hAlt hb1z; have hb2z := hb2.size; have a0'' : w2.cell? ⟨A, 0, none⟩ = some (.string (Nm.bs a.1)) := (hb2.cell (p := ⟨A, 0, none⟩) hAw).trans a0'; have a1'' : w2.cell? ⟨A, 1, none⟩ = some (.slice ou a.2.length cu) := (hb2.cell (p := ⟨A, 1, none⟩) hAw).trans a1'; have e1'' : w2.cell? ⟨E, 1, none⟩ = some (.slice o i c) := (hb2.cell (p := ⟨E, 1, none⟩) (by show E < w1.heap.size; omega)).trans e1'; have e1a : (w2.alloc (.cells #[.pointer (some ⟨p, 0, none⟩)] 93)).cell? ⟨E, 1, none⟩ = some (.slice o i c) := cell_alloc e1'' _; have n1 := World.new_ne w2 ⟨E, 1, none⟩ e1''; have n2 := World.new_ne w2 ⟨A, 0, none⟩ a0''; have hb3 : Below A wr w2 := hbW.trans (((⟨hb1.os, hb1.tape, hb1.output, hb1.size, hb1.block⟩ : Below Wa.heap.size Wa w1).mono (by omega)).trans (hb2.mono (by omega))); have hownW : (w2.alloc (.cells #[.pointer (some ⟨p, 0, none⟩)] 93)).ownsRow w.heap.size 93 1 (.slice o i c) i xs := (owns_stays HI.out.own (fun g hg => hb3.block g (by have := owns_lt HI.out.own g hg; omega))).alloc _; have hnews : ∀ k u, ([.pointer (some ⟨p, 0, none⟩)] : List Value)[k]? = some u → (w2.alloc (.cells #[.pointer (some ⟨p, 0, none⟩)] 93)).cell? ((⟨w2.heap.size, 0, none⟩ : Addr).add k) = some u := (fun k u hk => World.news_of_block (B := w2.heap.size) (heap_alloc_new w2 _) k u (by simpa using hk)); have hEAp : EA w2 p a := ⟨v1, x, hp1, hs1.stays fun g c hg => hb2.block g (blockLt hg)⟩; have hEw2 : w2.heap[E]? = some (.cells #[.string dn, .slice o i c] 92 (0, 0)) := (hb3.block E hElt).trans HI.out.ent; go_wp2_with fail))
      all_goals
        have hs1 := vinv_step HI.out HP.out (hA.symm ▸ hb3) hEAp hown' hgr hat
        have HE2 := Lib.hid hs1
        clear hs1 hown' hgr hat hnews hownW hEAp hEw2 hE4 e4 f4 a4 a5 e1a n1 n2 a0'' a1'' e1'' a0' a1' e1' hb3 hp1 hA1 hE1 a0 a1 e1 hstW
        go_wp2_with fail
        exact ⟨⟨i + 1, by go_num, by omega, HE2⟩, by simp [intOf]; omega⟩

set_option maxRecDepth 100000 in
set_option maxHeartbeats 16000000 in
theorem first_of (dn : ByteArray) (al : List Attr) (va : Value) (nm : List UInt8) (w : World) (hA : AttrsIn w va al) (hl : al.length ≤ 2147483647) (hf : ∀ a ∈ al, AttrFits a) (hnm : nm.length ≤ 2147483647) :
    Calls Tryz.prog 21 #[.agg #[.string dn, va], .string (Nm.bs nm), .bool false] w fun e w' => e = .returned (.string (Nm.bs (head1 (lookupB (exactP nm) al)))) ∧ Below w.heap.size w w' := by
  obtain ⟨o0, c0, rfl, hA0⟩ := hA
  have HA := Lib.hid hA0
  have HF := Lib.hid hf
  clear hA0 hf
  obtain ⟨i0, hi0, hz0, hz1, hz2⟩ := info_pea
  have hns := bs_size nm
  go_enter Tryz.func21, Tryz.ntmps21
  go_wp2_with fail
  have hE0 : Below w.heap.size w ((w.alloc (Obj.cells #[Value.string dn, Value.slice o0 al.length c0] 39)).alloc (Obj.cells #[Value.string dn, Value.slice none 0 0] 92)) ∧
      VE (.string dn) al w (w.heap.size + 1) 0 ((w.alloc (Obj.cells #[Value.string dn, Value.slice o0 al.length c0] 39)).alloc (Obj.cells #[Value.string dn, Value.slice none 0 0] 92)) := by
    refine ⟨((Below.refl _ w).alloc (Nat.le_refl _) _).alloc (by simp) _, .slice none 0 0, [], by omega, ?_, owns_start _ _ _ _, rfl, ((Below.refl _ w).alloc (Nat.le_refl _) _).alloc (by simp) _⟩
    have := heap_alloc_new (w.alloc (Obj.cells #[Value.string dn, Value.slice o0 al.length c0] 39)) (Obj.cells #[Value.string dn, Value.slice none 0 0] 92)
    simpa using this
  have HE0 := Lib.hid hE0.2
  clear hE0
  have hElow : w.heap.size ≤ w.heap.size + 1 := by omega
  generalize w.heap.size + 1 = E at *
  go_loopw [17] (fun t17 wr => ∃ i : Nat, t17 = .int .i64 i ∧ i ≤ al.length ∧ Hid (VE (.string dn) al w E i wr)) (fun t17 _ => al.length - (intOf t17).toNat)
  case atStart => exact ⟨0, rfl, Nat.zero_le _, HE0⟩
  case round =>
    obtain ⟨i, rfl, hi, HE⟩ := hrel
    by_cases hend : i = al.length
    · subst hend
      have t1 : decide ((al.length : Int) < (al.length : Int)) = false := by simp
      have hent : EntAt wr E al := EntAt.of HE.out
      have hbel : Below w.heap.size w wr := by obtain ⟨_, _, h⟩ := HE.out; exact h.bel
      have hb0 := hbel.size
      have HG := Lib.hid (get_val E al nm hl (fun a ha => (HF.out a ha).1) hnm wr hent)
      have HB := Lib.hid hbel
      clear hent hbel HE
      go_wp2_with fail
      refine HG.out.mono ?_
      rintro e w2 ⟨rfl, hb2⟩
      have HB2 := Lib.hid (HB.out.trans (hb2.mono hb0))
      clear hb2 HG
      go_wp2_with fail
      go_ret
      exact ⟨rfl, HB2.out⟩
    · have hlt : i < al.length := by omega
      have t1 : decide ((i : Int) < (al.length : Int)) = true := by simp; omega
      obtain ⟨a, hp⟩ : ∃ a, al[i]? = some a := ⟨_, List.getElem?_eq_getElem hlt⟩
      obtain ⟨v, xs, hinv⟩ := HE.out
      obtain ⟨o, c, rfl⟩ : ∃ o c, v = .slice o i c := by
        rcases hinv.own.2 with ⟨h, h0⟩ | ⟨g, cap, cur, h, _⟩
        · exact ⟨none, 0, by rw [h, h0]⟩
        · exact ⟨_, _, h⟩
      obtain ⟨ga, offa, u, rfl, cra, crb, hst⟩ := HA.out i a hp
      have hb0 := hinv.bel.size
      have ka : wr.cell? ⟨ga, offa + i * 2, none⟩ = some (.string (Nm.bs a.1)) := (hinv.bel.cell (World.block_lt_of_cell? w ⟨ga, offa + i * 2, none⟩ cra)).trans cra
      have kb : wr.cell? ⟨ga, offa + i * 2 + 1, none⟩ = some u := (hinv.bel.cell (World.block_lt_of_cell? w ⟨ga, offa + i * 2 + 1, none⟩ crb)).trans crb
      have hstr := hst.stays hinv.bel
      obtain ⟨ou, cu, rfl, hcu⟩ := id hst
      have hfit := HF.out a (List.mem_of_getElem? hp)
      have HI := Lib.hid hinv
      have HST := Lib.hid hstr
      have HP := Lib.hid hp
      have hElt := blockLt hinv.ent
      clear cra crb hst hcu hstr hinv hp hend HE
      go_upto_region 5 with (fail)
      obtain ⟨Wa, hWa⟩ : ∃ Wa, Wa = wr.alloc (.cells #[.string (Nm.bs a.1), .slice ou a.2.length cu] 36) := ⟨_, rfl⟩
      rw [← hWa]
      have hA1 : Wa.heap[wr.heap.size]? = some (.cells #[.string (Nm.bs a.1), .slice ou a.2.length cu] 36 (0, 0)) := by rw [hWa]; exact heap_alloc_new wr _
      have hbW : Below wr.heap.size wr Wa := by rw [hWa]; exact (Below.refl _ wr).alloc (Nat.le_refl _) _
      have hWz : Wa.heap.size = wr.heap.size + 1 := by rw [hWa]; simp
      have hE1 : Wa.heap[E]? = some (.cells #[.string dn, .slice o i c] 92 (0, 0)) := (hbW.block _ hElt).trans HI.out.ent
      clear hWa ka kb
      generalize hA : wr.heap.size = A at *
      have hAlt : A < Wa.heap.size := blockLt hA1
      have hAE : A ≠ E := by omega
      have hEA : E ≠ A := by omega
      have a0 : Wa.drew.cell? ⟨A, 0, none⟩ = some (.string (Nm.bs a.1)) := blockCell (w := Wa.drew) hA1 0
      have a1 : Wa.drew.cell? ⟨A, 1, none⟩ = some (.slice ou a.2.length cu) := blockCell (w := Wa.drew) hA1 1
      have e1 : Wa.drew.cell? ⟨E, 1, none⟩ = some (.slice o i c) := blockCell (w := Wa.drew) hE1 1
      have hstW : StrsIn Wa.drew (.slice ou a.2.length cu) a.2 := HST.out.stays ⟨hbW.os, hbW.tape, hbW.output, hbW.size, fun k hk => hbW.block k (by omega)⟩
      have hm1 : a.2.length ≤ 2147483647 := hfit.2.1
      have hby : (i + 1) * 8 ≤ 140737488355328 := by omega
      have h63 : i + 1 ≤ maxLen := by simp only [maxLen]; omega
      have HFIT := Lib.hid hfit
      clear hfit
      go_region_law
        (first
          | (refine step_append_copy (by rfl) _ _ (by rfl) (by rfl) _ (by rfl) a.2 hm1 hstW ?_; intro v1 w1 hs1 hb1; have hb1z := hb1.size; have a0' : w1.cell? ⟨A, 0, none⟩ = some (.string (Nm.bs a.1)) := (hb1.cell (p := ⟨A, 0, none⟩) hAlt).trans a0; have a1' : w1.cell? ⟨A, 1, none⟩ = some (.slice ou a.2.length cu) := (hb1.cell (p := ⟨A, 1, none⟩) hAlt).trans a1; have e1' : w1.cell? ⟨E, 1, none⟩ = some (.slice o i c) := (hb1.cell (p := ⟨E, 1, none⟩) (by show E < Wa.heap.size; omega)).trans e1)
          | (refine step_append_lies _ (by rfl) _ _ _ (by rfl) w.heap.size 93 i0 (.pointer none) 1 8 Tryz.underlying90 hi0 hz0 hz1 hz2 rfl (by decide) (.slice o i c) i xs (by rfl) hownW ⟨w2.heap.size, 0, none⟩ 1 1 [.pointer (some ⟨p, 0, none⟩)] (by rfl) rfl hnews (by intro u hu; simp at hu; subst hu; rfl) (by decide) h63 hby (by simp; omega) (w2.heap.size + 1) (by simp) ?_; intro g cap w4 hown' hgr hat hlt4; have hEv : (Value.slice o i c).ownBlock ≠ some E := own_ne HI.out.own HI.out.ent (by decide); have hAv : (Value.slice o i c).ownBlock ≠ some A := (fun e => by have := owns_lt HI.out.own A e; omega); have hE4 : w4.heap[E]? = some (.cells #[.string dn, .slice o i c] 92 (0, 0)) := (hgr.block E (by simp; omega) (fun e => hEv e.symm)).trans ((Below.heap_alloc w2 _ E (by omega)).trans hEw2); have e4 : w4.cell? ⟨E, 1, none⟩ = some (.slice o i c) := blockCell hE4 1; have f4 := blockFrozen hE4 1; have a4 : w4.cell? ⟨A, 0, none⟩ = some (.string (Nm.bs a.1)) := (hgr.cell_far ⟨A, 0, none⟩ (by simp; omega) (fun e => hAv e.symm)).trans ((World.cell?_of_block (w := w2) (Below.heap_alloc w2 _ A (by omega))).trans a0''); have a5 : w4.cell? ⟨A, 1, none⟩ = some (.slice ou a.2.length cu) := (hgr.cell_far ⟨A, 1, none⟩ (by simp; omega) (fun e => hAv e.symm)).trans ((World.cell?_of_block (w := w2) (Below.heap_alloc w2 _ A (by omega))).trans a1''))
          | (go_simp; go_at_call 43; refine (new_attr a v1 hm1 HFIT.out.2.2 w1 hs1.in').mono ?_; rintro e w2 ⟨⟨p, x, rfl, hp0, hp1⟩, hb2⟩; have hAw : A < w1.heap.size := Nat.lt_of_lt_of_le hAlt hb1z; have hb2z := hb2.size; have a0'' : w2.cell? ⟨A, 0, none⟩ = some (.string (Nm.bs a.1)) := (hb2.cell (p := ⟨A, 0, none⟩) hAw).trans a0'; have a1'' : w2.cell? ⟨A, 1, none⟩ = some (.slice ou a.2.length cu) := (hb2.cell (p := ⟨A, 1, none⟩) hAw).trans a1'; have e1'' : w2.cell? ⟨E, 1, none⟩ = some (.slice o i c) := (hb2.cell (p := ⟨E, 1, none⟩) (by show E < w1.heap.size; omega)).trans e1'; have e1a : (w2.alloc (.cells #[.pointer (some ⟨p, 0, none⟩)] 93)).cell? ⟨E, 1, none⟩ = some (.slice o i c) := cell_alloc e1'' _; have n1 := World.new_ne w2 ⟨E, 1, none⟩ e1''; have n2 := World.new_ne w2 ⟨A, 0, none⟩ a0''; have hb3 : Below A wr w2 := hbW.trans (((⟨hb1.os, hb1.tape, hb1.output, hb1.size, hb1.block⟩ : Below Wa.heap.size Wa w1).mono (by omega)).trans (hb2.mono (by omega))); have hownW : (w2.alloc (.cells #[.pointer (some ⟨p, 0, none⟩)] 93)).ownsRow w.heap.size 93 1 (.slice o i c) i xs := (owns_stays HI.out.own (fun g hg => hb3.block g (by have := owns_lt HI.out.own g hg; omega))).alloc _; have hnews : ∀ k u, ([.pointer (some ⟨p, 0, none⟩)] : List Value)[k]? = some u → (w2.alloc (.cells #[.pointer (some ⟨p, 0, none⟩)] 93)).cell? ((⟨w2.heap.size, 0, none⟩ : Addr).add k) = some u := (fun k u hk => World.news_of_block (B := w2.heap.size) (heap_alloc_new w2 _) k u (by simpa using hk)); have hEAp : EA w2 p a := ⟨v1, x, hp1, hs1.stays fun g c hg => hb2.block g (blockLt hg)⟩; have hEw2 : w2.heap[E]? = some (.cells #[.string dn, .slice o i c] 92 (0, 0)) := (hb3.block E hElt).trans HI.out.ent; go_wp2_with fail))
      all_goals
        have hs1 := vinv_step HI.out HP.out (hA.symm ▸ hb3) hEAp hown' hgr hat
        have HE2 := Lib.hid hs1
        clear hs1 hown' hgr hat hnews hownW hEAp hEw2 hE4 e4 f4 a4 a5 e1a n1 n2 a0'' a1'' e1'' a0' a1' e1' hb3 hp1 hA1 hE1 a0 a1 e1 hstW
        go_wp2_with fail
        exact ⟨⟨i + 1, by go_num, by omega, HE2⟩, by simp [intOf]; omega⟩

set_option maxRecDepth 100000 in
set_option maxHeartbeats 16000000 in
theorem first_of_fold (dn : ByteArray) (al : List Attr) (va : Value) (nm : List UInt8) (w : World) (hA : AttrsIn w va al) (hl : al.length ≤ 2147483647) (hf : ∀ a ∈ al, AttrFits a) (hnm : nm.length ≤ 2147483647) :
    Calls Tryz.prog 21 #[.agg #[.string dn, va], .string (Nm.bs nm), .bool true] w fun e w' => e = .returned (.string (Nm.bs (head1 (lookupB (foldP nm) al)))) ∧ Below w.heap.size w w' := by
  obtain ⟨o0, c0, rfl, hA0⟩ := hA
  have HA := Lib.hid hA0
  have HF := Lib.hid hf
  clear hA0 hf
  obtain ⟨i0, hi0, hz0, hz1, hz2⟩ := info_pea
  have hns := bs_size nm
  go_enter Tryz.func21, Tryz.ntmps21
  go_wp2_with fail
  have hE0 : Below w.heap.size w ((w.alloc (Obj.cells #[Value.string dn, Value.slice o0 al.length c0] 39)).alloc (Obj.cells #[Value.string dn, Value.slice none 0 0] 92)) ∧
      VE (.string dn) al w (w.heap.size + 1) 0 ((w.alloc (Obj.cells #[Value.string dn, Value.slice o0 al.length c0] 39)).alloc (Obj.cells #[Value.string dn, Value.slice none 0 0] 92)) := by
    refine ⟨((Below.refl _ w).alloc (Nat.le_refl _) _).alloc (by simp) _, .slice none 0 0, [], by omega, ?_, owns_start _ _ _ _, rfl, ((Below.refl _ w).alloc (Nat.le_refl _) _).alloc (by simp) _⟩
    have := heap_alloc_new (w.alloc (Obj.cells #[Value.string dn, Value.slice o0 al.length c0] 39)) (Obj.cells #[Value.string dn, Value.slice none 0 0] 92)
    simpa using this
  have HE0 := Lib.hid hE0.2
  clear hE0
  have hElow : w.heap.size ≤ w.heap.size + 1 := by omega
  generalize w.heap.size + 1 = E at *
  go_loopw [17] (fun t17 wr => ∃ i : Nat, t17 = .int .i64 i ∧ i ≤ al.length ∧ Hid (VE (.string dn) al w E i wr)) (fun t17 _ => al.length - (intOf t17).toNat)
  case atStart => exact ⟨0, rfl, Nat.zero_le _, HE0⟩
  case round =>
    obtain ⟨i, rfl, hi, HE⟩ := hrel
    by_cases hend : i = al.length
    · subst hend
      have t1 : decide ((al.length : Int) < (al.length : Int)) = false := by simp
      have hent : EntAt wr E al := EntAt.of HE.out
      have hbel : Below w.heap.size w wr := by obtain ⟨_, _, h⟩ := HE.out; exact h.bel
      have hb0 := hbel.size
      have HG := Lib.hid (get_val_fold E al nm hl (fun a ha => (HF.out a ha).1) hnm wr hent)
      have HB := Lib.hid hbel
      clear hent hbel HE
      go_wp2_with fail
      refine HG.out.mono ?_
      rintro e w2 ⟨rfl, hb2⟩
      have HB2 := Lib.hid (HB.out.trans (hb2.mono hb0))
      clear hb2 HG
      go_wp2_with fail
      go_ret
      exact ⟨rfl, HB2.out⟩
    · have hlt : i < al.length := by omega
      have t1 : decide ((i : Int) < (al.length : Int)) = true := by simp; omega
      obtain ⟨a, hp⟩ : ∃ a, al[i]? = some a := ⟨_, List.getElem?_eq_getElem hlt⟩
      obtain ⟨v, xs, hinv⟩ := HE.out
      obtain ⟨o, c, rfl⟩ : ∃ o c, v = .slice o i c := by
        rcases hinv.own.2 with ⟨h, h0⟩ | ⟨g, cap, cur, h, _⟩
        · exact ⟨none, 0, by rw [h, h0]⟩
        · exact ⟨_, _, h⟩
      obtain ⟨ga, offa, u, rfl, cra, crb, hst⟩ := HA.out i a hp
      have hb0 := hinv.bel.size
      have ka : wr.cell? ⟨ga, offa + i * 2, none⟩ = some (.string (Nm.bs a.1)) := (hinv.bel.cell (World.block_lt_of_cell? w ⟨ga, offa + i * 2, none⟩ cra)).trans cra
      have kb : wr.cell? ⟨ga, offa + i * 2 + 1, none⟩ = some u := (hinv.bel.cell (World.block_lt_of_cell? w ⟨ga, offa + i * 2 + 1, none⟩ crb)).trans crb
      have hstr := hst.stays hinv.bel
      obtain ⟨ou, cu, rfl, hcu⟩ := id hst
      have hfit := HF.out a (List.mem_of_getElem? hp)
      have HI := Lib.hid hinv
      have HST := Lib.hid hstr
      have HP := Lib.hid hp
      have hElt := blockLt hinv.ent
      clear cra crb hst hcu hstr hinv hp hend HE
      go_upto_region 5 with (fail)
      obtain ⟨Wa, hWa⟩ : ∃ Wa, Wa = wr.alloc (.cells #[.string (Nm.bs a.1), .slice ou a.2.length cu] 36) := ⟨_, rfl⟩
      rw [← hWa]
      have hA1 : Wa.heap[wr.heap.size]? = some (.cells #[.string (Nm.bs a.1), .slice ou a.2.length cu] 36 (0, 0)) := by rw [hWa]; exact heap_alloc_new wr _
      have hbW : Below wr.heap.size wr Wa := by rw [hWa]; exact (Below.refl _ wr).alloc (Nat.le_refl _) _
      have hWz : Wa.heap.size = wr.heap.size + 1 := by rw [hWa]; simp
      have hE1 : Wa.heap[E]? = some (.cells #[.string dn, .slice o i c] 92 (0, 0)) := (hbW.block _ hElt).trans HI.out.ent
      clear hWa ka kb
      generalize hA : wr.heap.size = A at *
      have hAlt : A < Wa.heap.size := blockLt hA1
      have hAE : A ≠ E := by omega
      have hEA : E ≠ A := by omega
      have a0 : Wa.drew.cell? ⟨A, 0, none⟩ = some (.string (Nm.bs a.1)) := blockCell (w := Wa.drew) hA1 0
      have a1 : Wa.drew.cell? ⟨A, 1, none⟩ = some (.slice ou a.2.length cu) := blockCell (w := Wa.drew) hA1 1
      have e1 : Wa.drew.cell? ⟨E, 1, none⟩ = some (.slice o i c) := blockCell (w := Wa.drew) hE1 1
      have hstW : StrsIn Wa.drew (.slice ou a.2.length cu) a.2 := HST.out.stays ⟨hbW.os, hbW.tape, hbW.output, hbW.size, fun k hk => hbW.block k (by omega)⟩
      have hm1 : a.2.length ≤ 2147483647 := hfit.2.1
      have hby : (i + 1) * 8 ≤ 140737488355328 := by omega
      have h63 : i + 1 ≤ maxLen := by simp only [maxLen]; omega
      have HFIT := Lib.hid hfit
      clear hfit
      go_region_law
        (first
          | (refine step_append_copy (by rfl) _ _ (by rfl) (by rfl) _ (by rfl) a.2 hm1 hstW ?_; intro v1 w1 hs1 hb1; have hb1z := hb1.size; have a0' : w1.cell? ⟨A, 0, none⟩ = some (.string (Nm.bs a.1)) := (hb1.cell (p := ⟨A, 0, none⟩) hAlt).trans a0; have a1' : w1.cell? ⟨A, 1, none⟩ = some (.slice ou a.2.length cu) := (hb1.cell (p := ⟨A, 1, none⟩) hAlt).trans a1; have e1' : w1.cell? ⟨E, 1, none⟩ = some (.slice o i c) := (hb1.cell (p := ⟨E, 1, none⟩) (by show E < Wa.heap.size; omega)).trans e1)
          | (refine step_append_lies _ (by rfl) _ _ _ (by rfl) w.heap.size 93 i0 (.pointer none) 1 8 Tryz.underlying90 hi0 hz0 hz1 hz2 rfl (by decide) (.slice o i c) i xs (by rfl) hownW ⟨w2.heap.size, 0, none⟩ 1 1 [.pointer (some ⟨p, 0, none⟩)] (by rfl) rfl hnews (by intro u hu; simp at hu; subst hu; rfl) (by decide) h63 hby (by simp; omega) (w2.heap.size + 1) (by simp) ?_; intro g cap w4 hown' hgr hat hlt4; have hEv : (Value.slice o i c).ownBlock ≠ some E := own_ne HI.out.own HI.out.ent (by decide); have hAv : (Value.slice o i c).ownBlock ≠ some A := (fun e => by have := owns_lt HI.out.own A e; omega); have hE4 : w4.heap[E]? = some (.cells #[.string dn, .slice o i c] 92 (0, 0)) := (hgr.block E (by simp; omega) (fun e => hEv e.symm)).trans ((Below.heap_alloc w2 _ E (by omega)).trans hEw2); have e4 : w4.cell? ⟨E, 1, none⟩ = some (.slice o i c) := blockCell hE4 1; have f4 := blockFrozen hE4 1; have a4 : w4.cell? ⟨A, 0, none⟩ = some (.string (Nm.bs a.1)) := (hgr.cell_far ⟨A, 0, none⟩ (by simp; omega) (fun e => hAv e.symm)).trans ((World.cell?_of_block (w := w2) (Below.heap_alloc w2 _ A (by omega))).trans a0''); have a5 : w4.cell? ⟨A, 1, none⟩ = some (.slice ou a.2.length cu) := (hgr.cell_far ⟨A, 1, none⟩ (by simp; omega) (fun e => hAv e.symm)).trans ((World.cell?_of_block (w := w2) (Below.heap_alloc w2 _ A (by omega))).trans a1''))
          | (go_simp; go_at_call 43; refine (new_attr a v1 hm1 HFIT.out.2.2 w1 hs1.in').mono ?_; rintro e w2 ⟨⟨p, x, rfl, hp0, hp1⟩, hb2⟩; have hAw : A < w1.heap.size := Nat.lt_of_lt_of_le hAlt hb1z; have hb2z := hb2.size; have a0'' : w2.cell? ⟨A, 0, none⟩ = some (.string (Nm.bs a.1)) := (hb2.cell (p := ⟨A, 0, none⟩) hAw).trans a0'; have a1'' : w2.cell? ⟨A, 1, none⟩ = some (.slice ou a.2.length cu) := (hb2.cell (p := ⟨A, 1, none⟩) hAw).trans a1'; have e1'' : w2.cell? ⟨E, 1, none⟩ = some (.slice o i c) := (hb2.cell (p := ⟨E, 1, none⟩) (by show E < w1.heap.size; omega)).trans e1'; have e1a : (w2.alloc (.cells #[.pointer (some ⟨p, 0, none⟩)] 93)).cell? ⟨E, 1, none⟩ = some (.slice o i c) := cell_alloc e1'' _; have n1 := World.new_ne w2 ⟨E, 1, none⟩ e1''; have n2 := World.new_ne w2 ⟨A, 0, none⟩ a0''; have hb3 : Below A wr w2 := hbW.trans (((⟨hb1.os, hb1.tape, hb1.output, hb1.size, hb1.block⟩ : Below Wa.heap.size Wa w1).mono (by omega)).trans (hb2.mono (by omega))); have hownW : (w2.alloc (.cells #[.pointer (some ⟨p, 0, none⟩)] 93)).ownsRow w.heap.size 93 1 (.slice o i c) i xs := (owns_stays HI.out.own (fun g hg => hb3.block g (by have := owns_lt HI.out.own g hg; omega))).alloc _; have hnews : ∀ k u, ([.pointer (some ⟨p, 0, none⟩)] : List Value)[k]? = some u → (w2.alloc (.cells #[.pointer (some ⟨p, 0, none⟩)] 93)).cell? ((⟨w2.heap.size, 0, none⟩ : Addr).add k) = some u := (fun k u hk => World.news_of_block (B := w2.heap.size) (heap_alloc_new w2 _) k u (by simpa using hk)); have hEAp : EA w2 p a := ⟨v1, x, hp1, hs1.stays fun g c hg => hb2.block g (blockLt hg)⟩; have hEw2 : w2.heap[E]? = some (.cells #[.string dn, .slice o i c] 92 (0, 0)) := (hb3.block E hElt).trans HI.out.ent; go_wp2_with fail))
      all_goals
        have hs1 := vinv_step HI.out HP.out (hA.symm ▸ hb3) hEAp hown' hgr hat
        have HE2 := Lib.hid hs1
        clear hs1 hown' hgr hat hnews hownW hEAp hEw2 hE4 e4 f4 a4 a5 e1a n1 n2 a0'' a1'' e1'' a0' a1' e1' hb3 hp1 hA1 hE1 a0 a1 e1 hstW
        go_wp2_with fail
        exact ⟨⟨i + 1, by go_num, by omega, HE2⟩, by simp [intOf]; omega⟩
end Go.Proofs.YtjmahgefijncaaaGreatFmt
