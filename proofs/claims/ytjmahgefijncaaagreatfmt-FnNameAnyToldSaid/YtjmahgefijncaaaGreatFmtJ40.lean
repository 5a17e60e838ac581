/- spec.nameReader: part, walked. -/
import Derived.Test.YtjmahgefijncaaaGreatFmtJ39
set_option linter.unusedVariables false
set_option linter.unusedSimpArgs false
namespace Go.Proofs.YtjmahgefijncaaaGreatFmt
open Go Go.RowKit

set_option maxRecDepth 100000 in
set_option maxHeartbeats 16000000 in
theorem part_read (F : Nat) (w : World) (R : Nat) (l : List UInt8) (i0 : Nat) (o : Bool) (h : NRd w R l i0 o) (hi : i0 ≤ l.length) (hF : l.length < F) (hl : l.length < 4000000000) :
    Calls Tryz.prog 38 #[.pointer (some ⟨R, 0, none⟩)] w fun e w' => Only (· = R) w w' ∧ POut R l o (Sp.part typB F (l.drop i0)) e w' := by
  have hsz := bs_size l
  have hRlt := h.lt
  have hA := h.stays ((Below.refl w.heap.size w).alloc (Nat.le_refl _) (.cells #[.string ⟨#[]⟩, .string ⟨#[]⟩] 78 (0, 0)))
  have c1 : (w.alloc (.cells #[.string ⟨#[]⟩, .string ⟨#[]⟩] 78 (0, 0))).cell? ⟨R, 1, none⟩ = some (.int .i64 i0) := blockCell hA 1
  have HI0 : Hid (PI w R w.heap.size l o i0 i0 (w.alloc (.cells #[.string ⟨#[]⟩, .string ⟨#[]⟩] 78 (0, 0)))) := Lib.hid ⟨Nat.le_refl _, hi, by simp, by simpa [og] using hA, (Only.refl _ _).alloc _, heap_alloc_new _ _, Nat.le_refl _⟩
  clear h hA
  go_enter Tryz.func38, Tryz.ntmps38
  go_wp2_with fail
  generalize w.heap.size = N at HI0 ⊢
  go_loopw [5] (fun t5 wr => Hid (∃ j, PI w R N l o i0 j wr)) (fun _ wr => l.length - atOf wr R)
  case atStart => exact Lib.hid ⟨i0, HI0.out⟩
  case round =>
    clear HI0 c1
    have HE := hrel
    clear hrel
    obtain ⟨j, hpi⟩ := HE.out
    have HI := Lib.hid hpi
    have hat := hpi.rd.atOf
    have hjle := hpi.le
    have hjlo := hpi.lo
    have c0 : wr.cell? ⟨R, 0, none⟩ = some (.string (Nm.bs l)) := blockCell hpi.rd 0
    have c1 : wr.cell? ⟨R, 1, none⟩ = some (.int .i64 j) := blockCell hpi.rd 1
    have f1 := blockFrozen hpi.rd 1
    have f2 := blockFrozen hpi.rd 2
    have c2 : wr.cell? ⟨R, 2, none⟩ = some (.bool (og l i0 j o)) := blockCell hpi.rd 2
    clear hpi HE
    by_cases hst : (j = l.length) ∨ (∃ c, l[j]? = some c ∧ Sp.ends c = true)
    · obtain ⟨A, hA⟩ : ∃ A, A = (l.drop i0).take (j - i0) := ⟨_, rfl⟩
      have hL : l.drop i0 = A ++ l.drop j := by
        rw [hA]
        have := (List.take_append_drop (j - i0) (l.drop i0)).symm
        rwa [List.drop_drop, show i0 + (j - i0) = j by omega] at this
      have hB : l.drop j = [] ∨ ∃ c s, l.drop j = c :: s ∧ Sp.ends c = true := by
        rcases hst with h | ⟨c, hc, h⟩
        · exact Or.inl (List.drop_eq_nil_of_le (by omega))
        · exact Or.inr ⟨c, _, hd_drop hc, h⟩
      have hpe := spart_eq typB F hL (by rw [hA]; exact HI.out.non) hB
      have hog : og l i0 j o = (o || A.any Sp.flag) := by rw [hA]; rfl
      have hrd := HI.out.rd
      rw [hog] at hrd c2
      have hgoal : ∀ e w', Only (· = R) w w' ∧ POut R l (o || A.any Sp.flag) (rest typB F A (l.drop j)) e w' → Only (· = R) w w' ∧ POut R l o (Sp.part typB F (l.drop i0)) e w' := by
        rintro e w' ⟨h1, h2⟩
        refine ⟨h1, ?_⟩
        rw [hpe]
        cases hf : A.any Sp.flag with
        | true => rw [hf, Bool.or_true] at h2; rw [if_pos rfl]; exact h2.open
        | false => rw [hf, Bool.or_false] at h2; rw [if_neg (by simp)]; exact h2
      have HG := Lib.hid hgoal
      have hsl : (Nm.bs l).extract i0 j = Nm.bs A := by
        rw [bs_slice l i0 j hjle, hA, List.take_drop, show i0 + (j - i0) = j by omega]
      have hAl : A.length < 4000000000 := by rw [hA, List.length_take, List.length_drop]; omega
      have HTY := Lib.hid (fun w2 => type_exact A hAl w2)
      have HRD := Lib.hid hrd
      have HNN := Lib.hid (And.intro HI.out.only (And.intro HI.out.hN HI.out.hlo))
      have hwhy : (j = l.length) ∨ (∃ hlt2 : j < (Nm.bs l).size, j < l.length ∧ ((Nm.bs l)[j]'hlt2).toNat = 61 ∧ peekN l j = 61) ∨ (∃ hlt2 : j < (Nm.bs l).size, j < l.length ∧ ((Nm.bs l)[j]'hlt2).toNat = 44 ∧ peekN l j = 44) ∨ (∃ hlt2 : j < (Nm.bs l).size, j < l.length ∧ ((Nm.bs l)[j]'hlt2).toNat = 43 ∧ peekN l j = 43) := by
        rcases hst with h | ⟨c, hc, h⟩
        · exact Or.inl h
        · right
          obtain ⟨hj, hcj⟩ := List.getElem?_eq_some_iff.1 hc
          have h2 : j < (Nm.bs l).size := by omega
          have hp : peekN l j = c.toNat := by unfold peekN; rw [hc]
          have hg : ((Nm.bs l)[j]'h2).toNat = c.toNat := by rw [bs_get, hcj]
          simp only [Sp.ends, Bool.or_eq_true, beq_iff_eq] at h
          rcases h with (rfl | rfl) | rfl
          · exact Or.inl ⟨h2, hj, hg, hp⟩
          · exact Or.inr (Or.inl ⟨h2, hj, hg, hp⟩)
          · exact Or.inr (Or.inr ⟨h2, hj, hg, hp⟩)
      clear hpe hog hgoal hL hB hrd HI hst hA
      generalize (o || A.any Sp.flag) = o1 at *
      have w0' : (0 : Int) ≤ (i0 : Int) := by omega
      have w1' : (i0 : Int) ≤ (j : Int) := by omega
      have w2' : (j : Int) ≤ (l.length : Int) := by omega
      rcases hwhy with hend | ⟨hlt2, hlt, hget, hpk⟩ | ⟨hlt2, hlt, hget, hpk⟩ | ⟨hlt2, hlt, hget, hpk⟩
      · subst hend
        have hpk : peekN l l.length = 0 := by unfold peekN; rw [List.getElem?_eq_none (Nat.le_refl _)]
        have hno : (l.drop l.length)[0]? ≠ some 61 := by rw [List.drop_length]; simp
        have t1 : decide ((l.length : Int) < (l.length : Int)) = false := by simp
        go_wp2_with fail
        go_quiet (fail)
        obtain ⟨wq, hwq⟩ : ∃ wq, wq = wr.drewN nq := ⟨_, rfl⟩
        rw [← hwq]
        have hrdq : NRd wq R l l.length o1 := by rw [hwq]; exact HRD.out
        have hnnq : Only (· = R) w wq ∧ wq.heap[N]? = some (.cells #[.string ⟨#[]⟩, .string ⟨#[]⟩] 78 (0, 0)) ∧ w.heap.size ≤ N := by rw [hwq]; exact ⟨HNN.out.1.drewN _, HNN.out.2⟩
        have d0 : wq.cell? ⟨R, 0, none⟩ = some (.string (Nm.bs l)) := blockCell hrdq 0
        have d1 : wq.cell? ⟨R, 1, none⟩ = some (.int .i64 l.length) := blockCell hrdq 1
        have hxa : ∀ (W : World) (o : Obj) (j : Nat), R < W.heap.size → (W.alloc o).cell? ⟨R, j, none⟩ = W.cell? ⟨R, j, none⟩ := fun W o j h => World.cell?_of_block (w := W) (Below.heap_alloc W o R h)
        have hxl : R < wq.heap.size := hrdq.lt
        have hps : PS w R N wq.heap.size l o1 l.length A ((wq.alloc (.cells #[.string (Nm.bs A), .string ⟨#[]⟩] 78 (0, 0))).drew) :=
          ⟨hrdq.stays (((Below.refl wq.heap.size wq).alloc (Nat.le_refl _) _).drew), (hnnq.1.alloc _).drew, (Below.heap_alloc _ _ _ (blockLt hnnq.2.1)).trans hnnq.2.1, heap_alloc_new _ _, hnnq.2.2, hnnq.1.size, Nat.ne_of_lt (blockLt hnnq.2.1), hRlt⟩
        have HPS := Lib.hid hps
        clear hwq HRD HNN c0 c1 c2 f1 f2 hat hrdq hnnq hps
        go_wp2_with fail
        go_cut [6] from 114 to 124 (fun t6 wx => Hid (∃ P, t6 = .pointer (some ⟨P, 0, none⟩) ∧ PS w R N P l o1 l.length A wx))
        case first =>
          go_region
          go_wp2_with fail
          go_meet
          exact Lib.hid ⟨_, rfl, HPS.out⟩
        case rest =>
          clear HPS d0 d1 hxa hxl
          obtain ⟨P, rfl, hps⟩ := hcut.out
          clear hcut
          have HPS := Lib.hid hps
          clear hps
          go_wp2_with fail
          refine (peek_any _ R l l.length o1 HPS.out.rd (by omega) hl).mono ?_
          rw [hpk]
          rintro e w1 ⟨rfl, hw1⟩
          have HP1 : Hid (PS w R N P l o1 l.length A w1) := by obtain ⟨k, rfl⟩ := hw1; exact Lib.hid (HPS.out.step ((Only.refl _ _).drewN _) HPS.out.rd)
          clear hw1 HPS
          obtain ⟨p0, p1, fp1, n0, n1, fn0, fn1, c1, f1, c2, f2⟩ := HP1.out.cells
          by_cases hA0 : A = []
          · subst hA0
            have hrs : rest typB F [] (l.drop l.length) = .bad := by rw [rest_no hno, if_neg (fun h => h.1 rfl)]
            have e1 : ((Nm.bs []).toList == ([] : List UInt8)) = true := by rw [bs_toList]; rfl
            have e2 : ((Nm.bs []).toList != ([] : List UInt8)) = false := by rw [bs_toList]; rfl
            go_wp2_with fail
            refine (peek_any _ R l l.length o1 HP1.out.rd (by omega) hl).mono ?_
            rw [hpk]
            rintro e w2 ⟨rfl, hw2⟩
            have HP2 : Hid (PS w R N P l o1 l.length [] w2) := by obtain ⟨k, rfl⟩ := hw2; exact Lib.hid (HP1.out.step ((Only.refl _ _).drewN _) HP1.out.rd)
            clear hw2 p0 p1 fp1 n0 n1 fn0 fn1 c1 f1 c2 f2 HP1
            obtain ⟨p0, p1, fp1, n0, n1, fn0, fn1, c1, f1, c2, f2⟩ := HP2.out.cells
            have HW := Lib.hid (HP2.out.put (.string (Nm.bs [])) (.string ⟨#[]⟩))
            go_wp2_with fail
            refine bodyPost_ret (results_cell_one rfl _ _ N 78 _ (0, 0) _ rfl HW.out.1 Tryz.underlying78 rfl (by kernel_rfl)) rfl ?_
            refine HG.out _ _ ⟨HW.out.2.2, ?_⟩
            rw [hrs]
            exact ⟨_, _, l.length, rfl, by omega, HW.out.2.1⟩
          · have e1 : ((Nm.bs A).toList == ([] : List UInt8)) = false := by rw [bs_toList, beq_eq_false_iff_ne]; exact hA0
            have e2 : ((Nm.bs A).toList != ([] : List UInt8)) = true := by rw [bs_toList, bne_iff_ne]; exact hA0
            go_wp2_with fail
            refine (HTY.out w1).mono ?_
            rintro e w2 ⟨rfl, hb2⟩
            have HP2 := Lib.hid (HP1.out.below hb2)
            clear hb2 p0 p1 fp1 n0 n1 fn0 fn1 c1 f1 c2 f2 HP1
            obtain ⟨p0, p1, fp1, n0, n1, fn0, fn1, c1, f1, c2, f2⟩ := HP2.out.cells
            cases hty : typB A with
            | true =>
              have hrs : rest typB F A (l.drop l.length) = .bad := by rw [rest_no hno, if_neg (fun h => by rw [hty] at h; cases h.2)]
              have HW := Lib.hid (HP2.out.put (.string (Nm.bs A)) (.string ⟨#[]⟩))
              go_wp2_with fail
              refine bodyPost_ret (results_cell_one rfl _ _ N 78 _ (0, 0) _ rfl HW.out.1 Tryz.underlying78 rfl (by kernel_rfl)) rfl ?_
              refine HG.out _ _ ⟨HW.out.2.2, ?_⟩
              rw [hrs]
              exact ⟨_, _, l.length, rfl, by omega, HW.out.2.1⟩
            | false =>
              have hrs : rest typB F A (l.drop l.length) = .opn := by rw [rest_no hno, if_pos ⟨hA0, hty⟩]
              have HP3 := Lib.hid (HP2.out.set 2 (.bool true) (HP2.out.rd.opened true))
              have HW := Lib.hid (HP3.out.put (.string (Nm.bs A)) (.string ⟨#[]⟩))
              obtain ⟨p0', p1', fp1', n0', n1', fn0', fn1', c1', f1', c2', f2'⟩ := HP3.out.cells
              go_wp2_with fail
              refine bodyPost_ret (results_cell_one rfl _ _ N 78 _ (0, 0) _ rfl HW.out.1 Tryz.underlying78 rfl (by kernel_rfl)) rfl ?_
              refine HG.out _ _ ⟨HW.out.2.2, ?_⟩
              rw [hrs]
              exact ⟨_, _, _, l.length, rfl, by omega, HW.out.2.1⟩
      · have t1 : decide ((j : Int) < (l.length : Int)) = true := decide_eq_true (by omega)
        have i0' : (0 : Int) ≤ (j : Int) := by omega
        have i1' : (j : Int) < ((Nm.bs l).size : Int) := by omega
        have hj1 : j + 1 ≤ l.length := hlt
        have hdj : l.drop j = 61 :: l.drop (j + 1) := by
          have hc : l[j]? = some 61 := by
            unfold peekN at hpk
            rw [List.getElem?_eq_getElem hlt] at hpk ⊢
            exact congrArg some (UInt8.toNat_inj.1 hpk)
          exact hd_drop hc
        go_wp2_with fail
        go_quiet (fail)
        obtain ⟨wq, hwq⟩ : ∃ wq, wq = wr.drewN nq := ⟨_, rfl⟩
        rw [← hwq]
        have hrdq : NRd wq R l j o1 := by rw [hwq]; exact HRD.out
        have hnnq : Only (· = R) w wq ∧ wq.heap[N]? = some (.cells #[.string ⟨#[]⟩, .string ⟨#[]⟩] 78 (0, 0)) ∧ w.heap.size ≤ N := by rw [hwq]; exact ⟨HNN.out.1.drewN _, HNN.out.2⟩
        have d0 : wq.cell? ⟨R, 0, none⟩ = some (.string (Nm.bs l)) := blockCell hrdq 0
        have d1 : wq.cell? ⟨R, 1, none⟩ = some (.int .i64 j) := blockCell hrdq 1
        have hxa : ∀ (W : World) (o : Obj) (j : Nat), R < W.heap.size → (W.alloc o).cell? ⟨R, j, none⟩ = W.cell? ⟨R, j, none⟩ := fun W o j h => World.cell?_of_block (w := W) (Below.heap_alloc W o R h)
        have hxl : R < wq.heap.size := hrdq.lt
        have hps : PS w R N wq.heap.size l o1 j A ((wq.alloc (.cells #[.string (Nm.bs A), .string ⟨#[]⟩] 78 (0, 0))).drew) :=
          ⟨hrdq.stays (((Below.refl wq.heap.size wq).alloc (Nat.le_refl _) _).drew), (hnnq.1.alloc _).drew, (Below.heap_alloc _ _ _ (blockLt hnnq.2.1)).trans hnnq.2.1, heap_alloc_new _ _, hnnq.2.2, hnnq.1.size, Nat.ne_of_lt (blockLt hnnq.2.1), hRlt⟩
        have HPS := Lib.hid hps
        clear hwq HRD HNN c0 c1 c2 f1 f2 hat hrdq hnnq hps
        go_wp2_with fail
        go_cut [6] from 114 to 124 (fun t6 wx => Hid (∃ P, t6 = .pointer (some ⟨P, 0, none⟩) ∧ PS w R N P l o1 j A wx))
        case first =>
          go_region
          go_wp2_with fail
          go_meet
          exact Lib.hid ⟨_, rfl, HPS.out⟩
        case rest =>
          clear HPS d0 d1 hxa hxl
          obtain ⟨P, rfl, hps⟩ := hcut.out
          clear hcut
          have HPS := Lib.hid hps
          clear hps
          go_wp2_with fail
          refine (peek_any _ R l j o1 HPS.out.rd (by omega) hl).mono ?_
          rw [hpk]
          rintro e w1 ⟨rfl, hw1⟩
          have HP1 : Hid (PS w R N P l o1 j A w1) := by obtain ⟨k, rfl⟩ := hw1; exact Lib.hid (HPS.out.step ((Only.refl _ _).drewN _) HPS.out.rd)
          clear hw1 HPS
          obtain ⟨p0, p1, fp1, n0, n1, fn0, fn1, c1, f1, c2, f2⟩ := HP1.out.cells
          go_wp2_with fail
          refine (HTY.out w1).mono ?_
          rintro e w2 ⟨rfl, hb2⟩
          have HP2 := Lib.hid (HP1.out.below hb2)
          clear hb2 p0 p1 fp1 n0 n1 fn0 fn1 c1 f1 c2 f2 HP1
          obtain ⟨p0, p1, fp1, n0, n1, fn0, fn1, c1, f1, c2, f2⟩ := HP2.out.cells
          cases hty : typB A with
          | false =>
            rw [hty] at HTY
            have hrs : rest typB F A (l.drop j) = .opn := by
              rw [hdj, rest_yes, if_neg (by rw [hty]; simp)]
            by_cases hA0 : A = []
            · subst hA0
              have e1 : ((Nm.bs []).toList == ([] : List UInt8)) = true := by rw [bs_toList]; rfl
              have e2 : ((Nm.bs []).toList != ([] : List UInt8)) = false := by rw [bs_toList]; rfl
              go_wp2_with fail
              refine (peek_any _ R l j o1 HP2.out.rd (by omega) hl).mono ?_
              rw [hpk]
              rintro e w3 ⟨rfl, hw2⟩
              have HP4 : Hid (PS w R N P l o1 j [] w3) := by obtain ⟨k, rfl⟩ := hw2; exact Lib.hid (HP2.out.step ((Only.refl _ _).drewN _) HP2.out.rd)
              clear hw2 p0 p1 fp1 n0 n1 fn0 fn1 c1 f1 c2 f2 HP2
              obtain ⟨p0, p1, fp1, n0, n1, fn0, fn1, c1, f1, c2, f2⟩ := HP4.out.cells
              have HP3 := Lib.hid (HP4.out.set 2 (.bool true) (HP4.out.rd.opened true))
              have HW := Lib.hid (HP3.out.put (.string (Nm.bs [])) (.string ⟨#[]⟩))
              obtain ⟨p0', p1', fp1', n0', n1', fn0', fn1', c1', f1', c2', f2'⟩ := HP3.out.cells
              go_wp2_with fail
              refine bodyPost_ret (results_cell_one rfl _ _ N 78 _ (0, 0) _ rfl HW.out.1 Tryz.underlying78 rfl (by kernel_rfl)) rfl ?_
              refine HG.out _ _ ⟨HW.out.2.2, ?_⟩
              rw [hrs]
              exact ⟨_, _, _, j, rfl, by omega, HW.out.2.1⟩
            · have e1 : ((Nm.bs A).toList == ([] : List UInt8)) = false := by rw [bs_toList, beq_eq_false_iff_ne]; exact hA0
              have e2 : ((Nm.bs A).toList != ([] : List UInt8)) = true := by rw [bs_toList, bne_iff_ne]; exact hA0
              go_wp2_with fail
              refine (HTY.out w2).mono ?_
              rintro e w3 ⟨rfl, hb2⟩
              have HP4 := Lib.hid (HP2.out.below hb2)
              clear hb2 p0 p1 fp1 n0 n1 fn0 fn1 c1 f1 c2 f2 HP2
              obtain ⟨p0, p1, fp1, n0, n1, fn0, fn1, c1, f1, c2, f2⟩ := HP4.out.cells
              have HP3 := Lib.hid (HP4.out.set 2 (.bool true) (HP4.out.rd.opened true))
              have HW := Lib.hid (HP3.out.put (.string (Nm.bs A)) (.string ⟨#[]⟩))
              obtain ⟨p0', p1', fp1', n0', n1', fn0', fn1', c1', f1', c2', f2'⟩ := HP3.out.cells
              go_wp2_with fail
              refine bodyPost_ret (results_cell_one rfl _ _ N 78 _ (0, 0) _ rfl HW.out.1 Tryz.underlying78 rfl (by kernel_rfl)) rfl ?_
              refine HG.out _ _ ⟨HW.out.2.2, ?_⟩
              rw [hrs]
              exact ⟨_, _, _, j, rfl, by omega, HW.out.2.1⟩
          | true =>
            have hrs : rest typB F A (l.drop j) = if peekN l (j + 1) = 32 then .opn else if peekN l (j + 1) = 35 then Sp.mapO A (Sp.hexs F (l.drop (j + 1 + 1)) []) else Sp.mapO A (Sp.value F (l.drop (j + 1)) [] false) := by
              rw [hdj, rest_yes, if_pos hty, head_drop, List.drop_drop]
              have h32 : (l[j + 1]? = some 32) ↔ peekN l (j + 1) = 32 := peek_iff 32 (by decide)
              have h35 : (l[j + 1]? = some 35) ↔ peekN l (j + 1) = 35 := peek_iff 35 (by decide)
              simp only [h32, h35]
              first | done | rfl
            have HRS := Lib.hid hrs
            have HP3 := Lib.hid (HP2.out.set 1 (.int .i64 ((j : Int) + 1)) (HP2.out.rd.at (j + 1)))
            clear hrs hdj hpk
            clear HTY
            obtain ⟨pk, hpk⟩ : ∃ k, k = peekN l (j + 1) := ⟨_, rfl⟩
            rw [← hpk] at HRS
            have HK := Lib.hid (fun w9 (h : NRd w9 R l (j + 1) o1) => peek_any w9 R l (j + 1) o1 h hj1 hl)
            rw [← hpk] at HK
            have HPK := Lib.hid hpk
            clear hpk
            go_wp2_with fail
            refine (HK.out _ HP3.out.rd).mono ?_
            rintro e w3 ⟨rfl, hw2⟩
            have HP4 : Hid (PS w R N P l o1 (j + 1) A w3) := by obtain ⟨k, rfl⟩ := hw2; exact Lib.hid (HP3.out.step ((Only.refl _ _).drewN _) HP3.out.rd)
            clear hw2 p0 p1 fp1 n0 n1 fn0 fn1 c1 f1 c2 f2 HP2 HP3
            obtain ⟨p0, p1, fp1, n0, n1, fn0, fn1, c1, f1, c2, f2⟩ := HP4.out.cells
            by_cases h32 : pk = 32
            · have q32 : ((pk : Int) == 32) = true := by rw [beq_iff_eq]; omega
              have hx : rest typB F A (l.drop j) = .opn := by rw [HRS.out, if_pos h32]
              have HX := Lib.hid hx
              clear hx h32
              have HP3 := Lib.hid (HP4.out.set 2 (.bool true) (HP4.out.rd.opened true))
              have HW := Lib.hid (HP3.out.put (.string (Nm.bs A)) (.string ⟨#[]⟩))
              obtain ⟨p0', p1', fp1', n0', n1', fn0', fn1', c1', f1', c2', f2'⟩ := HP3.out.cells
              go_wp2_with fail
              refine bodyPost_ret (results_cell_one rfl _ _ N 78 _ (0, 0) _ rfl HW.out.1 Tryz.underlying78 rfl (by kernel_rfl)) rfl ?_
              refine HG.out _ _ ⟨HW.out.2.2, ?_⟩
              rw [HX.out]
              exact ⟨_, _, _, j + 1, rfl, by omega, HW.out.2.1⟩
            · have q32 : ((pk : Int) == 32) = false := by rw [beq_eq_false_iff_ne]; omega
              go_wp2_with fail
              refine (HK.out _ HP4.out.rd).mono ?_
              rintro e w4 ⟨rfl, hw2⟩
              have HP5 : Hid (PS w R N P l o1 (j + 1) A w4) := by obtain ⟨k, rfl⟩ := hw2; exact Lib.hid (HP4.out.step ((Only.refl _ _).drewN _) HP4.out.rd)
              clear hw2 p0 p1 fp1 n0 n1 fn0 fn1 c1 f1 c2 f2 HP4
              obtain ⟨p0, p1, fp1, n0, n1, fn0, fn1, c1, f1, c2, f2⟩ := HP5.out.cells
              by_cases h35 : pk = 35
              · have q35 : ((pk : Int) == 35) = true := by rw [beq_iff_eq]; omega
                have hx : rest typB F A (l.drop j) = Sp.mapO A (Sp.hexs F (l.drop (j + 1 + 1)) []) := by rw [HRS.out, if_neg h32, if_pos h35]
                have HX := Lib.hid hx
                have hj2 : j + 1 < l.length := by
                  rcases Nat.lt_or_ge (j + 1) l.length with h | h
                  · exact h
                  · have := HPK.out; unfold peekN at this; rw [List.getElem?_eq_none h] at this; simp only [] at this; omega
                clear hx h32 h35
                go_wp2_with fail
                refine (hexs_read F _ R l (j + 1) o1 HP5.out.rd hj2 hF hl).mono ?_
                rintro e w5 ⟨hon, hv⟩
                obtain ⟨v, b, i', o', rfl, hi', hr5, hv⟩ := hv.form
                have HP6 := Lib.hid (HP5.out.step hon hr5)
                have HV := Lib.hid hv
                clear hon hr5 hv p0 p1 fp1 n0 n1 fn0 fn1 c1 f1 c2 f2 HP5
                obtain ⟨p0, p1, fp1, n0, n1, fn0, fn1, c1, f1, c2, f2⟩ := HP6.out.cells
                obtain ⟨p0', p1', n0', n1', fn0', fn1'⟩ := HP6.out.cells2 (.string v)
                have HW := Lib.hid (HP6.out.put2 (.string v) (.string (Nm.bs A)) (.string v))
                go_wp2_with fail
                refine bodyPost_ret (results_cell_one rfl _ _ N 78 _ (0, 0) _ rfl HW.out.1 Tryz.underlying78 rfl (by kernel_rfl)) rfl ?_
                refine HG.out _ _ ⟨HW.out.2.2, ?_⟩
                rw [HX.out]
                exact HV.out.map HW.out.2.1 hi'
              · have q35 : ((pk : Int) == 35) = false := by rw [beq_eq_false_iff_ne]; omega
                have hx : rest typB F A (l.drop j) = Sp.mapO A (Sp.value F (l.drop (j + 1)) [] false) := by rw [HRS.out, if_neg h32, if_neg h35]
                have HX := Lib.hid hx
                clear hx h32 h35
                go_wp2_with fail
                refine (value_read F _ R l (j + 1) o1 HP5.out.rd hj1 hF hl).mono ?_
                rintro e w5 ⟨hon, hv⟩
                obtain ⟨v, b, i', o', rfl, hi', hr5, hv⟩ := hv.form
                have HP6 := Lib.hid (HP5.out.step hon hr5)
                have HV := Lib.hid hv
                clear hon hr5 hv p0 p1 fp1 n0 n1 fn0 fn1 c1 f1 c2 f2 HP5
                obtain ⟨p0, p1, fp1, n0, n1, fn0, fn1, c1, f1, c2, f2⟩ := HP6.out.cells
                obtain ⟨p0', p1', n0', n1', fn0', fn1'⟩ := HP6.out.cells2 (.string v)
                have HW := Lib.hid (HP6.out.put2 (.string v) (.string (Nm.bs A)) (.string v))
                go_wp2_with fail
                refine bodyPost_ret (results_cell_one rfl _ _ N 78 _ (0, 0) _ rfl HW.out.1 Tryz.underlying78 rfl (by kernel_rfl)) rfl ?_
                refine HG.out _ _ ⟨HW.out.2.2, ?_⟩
                rw [HX.out]
                exact HV.out.map HW.out.2.1 hi'
      · have hno : (l.drop j)[0]? ≠ some 61 := by
          rw [head_drop]
          intro h
          unfold peekN at hpk
          rw [h] at hpk
          exact absurd hpk (by decide)
        have t1 : decide ((j : Int) < (l.length : Int)) = true := decide_eq_true (by omega)
        have i0' : (0 : Int) ≤ (j : Int) := by omega
        have i1' : (j : Int) < ((Nm.bs l).size : Int) := by omega
        go_wp2_with fail
        go_quiet (fail)
        obtain ⟨wq, hwq⟩ : ∃ wq, wq = wr.drewN nq := ⟨_, rfl⟩
        rw [← hwq]
        have hrdq : NRd wq R l j o1 := by rw [hwq]; exact HRD.out
        have hnnq : Only (· = R) w wq ∧ wq.heap[N]? = some (.cells #[.string ⟨#[]⟩, .string ⟨#[]⟩] 78 (0, 0)) ∧ w.heap.size ≤ N := by rw [hwq]; exact ⟨HNN.out.1.drewN _, HNN.out.2⟩
        have d0 : wq.cell? ⟨R, 0, none⟩ = some (.string (Nm.bs l)) := blockCell hrdq 0
        have d1 : wq.cell? ⟨R, 1, none⟩ = some (.int .i64 j) := blockCell hrdq 1
        have hxa : ∀ (W : World) (o : Obj) (j : Nat), R < W.heap.size → (W.alloc o).cell? ⟨R, j, none⟩ = W.cell? ⟨R, j, none⟩ := fun W o j h => World.cell?_of_block (w := W) (Below.heap_alloc W o R h)
        have hxl : R < wq.heap.size := hrdq.lt
        have hps : PS w R N wq.heap.size l o1 j A ((wq.alloc (.cells #[.string (Nm.bs A), .string ⟨#[]⟩] 78 (0, 0))).drew) :=
          ⟨hrdq.stays (((Below.refl wq.heap.size wq).alloc (Nat.le_refl _) _).drew), (hnnq.1.alloc _).drew, (Below.heap_alloc _ _ _ (blockLt hnnq.2.1)).trans hnnq.2.1, heap_alloc_new _ _, hnnq.2.2, hnnq.1.size, Nat.ne_of_lt (blockLt hnnq.2.1), hRlt⟩
        have HPS := Lib.hid hps
        clear hwq HRD HNN c0 c1 c2 f1 f2 hat hrdq hnnq hps
        go_wp2_with fail
        go_cut [6] from 114 to 124 (fun t6 wx => Hid (∃ P, t6 = .pointer (some ⟨P, 0, none⟩) ∧ PS w R N P l o1 j A wx))
        case first =>
          go_region
          go_wp2_with fail
          go_meet
          exact Lib.hid ⟨_, rfl, HPS.out⟩
        case rest =>
          clear HPS d0 d1 hxa hxl
          obtain ⟨P, rfl, hps⟩ := hcut.out
          clear hcut
          have HPS := Lib.hid hps
          clear hps
          go_wp2_with fail
          refine (peek_any _ R l j o1 HPS.out.rd (by omega) hl).mono ?_
          rw [hpk]
          rintro e w1 ⟨rfl, hw1⟩
          have HP1 : Hid (PS w R N P l o1 j A w1) := by obtain ⟨k, rfl⟩ := hw1; exact Lib.hid (HPS.out.step ((Only.refl _ _).drewN _) HPS.out.rd)
          clear hw1 HPS
          obtain ⟨p0, p1, fp1, n0, n1, fn0, fn1, c1, f1, c2, f2⟩ := HP1.out.cells
          by_cases hA0 : A = []
          · subst hA0
            have hrs : rest typB F [] (l.drop j) = .bad := by rw [rest_no hno, if_neg (fun h => h.1 rfl)]
            have e1 : ((Nm.bs []).toList == ([] : List UInt8)) = true := by rw [bs_toList]; rfl
            have e2 : ((Nm.bs []).toList != ([] : List UInt8)) = false := by rw [bs_toList]; rfl
            go_wp2_with fail
            refine (peek_any _ R l j o1 HP1.out.rd (by omega) hl).mono ?_
            rw [hpk]
            rintro e w2 ⟨rfl, hw2⟩
            have HP2 : Hid (PS w R N P l o1 j [] w2) := by obtain ⟨k, rfl⟩ := hw2; exact Lib.hid (HP1.out.step ((Only.refl _ _).drewN _) HP1.out.rd)
            clear hw2 p0 p1 fp1 n0 n1 fn0 fn1 c1 f1 c2 f2 HP1
            obtain ⟨p0, p1, fp1, n0, n1, fn0, fn1, c1, f1, c2, f2⟩ := HP2.out.cells
            have HW := Lib.hid (HP2.out.put (.string (Nm.bs [])) (.string ⟨#[]⟩))
            go_wp2_with fail
            refine bodyPost_ret (results_cell_one rfl _ _ N 78 _ (0, 0) _ rfl HW.out.1 Tryz.underlying78 rfl (by kernel_rfl)) rfl ?_
            refine HG.out _ _ ⟨HW.out.2.2, ?_⟩
            rw [hrs]
            exact ⟨_, _, j, rfl, by omega, HW.out.2.1⟩
          · have e1 : ((Nm.bs A).toList == ([] : List UInt8)) = false := by rw [bs_toList, beq_eq_false_iff_ne]; exact hA0
            have e2 : ((Nm.bs A).toList != ([] : List UInt8)) = true := by rw [bs_toList, bne_iff_ne]; exact hA0
            go_wp2_with fail
            refine (HTY.out w1).mono ?_
            rintro e w2 ⟨rfl, hb2⟩
            have HP2 := Lib.hid (HP1.out.below hb2)
            clear hb2 p0 p1 fp1 n0 n1 fn0 fn1 c1 f1 c2 f2 HP1
            obtain ⟨p0, p1, fp1, n0, n1, fn0, fn1, c1, f1, c2, f2⟩ := HP2.out.cells
            cases hty : typB A with
            | true =>
              have hrs : rest typB F A (l.drop j) = .bad := by rw [rest_no hno, if_neg (fun h => by rw [hty] at h; cases h.2)]
              have HW := Lib.hid (HP2.out.put (.string (Nm.bs A)) (.string ⟨#[]⟩))
              go_wp2_with fail
              refine bodyPost_ret (results_cell_one rfl _ _ N 78 _ (0, 0) _ rfl HW.out.1 Tryz.underlying78 rfl (by kernel_rfl)) rfl ?_
              refine HG.out _ _ ⟨HW.out.2.2, ?_⟩
              rw [hrs]
              exact ⟨_, _, j, rfl, by omega, HW.out.2.1⟩
            | false =>
              have hrs : rest typB F A (l.drop j) = .opn := by rw [rest_no hno, if_pos ⟨hA0, hty⟩]
              have HP3 := Lib.hid (HP2.out.set 2 (.bool true) (HP2.out.rd.opened true))
              have HW := Lib.hid (HP3.out.put (.string (Nm.bs A)) (.string ⟨#[]⟩))
              obtain ⟨p0', p1', fp1', n0', n1', fn0', fn1', c1', f1', c2', f2'⟩ := HP3.out.cells
              go_wp2_with fail
              refine bodyPost_ret (results_cell_one rfl _ _ N 78 _ (0, 0) _ rfl HW.out.1 Tryz.underlying78 rfl (by kernel_rfl)) rfl ?_
              refine HG.out _ _ ⟨HW.out.2.2, ?_⟩
              rw [hrs]
              exact ⟨_, _, _, j, rfl, by omega, HW.out.2.1⟩
      · have hno : (l.drop j)[0]? ≠ some 61 := by
          rw [head_drop]
          intro h
          unfold peekN at hpk
          rw [h] at hpk
          exact absurd hpk (by decide)
        have t1 : decide ((j : Int) < (l.length : Int)) = true := decide_eq_true (by omega)
        have i0' : (0 : Int) ≤ (j : Int) := by omega
        have i1' : (j : Int) < ((Nm.bs l).size : Int) := by omega
        go_wp2_with fail
        go_quiet (fail)
        obtain ⟨wq, hwq⟩ : ∃ wq, wq = wr.drewN nq := ⟨_, rfl⟩
        rw [← hwq]
        have hrdq : NRd wq R l j o1 := by rw [hwq]; exact HRD.out
        have hnnq : Only (· = R) w wq ∧ wq.heap[N]? = some (.cells #[.string ⟨#[]⟩, .string ⟨#[]⟩] 78 (0, 0)) ∧ w.heap.size ≤ N := by rw [hwq]; exact ⟨HNN.out.1.drewN _, HNN.out.2⟩
        have d0 : wq.cell? ⟨R, 0, none⟩ = some (.string (Nm.bs l)) := blockCell hrdq 0
        have d1 : wq.cell? ⟨R, 1, none⟩ = some (.int .i64 j) := blockCell hrdq 1
        have hxa : ∀ (W : World) (o : Obj) (j : Nat), R < W.heap.size → (W.alloc o).cell? ⟨R, j, none⟩ = W.cell? ⟨R, j, none⟩ := fun W o j h => World.cell?_of_block (w := W) (Below.heap_alloc W o R h)
        have hxl : R < wq.heap.size := hrdq.lt
        have hps : PS w R N wq.heap.size l o1 j A ((wq.alloc (.cells #[.string (Nm.bs A), .string ⟨#[]⟩] 78 (0, 0))).drew) :=
          ⟨hrdq.stays (((Below.refl wq.heap.size wq).alloc (Nat.le_refl _) _).drew), (hnnq.1.alloc _).drew, (Below.heap_alloc _ _ _ (blockLt hnnq.2.1)).trans hnnq.2.1, heap_alloc_new _ _, hnnq.2.2, hnnq.1.size, Nat.ne_of_lt (blockLt hnnq.2.1), hRlt⟩
        have HPS := Lib.hid hps
        clear hwq HRD HNN c0 c1 c2 f1 f2 hat hrdq hnnq hps
        go_wp2_with fail
        go_cut [6] from 114 to 124 (fun t6 wx => Hid (∃ P, t6 = .pointer (some ⟨P, 0, none⟩) ∧ PS w R N P l o1 j A wx))
        case first =>
          go_region
          go_wp2_with fail
          go_meet
          exact Lib.hid ⟨_, rfl, HPS.out⟩
        case rest =>
          clear HPS d0 d1 hxa hxl
          obtain ⟨P, rfl, hps⟩ := hcut.out
          clear hcut
          have HPS := Lib.hid hps
          clear hps
          go_wp2_with fail
          refine (peek_any _ R l j o1 HPS.out.rd (by omega) hl).mono ?_
          rw [hpk]
          rintro e w1 ⟨rfl, hw1⟩
          have HP1 : Hid (PS w R N P l o1 j A w1) := by obtain ⟨k, rfl⟩ := hw1; exact Lib.hid (HPS.out.step ((Only.refl _ _).drewN _) HPS.out.rd)
          clear hw1 HPS
          obtain ⟨p0, p1, fp1, n0, n1, fn0, fn1, c1, f1, c2, f2⟩ := HP1.out.cells
          by_cases hA0 : A = []
          · subst hA0
            have hrs : rest typB F [] (l.drop j) = .bad := by rw [rest_no hno, if_neg (fun h => h.1 rfl)]
            have e1 : ((Nm.bs []).toList == ([] : List UInt8)) = true := by rw [bs_toList]; rfl
            have e2 : ((Nm.bs []).toList != ([] : List UInt8)) = false := by rw [bs_toList]; rfl
            go_wp2_with fail
            refine (peek_any _ R l j o1 HP1.out.rd (by omega) hl).mono ?_
            rw [hpk]
            rintro e w2 ⟨rfl, hw2⟩
            have HP2 : Hid (PS w R N P l o1 j [] w2) := by obtain ⟨k, rfl⟩ := hw2; exact Lib.hid (HP1.out.step ((Only.refl _ _).drewN _) HP1.out.rd)
            clear hw2 p0 p1 fp1 n0 n1 fn0 fn1 c1 f1 c2 f2 HP1
            obtain ⟨p0, p1, fp1, n0, n1, fn0, fn1, c1, f1, c2, f2⟩ := HP2.out.cells
            have HW := Lib.hid (HP2.out.put (.string (Nm.bs [])) (.string ⟨#[]⟩))
            go_wp2_with fail
            refine bodyPost_ret (results_cell_one rfl _ _ N 78 _ (0, 0) _ rfl HW.out.1 Tryz.underlying78 rfl (by kernel_rfl)) rfl ?_
            refine HG.out _ _ ⟨HW.out.2.2, ?_⟩
            rw [hrs]
            exact ⟨_, _, j, rfl, by omega, HW.out.2.1⟩
          · have e1 : ((Nm.bs A).toList == ([] : List UInt8)) = false := by rw [bs_toList, beq_eq_false_iff_ne]; exact hA0
            have e2 : ((Nm.bs A).toList != ([] : List UInt8)) = true := by rw [bs_toList, bne_iff_ne]; exact hA0
            go_wp2_with fail
            refine (HTY.out w1).mono ?_
            rintro e w2 ⟨rfl, hb2⟩
            have HP2 := Lib.hid (HP1.out.below hb2)
            clear hb2 p0 p1 fp1 n0 n1 fn0 fn1 c1 f1 c2 f2 HP1
            obtain ⟨p0, p1, fp1, n0, n1, fn0, fn1, c1, f1, c2, f2⟩ := HP2.out.cells
            cases hty : typB A with
            | true =>
              have hrs : rest typB F A (l.drop j) = .bad := by rw [rest_no hno, if_neg (fun h => by rw [hty] at h; cases h.2)]
              have HW := Lib.hid (HP2.out.put (.string (Nm.bs A)) (.string ⟨#[]⟩))
              go_wp2_with fail
              refine bodyPost_ret (results_cell_one rfl _ _ N 78 _ (0, 0) _ rfl HW.out.1 Tryz.underlying78 rfl (by kernel_rfl)) rfl ?_
              refine HG.out _ _ ⟨HW.out.2.2, ?_⟩
              rw [hrs]
              exact ⟨_, _, j, rfl, by omega, HW.out.2.1⟩
            | false =>
              have hrs : rest typB F A (l.drop j) = .opn := by rw [rest_no hno, if_pos ⟨hA0, hty⟩]
              have HP3 := Lib.hid (HP2.out.set 2 (.bool true) (HP2.out.rd.opened true))
              have HW := Lib.hid (HP3.out.put (.string (Nm.bs A)) (.string ⟨#[]⟩))
              obtain ⟨p0', p1', fp1', n0', n1', fn0', fn1', c1', f1', c2', f2'⟩ := HP3.out.cells
              go_wp2_with fail
              refine bodyPost_ret (results_cell_one rfl _ _ N 78 _ (0, 0) _ rfl HW.out.1 Tryz.underlying78 rfl (by kernel_rfl)) rfl ?_
              refine HG.out _ _ ⟨HW.out.2.2, ?_⟩
              rw [hrs]
              exact ⟨_, _, _, j, rfl, by omega, HW.out.2.1⟩
    · have hlt : j < l.length := by
        rcases Nat.lt_or_ge j l.length with h | h
        · exact h
        · exact absurd (Or.inl (by omega)) hst
      have hlt2 : j < (Nm.bs l).size := by rw [hsz]; exact hlt
      have t1 : decide ((j : Int) < (l.length : Int)) = true := decide_eq_true (by omega)
      obtain ⟨c, hc, hget⟩ : ∃ b : UInt8, l[j]? = some b ∧ ((Nm.bs l)[j]'hlt2).toNat = b.toNat := ⟨_, List.getElem?_eq_getElem hlt, by rw [bs_get]⟩
      have i0' : (0 : Int) ≤ (j : Int) := by omega
      have i1' : (j : Int) < ((Nm.bs l).size : Int) := by omega
      have hen : Sp.ends c = false := by
        cases h : Sp.ends c with
        | false => rfl
        | true => exact absurd (Or.inr ⟨c, hc, h⟩) hst
      have hen3 : c ≠ 61 ∧ c ≠ 44 ∧ c ≠ 43 := by
        simp only [Sp.ends, Bool.or_eq_false_iff, beq_eq_false_iff_ne] at hen
        exact ⟨hen.1.1, hen.1.2, hen.2⟩
      have q61 : ((c.toNat : Int) != 61) = true := by
        rw [bne_iff_ne]; intro h
        exact hen3.1 (UInt8.toNat_inj.1 (by have : (61 : UInt8).toNat = 61 := rfl; omega))
      have q44 : ((c.toNat : Int) != 44) = true := by
        rw [bne_iff_ne]; intro h
        exact hen3.2.1 (UInt8.toNat_inj.1 (by have : (44 : UInt8).toNat = 44 := rfl; omega))
      have q43 : ((c.toNat : Int) != 43) = true := by
        rw [bne_iff_ne]; intro h
        exact hen3.2.2 (UInt8.toNat_inj.1 (by have : (43 : UInt8).toNat = 43 := rfl; omega))
      have hflag : og l i0 (j + 1) o = (og l i0 j o || (decide (c = 32) || decide (c = 59) || decide (c = 34) || decide (c = 60) || decide (c = 62) || decide (c = 0) || decide (c = 92) || decide (c = 35) || decide (128 ≤ c.toNat))) := by rw [og_step hjlo hc]; rfl
      have q32 := u8_eqB c 32
      have q59 := u8_eqB c 59
      have q34 := u8_eqB c 34
      have q60 := u8_eqB c 60
      have q62 := u8_eqB c 62
      have q00 := u8_eqB c 0
      have q92 := u8_eqB c 92
      have q35 := u8_eqB c 35
      have q128 : decide ((c.toNat : Int) ≥ 128) = decide (128 ≤ c.toNat) := decide_eq_decide.2 (by omega)
      simp only [show (32 : UInt8).toNat = 32 from rfl, show (59 : UInt8).toNat = 59 from rfl, show (34 : UInt8).toNat = 34 from rfl, show (60 : UInt8).toNat = 60 from rfl, show (62 : UInt8).toNat = 62 from rfl, show (0 : UInt8).toNat = 0 from rfl, show (92 : UInt8).toNat = 92 from rfl, show (35 : UInt8).toNat = 35 from rfl, Int.cast_ofNat_Int] at q32 q59 q34 q60 q62 q00 q92 q35
      have hnx : ∀ w5, NRd w5 R l (j + 1) (og l i0 (j + 1) o) → Only (· = R) w w5 → w5.heap[N]? = wr.heap[N]? → PI w R N l o i0 (j + 1) w5 := fun w5 h1 h2 h3 =>
        ⟨by omega, hlt, fun d hd => by
          rw [sg_snoc hjlo hc] at hd
          rcases List.mem_append.1 hd with hd | hd
          · exact HI.out.non d hd
          · simp only [List.mem_singleton] at hd; rw [hd]; exact hen, h1, h2, h3.trans HI.out.hN, HI.out.hlo⟩
      have hNR : N ≠ R := by have := HI.out.hlo; omega
      have HNX := Lib.hid hnx
      clear hnx hen3 hst hc hen
      generalize decide (c = 32) = b32 at *
      generalize decide (c = 59) = b59 at *
      generalize decide (c = 34) = b34 at *
      generalize decide (c = 60) = b60 at *
      generalize decide (c = 62) = b62 at *
      generalize decide (c = 0) = b0 at *
      generalize decide (c = 92) = b92 at *
      generalize decide (c = 35) = b35 at *
      generalize decide (128 ≤ c.toNat) = b128 at *
      have HF := Lib.hid hflag
      clear hflag
      rcases or9 b32 b59 b34 b60 b62 b0 b92 b35 b128 with rfl | ⟨rfl, rfl⟩ | ⟨rfl, rfl, rfl⟩ | ⟨rfl, rfl, rfl, rfl⟩ | ⟨rfl, rfl, rfl, rfl, rfl⟩ | ⟨rfl, rfl, rfl, rfl, rfl, rfl⟩ | ⟨rfl, rfl, rfl, rfl, rfl, rfl, rfl⟩ | ⟨rfl, rfl, rfl, rfl, rfl, rfl, rfl, rfl⟩ | ⟨rfl, rfl, rfl, rfl, rfl, rfl, rfl, rfl, rfl⟩ | ⟨rfl, rfl, rfl, rfl, rfl, rfl, rfl, rfl, rfl⟩
      all_goals
        go_wp2_with fail
        go_quiet (fail)
        go_wp2_with fail
        go_quiet (fail)
        go_wp2_with fail
        exact ⟨Lib.hid ⟨j + 1, HNX.out _ (by rw [HF.out]; first | (simp only [Bool.false_or, Bool.or_false, Bool.true_or, Bool.or_true]; first | exact (HI.out.rd.opened true).at (j + 1) | exact HI.out.rd.at (j + 1))) (by first | exact ((HI.out.only.drewN _).setOne 2 _).setOne 1 _ | exact (HI.out.only.drewN _).setOne 1 _) (by first | exact (set_other hNR).trans (set_other hNR) | exact set_other hNR)⟩, by first | exact meas ((HI.out.rd.opened true).at (j + 1)) hat (by omega) (by omega) | exact meas (HI.out.rd.at (j + 1)) hat (by omega) (by omega)⟩
end Go.Proofs.YtjmahgefijncaaaGreatFmt

