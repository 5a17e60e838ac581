/- spec.nameReader: hexString. -/
import Derived.Test.YtjmahgefijncaaaGreatFmtJ8
import Derived.Test.YtjmahgefijncaaaGreatFmtJ35
import Derived.Test.YtjmahgefijncaaaGreatFmtJ3
set_option linter.unusedVariables false
set_option linter.unusedSimpArgs false
namespace Go.Proofs.YtjmahgefijncaaaGreatFmt
open Go Go.RowKit

theorem Only.grown {S : Nat → Prop} {a w w' : World} {row : Option Nat} (h : Only S a w) (hg : w.grownBy w' row) (hr : ∀ k, row = some k → a.heap.size ≤ k) : Only S a w' :=
  ⟨hg.os.trans h.os, hg.tape.trans h.tape, hg.output.trans h.output, Nat.le_trans h.size hg.size, fun k hk hs => (hg.block k (by have := h.size; omega) (fun e => by have := hr k e.symm; omega)).trans (h.block k hk hs)⟩

/-- The round's head. -/
structure XI (w : World) (R : Nat) (l : List UInt8) (o : Bool) (x : Sp.O (List UInt8)) (i f : Nat) (b : List UInt8) (v : Value) (wr : World) : Prop where
  le : i ≤ l.length
  fu : l.length - i < f
  eq : x = Sp.hexs f (l.drop i) b
  few : b.length ≤ i
  rd : NRd wr R l i o
  only : Only (· = R) w wr
  own : wr.ownsRow w.heap.size 5 1 v b.length (Lib.byteCells b)

theorem hexs_stop {f : Nat} {s b : List UInt8} (h : Sp.Stop s) : Sp.hexs (f + 1) s b = Sp.fin b s := by
  rcases h with rfl | ⟨t, rfl | rfl⟩ <;> rfl
theorem hexs_go {f : Nat} {c : UInt8} {s b : List UInt8} (h : ¬ (c = 44 ∨ c = 43)) : Sp.hexs (f + 1) (c :: s) b = match Sp.pair (c :: s) with
    | none => if c = 32 ∨ c = 59 then .opn else .bad
    | some (x, s2) => Sp.hexs f s2 (b ++ [x]) := by
  show (if c = 44 ∨ c = 43 then _ else _) = _
  rw [if_neg h]
  cases Sp.pair (c :: s) <;> rfl

theorem own_bytes {w : World} {B : Nat} {v : Value} {b : List UInt8} (h : w.ownsRow B 5 1 v b.length (Lib.byteCells b)) (hb : b ≠ []) : ∃ g c, v = .slice (some ⟨g, 0, none⟩) b.length c ∧ b.length ≤ c ∧ ∀ (j : Nat) (x : UInt8), b[j]? = some x → w.cell? ⟨g, j, none⟩ = some (.int .u8 (x.toNat : Int)) := by
  have hpos : 0 < b.length := List.length_pos_iff.2 hb
  rcases h.2 with ⟨hv, h0⟩ | ⟨g, cap, cur, hv, hB, hg, h2, h3, h4, h5⟩
  · omega
  · refine ⟨g, cap, hv, by first | exact h2 | exact h4 | omega, fun j x hj => ?_⟩
    have hc : (Lib.byteCells b)[j]? = some (.int .u8 (x.toNat : Int)) := by simp [Lib.byteCells, hj]
    obtain ⟨g', c', e1, e2⟩ := owns_cell2 h hc
    rw [hv] at e1
    injection e1 with e1 _ _
    injection e1 with e1
    injection e1 with e1 _ _
    rw [e1]; exact e2

theorem tail_text {w : World} {g c : Nat} {b v : List UInt8} {b0 b1 : UInt8} (hb : b = b0 :: b1 :: v) (h : ∀ (j : Nat) (x : UInt8), b[j]? = some x → w.cell? ⟨g, j, none⟩ = some (.int .u8 (x.toNat : Int))) : (convert 51 9 (.slice (some ⟨g, 2, none⟩) (b.length - 2) c)).run Tryz.prog w = .ok (.string (Nm.bs v)) w := by
  rw [show b.length - 2 = v.length by rw [hb]; rfl]
  refine run_convert_bytes_back (P := Tryz.prog) w 51 9 5 ⟨g, 2, none⟩ c v Tryz.underlying51 Tryz.underlying5 Tryz.underlying9 (fun j hj => ?_)
  have := h (2 + j) v[j] (by rw [hb]; rw [show 2 + j = j + 1 + 1 by omega]; simp [hj])
  unfold Addr.add
  split
  · rename_i e; subst e; exact this
  · exact this

theorem nil_text {w : World} {g : Nat} {b v : List UInt8} {b0 b1 : UInt8} (hb : b = b0 :: b1 :: v) (h : b.length ≤ 2) : (convert 51 9 (.slice (some ⟨g, 0, none⟩) (b.length - 2) 0)).run Tryz.prog w = .ok (.string (Nm.bs v)) w := by
  have hl : b.length = v.length + 2 := by rw [hb]; rfl
  have hv : v = [] := List.length_eq_zero_iff.1 (by omega)
  subst hv
  rw [show b.length - 2 = ([] : List UInt8).length by rw [hl]; rfl]
  exact run_convert_bytes_back (P := Tryz.prog) w 51 9 5 ⟨g, 0, none⟩ 0 [] Tryz.underlying51 Tryz.underlying5 Tryz.underlying9 (fun j hj => absurd hj (Nat.not_lt_zero _))

set_option maxRecDepth 100000 in
set_option maxHeartbeats 16000000 in
theorem hexs_read (F : Nat) (w : World) (R : Nat) (l : List UInt8) (i0 : Nat) (o : Bool) (h : NRd w R l i0 o) (hi : i0 < l.length) (hF : l.length < F) (hl : l.length < 4000000000) :
    Calls Tryz.prog 64 #[.pointer (some ⟨R, 0, none⟩)] w fun e w' => Only (· = R) w w' ∧ VOut R l o (Sp.hexs F (l.drop (i0 + 1)) []) e w' := by
  obtain ⟨y0, hy, hz0, hz1, hz2⟩ := info_byte
  have hsz := bs_size l
  have hRlt := h.lt
  have c1 : w.cell? ⟨R, 1, none⟩ = some (.int .i64 i0) := blockCell h 1
  have f1 := blockFrozen h 1
  have HI0 : Hid (XI w R l o (Sp.hexs F (l.drop (i0 + 1)) []) (i0 + 1) F [] (.slice none 0 0) (w.setCell ⟨R, 1, none⟩ (.int .i64 ((i0 : Int) + 1)))) := Lib.hid ⟨hi, by omega, rfl, by simp, h.at (i0 + 1), (Only.refl _ _).setOne 1 _, owns_start _ _ _ _⟩
  clear h hF
  generalize Sp.hexs F (l.drop (i0 + 1)) [] = x at *
  go_enter Tryz.func64, Tryz.ntmps64
  go_wp2_with fail
  go_loopw [4] (fun t4 wr => ∃ (b : List UInt8) (oo : Option Addr) (cc : Nat), t4 = .slice oo b.length cc ∧ Hid (∃ i f, XI w R l o x i f b (.slice oo b.length cc) wr)) (fun _ wr => l.length - atOf wr R)
  case atStart => exact ⟨[], none, 0, rfl, Lib.hid ⟨_, F, HI0.out⟩⟩
  case round =>
    clear HI0 c1 f1 hi
    obtain ⟨b, oo, cc, rfl, HE⟩ := hrel
    obtain ⟨i, f0, hxi⟩ := HE.out
    obtain ⟨f, rfl⟩ : ∃ f, f0 = f + 1 := ⟨f0 - 1, by have := hxi.fu; omega⟩
    have HI := Lib.hid hxi
    have hat := hxi.rd.atOf
    have hile := hxi.le
    have hfew := hxi.few
    have c0 : wr.cell? ⟨R, 0, none⟩ = some (.string (Nm.bs l)) := blockCell hxi.rd 0
    have c1 : wr.cell? ⟨R, 1, none⟩ = some (.int .i64 i) := blockCell hxi.rd 1
    have c2 : wr.cell? ⟨R, 2, none⟩ = some (.bool o) := blockCell hxi.rd 2
    have f2 := blockFrozen hxi.rd 2
    clear hxi HE
    by_cases hst : Sp.Stop (l.drop i)
    · have hx : x = Sp.fin b (l.drop i) := by rw [HI.out.eq, hexs_stop hst]
      have HX := Lib.hid hx
      have HR1 := Lib.hid (HI.out.rd.opened true)
      have hwhy : (i = l.length) ∨ (∃ hlt2 : i < (Nm.bs l).size, i < l.length ∧ ((Nm.bs l)[i]'hlt2).toNat = 44) ∨ (∃ hlt2 : i < (Nm.bs l).size, i < l.length ∧ ((Nm.bs l)[i]'hlt2).toNat = 43) := by
        rcases Nat.lt_or_ge i l.length with h | h
        · right
          have h2 : i < (Nm.bs l).size := by omega
          rcases hst with e | ⟨t, e | e⟩
          · have := congrArg List.length e; rw [List.length_drop, List.length_nil] at this; omega
          all_goals
            rw [List.drop_eq_getElem_cons h] at e
            injection e with e _
          · left; exact ⟨h2, h, by rw [bs_get, e]; rfl⟩
          · right; exact ⟨h2, h, by rw [bs_get, e]; rfl⟩
        · left; omega
      clear hx hst
      have hfin : (b = [] ∧ Sp.fin b (l.drop i) = .bad) ∨ (b.length = 1 ∧ Sp.fin b (l.drop i) = .opn) ∨ (∃ b0 b1 v, b = b0 :: b1 :: v ∧ ((b0 ≠ 4 ∧ Sp.fin b (l.drop i) = .opn) ∨ (b0 = 4 ∧ 127 < b1.toNat ∧ Sp.fin b (l.drop i) = .opn) ∨ (b0 = 4 ∧ b1.toNat ≤ 127 ∧ b1.toNat ≠ v.length ∧ Sp.fin b (l.drop i) = .opn) ∨ (b0 = 4 ∧ b1.toNat ≤ 127 ∧ b1.toNat = v.length ∧ Sp.fin b (l.drop i) = .ok v (l.drop i)))) := by
        match b with
        | [] => exact Or.inl ⟨rfl, rfl⟩
        | [b0] => exact Or.inr (Or.inl ⟨rfl, by unfold Sp.fin; split <;> simp_all⟩)
        | b0 :: b1 :: v =>
          refine Or.inr (Or.inr ⟨b0, b1, v, rfl, ?_⟩)
          by_cases h4 : b0 = 4
          · subst h4
            have hd : Sp.fin (4 :: b1 :: v) (l.drop i) = if b1.toNat ≤ 127 ∧ b1.toNat = v.length then .ok v (l.drop i) else .opn := rfl
            by_cases h7 : b1.toNat ≤ 127
            · by_cases h8 : b1.toNat = v.length
              · exact Or.inr (Or.inr (Or.inr ⟨rfl, h7, h8, by rw [hd, if_pos ⟨h7, h8⟩]⟩))
              · exact Or.inr (Or.inr (Or.inl ⟨rfl, h7, h8, by rw [hd, if_neg (fun h => h8 h.2)]⟩))
            · exact Or.inr (Or.inl ⟨rfl, by omega, by rw [hd, if_neg (fun h => h7 h.1)]⟩)
          · refine Or.inl ⟨h4, ?_⟩
            unfold Sp.fin
            split
            · simp_all
            · rename_i heq; injection heq with e _; exact absurd e h4
            · rfl
      rcases hfin with ⟨hb, hf⟩ | ⟨hb, hf⟩ | ⟨b0, b1, v, hb, hc⟩
      · subst hb
        rw [hf] at HX
        rcases hwhy with hy2 | ⟨hlt2, hlt, hget⟩ | ⟨hlt2, hlt, hget⟩
        all_goals
          first
            | (have t1 : decide ((i : Int) < (l.length : Int)) = false := decide_eq_false (by omega))
            | (have t1 : decide ((i : Int) < (l.length : Int)) = true := decide_eq_true (by omega)
               have i0' : (0 : Int) ≤ (i : Int) := by omega
               have i1' : (i : Int) < ((Nm.bs l).size : Int) := by omega)
          go_wp2_with fail
          go_quiet (fail)
          go_wp2_with fail
          go_ret2
          exact ⟨HI.out.only.drewN _, by rw [HX.out]; exact ⟨_, i, rfl, hile, HI.out.rd.drewN _⟩⟩
      · have q0 : ((b.length : Int) == 0) = false := by rw [beq_eq_false_iff_ne]; omega
        have q2 : decide ((b.length : Int) < 2) = true := decide_eq_true (by omega)
        rw [hf] at HX
        clear hb hf
        rcases hwhy with hy2 | ⟨hlt2, hlt, hget⟩ | ⟨hlt2, hlt, hget⟩
        all_goals
          first
            | (have t1 : decide ((i : Int) < (l.length : Int)) = false := decide_eq_false (by omega))
            | (have t1 : decide ((i : Int) < (l.length : Int)) = true := decide_eq_true (by omega)
               have i0' : (0 : Int) ≤ (i : Int) := by omega
               have i1' : (i : Int) < ((Nm.bs l).size : Int) := by omega)
          go_wp2_with fail
          go_quiet (fail)
          go_wp2_with fail
          go_ret2
          exact ⟨(HI.out.only.drewN _).setOne 2 _, by rw [HX.out]; exact ⟨_, _, i, rfl, hile, HR1.out.drewN _⟩⟩
      · have hne : b ≠ [] := by rw [hb]; simp
        obtain ⟨g, c, hv, hc1, hcell⟩ := own_bytes HI.out.own hne
        injection hv with hv1 _ hv2
        subst hv1
        subst hv2
        have hbl : b.length = v.length + 2 := by rw [hb]; rfl
        have q0 : ((b.length : Int) == 0) = false := by rw [beq_eq_false_iff_ne]; omega
        have q2 : decide ((b.length : Int) < 2) = false := decide_eq_false (by omega)
        have e0 := hcell 0 b0 (by rw [hb]; rfl)
        have e1 := hcell 1 b1 (by rw [hb]; rfl)
        have p0 : (0 : Int) < (b.length : Int) := by omega
        have p1 : (1 : Int) < (b.length : Int) := by omega
        have HCELL := Lib.hid (fun w2 (hs : ∀ p : Addr, w2.cell? p = wr.cell? p) => tail_text (w := w2) (g := g) (c := cc - 2) hb (fun j x hj => (hs _).trans (hcell j x hj)))
        have HBL := Lib.hid hbl
        have HB := Lib.hid hb
        clear hcell hne hbl hb
        have hn4 := u8_eqB b0 4
        have hb1l := UInt8.toNat_lt b1
        rcases hc with ⟨hd, hf⟩ | ⟨rfl, hd, hf⟩ | ⟨rfl, hd, hd2, hf⟩ | ⟨rfl, hd, hd2, hf⟩
        · have q4 : ((b0.toNat : Int) != 4) = true := by
            rw [bne_iff_ne]; intro h
            exact hd (UInt8.toNat_inj.1 (by have : (4 : UInt8).toNat = 4 := rfl; omega))
          rw [hf] at HX
          clear hd hf hn4
          rcases hwhy with hy2 | ⟨hlt2, hlt, hget⟩ | ⟨hlt2, hlt, hget⟩
          all_goals
            first
              | (have t1 : decide ((i : Int) < (l.length : Int)) = false := decide_eq_false (by omega))
              | (have t1 : decide ((i : Int) < (l.length : Int)) = true := decide_eq_true (by omega)
                 have i0' : (0 : Int) ≤ (i : Int) := by omega
                 have i1' : (i : Int) < ((Nm.bs l).size : Int) := by omega)
            go_wp2_with fail
            go_quiet (fail)
            go_wp2_with fail
            go_ret2
            exact ⟨(HI.out.only.drewN _).setOne 2 _, by rw [HX.out]; exact ⟨_, _, i, rfl, hile, HR1.out.drewN _⟩⟩
        · have q4 : decide ((b1.toNat : Int) > 127) = true := decide_eq_true (by omega)
          rw [hf] at HX
          clear hd hf hn4
          rcases hwhy with hy2 | ⟨hlt2, hlt, hget⟩ | ⟨hlt2, hlt, hget⟩
          all_goals
            first
              | (have t1 : decide ((i : Int) < (l.length : Int)) = false := decide_eq_false (by omega))
              | (have t1 : decide ((i : Int) < (l.length : Int)) = true := decide_eq_true (by omega)
                 have i0' : (0 : Int) ≤ (i : Int) := by omega
                 have i1' : (i : Int) < ((Nm.bs l).size : Int) := by omega)
            go_wp2_with fail
            go_quiet (fail)
            go_wp2_with fail
            go_ret2
            exact ⟨(HI.out.only.drewN _).setOne 2 _, by rw [HX.out]; exact ⟨_, _, i, rfl, hile, HR1.out.drewN _⟩⟩
        · have q4 : decide ((b1.toNat : Int) > 127) = false := decide_eq_false (by omega)
          have q5 : ((b1.toNat : Int) != (b.length : Int) - 2) = true := by
            rw [bne_iff_ne]; have := HBL.out; omega
          rw [hf] at HX
          clear hd hd2 hf hn4
          rcases hwhy with hy2 | ⟨hlt2, hlt, hget⟩ | ⟨hlt2, hlt, hget⟩
          all_goals
            first
              | (have t1 : decide ((i : Int) < (l.length : Int)) = false := decide_eq_false (by omega))
              | (have t1 : decide ((i : Int) < (l.length : Int)) = true := decide_eq_true (by omega)
                 have i0' : (0 : Int) ≤ (i : Int) := by omega
                 have i1' : (i : Int) < ((Nm.bs l).size : Int) := by omega)
            go_wp2_with fail
            go_quiet (fail)
            go_wp2_with fail
            go_ret2
            exact ⟨(HI.out.only.drewN _).setOne 2 _, by rw [HX.out]; exact ⟨_, _, i, rfl, hile, HR1.out.drewN _⟩⟩
        · have q4 : decide ((b1.toNat : Int) > 127) = false := decide_eq_false (by omega)
          have q5 : ((b1.toNat : Int) != (b.length : Int) - 2) = false := by
            rw [bne_eq_false_iff_eq]; have := HBL.out; omega
          have p2 : (2 : Int) ≤ (b.length : Int) := by omega
          rw [hf] at HX
          clear hd hd2 hf hn4
          rcases hwhy with hy2 | ⟨hlt2, hlt, hget⟩ | ⟨hlt2, hlt, hget⟩
          all_goals
            first
              | (have t1 : decide ((i : Int) < (l.length : Int)) = false := decide_eq_false (by omega))
              | (have t1 : decide ((i : Int) < (l.length : Int)) = true := decide_eq_true (by omega)
                 have i0' : (0 : Int) ≤ (i : Int) := by omega
                 have i1' : (i : Int) < ((Nm.bs l).size : Int) := by omega)
            go_wp2_with fail
            go_quiet (fail)
            have hcv := HCELL.out (wr.drewN nq) (fun p => rfl)
            have hcv0 := fun h2 => nil_text (w := wr.drewN nq) (g := g) HB.out (show b.length ≤ 2 from Nat.le_trans hc1 (Nat.le_of_eq h2))
            by_cases h2 : cc = 2
            · replace hcv0 := hcv0 h2
              clear hcv
              go_wp2_with fail
              go_ret2
              exact ⟨HI.out.only.drewN _, by rw [HX.out]; exact ⟨i, rfl, hile, rfl, HI.out.rd.drewN _⟩⟩
            · clear hcv0
              go_wp2_with fail
              go_ret2
              exact ⟨HI.out.only.drewN _, by rw [HX.out]; exact ⟨i, rfl, hile, rfl, HI.out.rd.drewN _⟩⟩
    · have hlt : i < l.length := by
        rcases Nat.lt_or_ge i l.length with h | h
        · exact h
        · exact absurd (Or.inl (List.drop_eq_nil_of_le h)) hst
      have hlt2 : i < (Nm.bs l).size := by rw [hsz]; exact hlt
      have t1 : decide ((i : Int) < (l.length : Int)) = true := decide_eq_true (by omega)
      obtain ⟨c, hc, hget⟩ : ∃ b : UInt8, l[i]? = some b ∧ ((Nm.bs l)[i]'hlt2).toNat = b.toNat := ⟨_, List.getElem?_eq_getElem hlt, by rw [bs_get]⟩
      have i0' : (0 : Int) ≤ (i : Int) := by omega
      have i1' : (i : Int) < ((Nm.bs l).size : Int) := by omega
      have hdr := hd_drop hc
      have hsep : ¬ (c = 44 ∨ c = 43) := by
        rw [hdr] at hst
        rintro (rfl | rfl)
        · exact hst (Or.inr ⟨_, Or.inl rfl⟩)
        · exact hst (Or.inr ⟨_, Or.inr rfl⟩)
      have q44 : ((c.toNat : Int) != 44) = true := by
        rw [bne_iff_ne]; intro h
        exact hsep (Or.inl (UInt8.toNat_inj.1 (by have : (44 : UInt8).toNat = 44 := rfl; omega)))
      have q43 : ((c.toNat : Int) != 43) = true := by
        rw [bne_iff_ne]; intro h
        exact hsep (Or.inr (UInt8.toNat_inj.1 (by have : (43 : UInt8).toNat = 43 := rfl; omega)))
      have heq := HI.out.eq
      rw [hdr, hexs_go hsep, ← hdr] at heq
      have hpk : peekN l i = c.toNat := by unfold peekN; rw [hc]
      have HPK := Lib.hid hpk
      have HEQ := Lib.hid heq
      clear hst heq hdr hsep hc hpk
      have HP := Lib.hid (fun n : Nat => pair_any (wr.drewN n) R l i o (HI.out.rd.drewN n) hile hl)
      go_wp2_with fail
      go_quiet (fail)
      go_wp2_with fail
      refine (HP.out _).mono ?_
      rintro e w2 ⟨hon2, hm⟩
      rcases hp : Sp.pair (l.drop i) with _ | ⟨y, s2⟩
      · rw [hp] at hm
        obtain ⟨rfl, hrd2⟩ := hm
        have hx : x = if c = 32 ∨ c = 59 then .opn else .bad := by rw [HEQ.out, hp]
        have HX := Lib.hid hx
        have HB := Lib.hid (And.intro hrd2 ((HI.out.only.drewN _).trans hon2))
        have HK := Lib.hid (fun w3 (h3 : NRd w3 R l i o) => peek_any w3 R l i o h3 hile hl)
        rw [HPK.out] at HK
        have c2 : w2.cell? ⟨R, 2, none⟩ = some (.bool o) := blockCell hrd2 2
        have f2 : w2.frozen? ⟨R, 2, none⟩ = false := blockFrozen hrd2 2
        have q32 := u8_eqB c 32
        have q59 := u8_eqB c 59
        simp only [show (59 : UInt8).toNat = 59 from rfl, show (32 : UInt8).toNat = 32 from rfl, Int.cast_ofNat_Int] at q32 q59
        clear hrd2 hon2 hp hx HP
        cases o with
        | true =>
          have hx2 : Hid (VOut R l true x (.returned (.tuple #[.string ⟨#[]⟩, .bool false])) (w2.setCell ⟨R, 2, none⟩ (.bool true))) := Lib.hid (by
            rw [HX.out]
            split
            · exact ⟨_, _, i, rfl, hile, HB.out.1.opened true⟩
            · exact ⟨_, i, rfl, hile, HB.out.1.opened true⟩)
          go_wp2_with fail
          go_ret2
          exact ⟨HB.out.2.setOne 2 _, hx2.out⟩
        | false =>
          have hs2 : (c = 32 ∧ decide (c = 32) = true) ∨ (c = 59 ∧ decide (c = 32) = false ∧ decide (c = 59) = true) ∨ (¬ (c = 32 ∨ c = 59) ∧ decide (c = 32) = false ∧ decide (c = 59) = false) := by
            by_cases h1 : c = 32
            · exact Or.inl ⟨h1, decide_eq_true h1⟩
            · by_cases h2 : c = 59
              · exact Or.inr (Or.inl ⟨h2, decide_eq_false h1, decide_eq_true h2⟩)
              · exact Or.inr (Or.inr ⟨by rintro (h | h); exact h1 h; exact h2 h, decide_eq_false h1, decide_eq_false h2⟩)
          rcases hs2 with ⟨h, e1⟩ | ⟨h, e1, e2⟩ | ⟨h, e1, e2⟩
          · rw [e1] at q32
            have hx2 : Hid (x = .opn) := Lib.hid (by rw [HX.out, if_pos (Or.inl h)])
            clear h e1 q59
            go_wp2_with fail
            refine (HK.out _ HB.out.1).mono ?_
            rintro e w3 ⟨rfl, k, rfl⟩
            go_wp2_with fail
            go_ret2
            exact ⟨(HB.out.2.drewN _).setOne 2 _, by rw [hx2.out]; exact ⟨_, _, i, rfl, hile, (HB.out.1.drewN _).opened true⟩⟩
          · rw [e1] at q32
            rw [e2] at q59
            have hx2 : Hid (x = .opn) := Lib.hid (by rw [HX.out, if_pos (Or.inr h)])
            clear h e1 e2
            go_wp2_with fail
            refine (HK.out _ HB.out.1).mono ?_
            rintro e w3 ⟨rfl, k, rfl⟩
            go_wp2_with fail
            refine (HK.out _ (HB.out.1.drewN _)).mono ?_
            rintro e w3 ⟨rfl, k2, rfl⟩
            go_wp2_with fail
            go_ret2
            exact ⟨(HB.out.2.drewN _).setOne 2 _, by rw [hx2.out]; exact ⟨_, _, i, rfl, hile, (HB.out.1.drewN _).opened true⟩⟩
          · rw [e1] at q32
            rw [e2] at q59
            have hx2 : Hid (x = .bad) := Lib.hid (by rw [HX.out, if_neg h])
            clear h e1 e2
            go_wp2_with fail
            refine (HK.out _ HB.out.1).mono ?_
            rintro e w3 ⟨rfl, k, rfl⟩
            go_wp2_with fail
            refine (HK.out _ (HB.out.1.drewN _)).mono ?_
            rintro e w3 ⟨rfl, k2, rfl⟩
            go_wp2_with fail
            go_ret2
            exact ⟨(HB.out.2.drewN _).setOne 2 _, by rw [hx2.out]; exact ⟨_, i, rfl, hile, (HB.out.1.drewN _).opened false⟩⟩
      · rw [hp] at hm
        obtain ⟨rfl, hrd2⟩ := hm
        obtain ⟨hs2, hj2⟩ := pair_drop hp
        have hx : x = Sp.hexs f (l.drop (i + 2)) (b ++ [y]) := by rw [HEQ.out, hp, ← hs2]
        have HX := Lib.hid hx
        have hon3 := (HI.out.only.drewN _).trans hon2
        have hown : w2.ownsRow w.heap.size 5 1 (.slice oo b.length cc) b.length (Lib.byteCells b) := owns_stays HI.out.own (fun g hg => hon2.block g (owns_lt HI.out.own g hg) (by have := (HI.out.own.lt g hg).1; omega))
        have HO := Lib.hid (And.intro hrd2 hon3)
        have HOW := Lib.hid hown
        have hwz := hon3.size
        clear hrd2 hon2 hp hs2 hx hown hon3 HP
        go_wp2_with (at_builtin; refine wpList_append_own _ rfl _ _ 51 rfl w.heap.size 5 y0 (.int .u8 0) 1 1 Tryz.underlying51 hy hz0 hz1 hz2 rfl (by decide) _ _ _ rfl (HOW.out.alloc _) ⟨w2.heap.size, 0, none⟩ 1 1 [.int .u8 (y.toNat : Int)] rfl rfl ?c1 ?c2 ?c3 ?c4 ?c5 ?_)
        case c1 =>
          intro j u hj
          match j, hj with
          | 0, hj => simp at hj; subst hj; simp [Addr.add]
        case c2 => intro u hu; simp at hu; subst hu; rfl
        case c3 => unfold maxLen; omega
        case c4 => omega
        case c5 => simp; omega
        intro v' w6 hown' hgrow _
        obtain ⟨o', c', rfl⟩ : ∃ o c, v' = .slice o (b.length + 1) c := by
          rcases hown'.2 with ⟨h, h0⟩ | ⟨g, cap, cur, h, _⟩
          · omega
          · exact ⟨_, _, h⟩
        have hrd6 : NRd w6 R l (i + 2) o := (hgrow.block R (by have := HO.out.1.lt; simp; omega) (fun e => by have := (HOW.out.lt R e.symm).1; omega)).trans ((Below.heap_alloc _ _ _ HO.out.1.lt).trans HO.out.1)
        have hon6 : Only (· = R) w w6 := (HO.out.2.alloc _).grown hgrow (fun k hk => (HOW.out.lt k hk).1)
        have hown6 : w6.ownsRow w.heap.size 5 1 (.slice o' (b ++ [y]).length c') (b ++ [y]).length (Lib.byteCells (b ++ [y])) := by
          rw [show Lib.byteCells (b ++ [y]) = Lib.byteCells b ++ [.int .u8 (y.toNat : Int)] by simp [Lib.byteCells], List.length_append]
          simpa using hown'
        have hv2 : Value.slice o' (b.length + 1) c' = .slice o' (b ++ [y]).length c' := by simp
        have HN := Lib.hid (And.intro hrd6 (And.intro hon6 (And.intro hown6 hv2)))
        clear hrd6 hon6 hown6 hv2 hown' hgrow
        go_wp2_with fail
        exact ⟨⟨b ++ [y], o', c', HN.out.2.2.2, Lib.hid ⟨i + 2, f, hj2, by have := HI.out.fu; omega, HX.out, by simp; omega, HN.out.1, HN.out.2.1, HN.out.2.2.1⟩⟩, meas HN.out.1 hat (by omega) (by omega)⟩
end Go.Proofs.YtjmahgefijncaaaGreatFmt

