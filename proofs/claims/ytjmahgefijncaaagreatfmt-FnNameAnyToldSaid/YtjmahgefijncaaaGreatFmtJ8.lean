/- spec.nameReader: value. -/
import Derived.Test.YtjmahgefijncaaaGreatFmtJ7
import Derived.Deep.DeepCutAuto
import Derived.Deep.RegionWith
set_option linter.unusedVariables false
set_option linter.unusedSimpArgs false
namespace Go.Proofs.YtjmahgefijncaaaGreatFmt
open Go Go.RowKit

def VOut (R : Nat) (l : List UInt8) (o : Bool) (x : Sp.O (List UInt8)) (e : Ending) (w' : World) : Prop :=
  match x with
  | .opn => ∃ v b i', e = .returned (.tuple #[.string v, .bool b]) ∧ i' ≤ l.length ∧ NRd w' R l i' true
  | .bad => ∃ v i', e = .returned (.tuple #[.string v, .bool false]) ∧ i' ≤ l.length ∧ NRd w' R l i' o
  | .ok a rest => ∃ i', e = .returned (.tuple #[.string (Nm.bs a), .bool true]) ∧ i' ≤ l.length ∧ rest = l.drop i' ∧ NRd w' R l i' o

def atOf (w : World) (R : Nat) : Nat := match w.cell? ⟨R, 1, none⟩ with | some (.int _ n) => n.toNat | _ => 0
theorem NRd.atOf {w : World} {R i : Nat} {l : List UInt8} {o : Bool} (h : NRd w R l i o) : atOf w R = i := by
  have : w.cell? ⟨R, 1, none⟩ = some (.int .i64 i) := blockCell h 1
  unfold Go.Proofs.YtjmahgefijncaaaGreatFmt.atOf; rw [this]; simp

theorem meas {w wr : World} {R i j : Nat} {l : List UInt8} {o : Bool} (h : NRd w R l j o) (h0 : atOf wr R = i) (hij : i < j) (hj : j ≤ l.length) : l.length - atOf w R < l.length - atOf wr R := by
  rw [h.atOf, h0]; omega

/-- The round's head. -/
structure VI (w : World) (R : Nat) (l : List UInt8) (o : Bool) (x : Sp.O (List UInt8)) (i f : Nat) (out : List UInt8) (bl : Bool) (wr : World) : Prop where
  le : i ≤ l.length
  fu : l.length - i < f
  eq : x = Sp.value f (l.drop i) out bl
  few : out.length ≤ i
  rd : NRd wr R l i o
  only : Only (· = R) w wr

theorem spc_special (c : UInt8) : NT.spc c = Nm.special c.toNat := by
  have h : ∀ n : Nat, n < 256 → NT.spc n.toUInt8 = Nm.special n := by decide +kernel
  have := h c.toNat c.toNat_lt
  rw [show c.toNat.toUInt8 = c from UInt8.ofNat_toNat] at this
  exact this
theorem hd_drop {l : List UInt8} {i : Nat} {c : UInt8} (h : l[i]? = some c) : l.drop i = c :: l.drop (i + 1) := by
  obtain ⟨hl, e⟩ := List.getElem?_eq_some_iff.1 h
  rw [List.drop_eq_getElem_cons hl, e]
theorem u8_eqB (c d : UInt8) : ((c.toNat : Int) == (d.toNat : Int)) = decide (c = d) := by
  rw [Bool.eq_iff_iff, beq_iff_eq, decide_eq_true_eq]
  exact ⟨fun h => UInt8.toNat_inj.1 (by omega), fun h => by rw [h]⟩

theorem value_end (f : Nat) (out : List UInt8) (b : Bool) : Sp.value (f + 1) [] out b = if b then .opn else .ok out [] := rfl
theorem value_sep {f : Nat} {c : UInt8} {s out : List UInt8} {b : Bool} (h : c = 44 ∨ c = 43) : Sp.value (f + 1) (c :: s) out b = if b then .opn else .ok out (c :: s) := by
  show (if c = 44 ∨ c = 43 then _ else _) = _
  rw [if_pos h]
theorem value_odd {f : Nat} {c : UInt8} {s out : List UInt8} {b : Bool} (h : c = 59 ∨ c = 34 ∨ c = 60 ∨ c = 62 ∨ c = 0) : Sp.value (f + 1) (c :: s) out b = .opn := by
  show (if c = 44 ∨ c = 43 then _ else _) = _
  rw [if_neg (by rcases h with rfl | rfl | rfl | rfl | rfl <;> decide), if_pos h]
theorem value_plain {f : Nat} {c : UInt8} {s out : List UInt8} {b : Bool} (h1 : ¬ (c = 44 ∨ c = 43)) (h2 : ¬ (c = 59 ∨ c = 34 ∨ c = 60 ∨ c = 62 ∨ c = 0)) (h3 : c ≠ 92) : Sp.value (f + 1) (c :: s) out b = Sp.value f s (out ++ [c]) (c == 32) := by
  show (if c = 44 ∨ c = 43 then _ else _) = _
  rw [if_neg h1, if_neg h2, if_neg h3]
theorem value_slash {f : Nat} {s out : List UInt8} {b : Bool} : Sp.value (f + 1) (92 :: s) out b = match s with
      | [] => .bad
      | e :: s1 => if Nm.special e.toNat then Sp.value f s1 (out ++ [e]) false
        else match Sp.pair (e :: s1) with
          | none => .bad
          | some (b, s2) => Sp.value f s2 (out ++ [b]) false := by
  show (if (92 : UInt8) = 44 ∨ (92 : UInt8) = 43 then _ else _) = _
  rw [if_neg (by decide), if_neg (by decide), if_pos rfl]
  cases s <;> rfl

theorem row1_back (w : World) (c : UInt8) : (convert 51 9 (.slice (some ⟨w.heap.size, 0, none⟩) 1 1)).run Tryz.prog (w.alloc (.cells #[.int .u8 (c.toNat : Int)] 5)) = .ok (.string (Nm.bs [c])) (w.alloc (.cells #[.int .u8 (c.toNat : Int)] 5)) := by
  have hcv := run_convert_bytes_back (P := Tryz.prog) (w.alloc (.cells #[.int .u8 (c.toNat : Int)] 5)) 51 9 5 ⟨w.heap.size, 0, none⟩ 1 [c] Tryz.underlying51 Tryz.underlying5 Tryz.underlying9 (by
            intro j hj
            match j, hj with
            | 0, _ => exact blockCell (heap_alloc_new w (.cells #[.int .u8 (c.toNat : Int)] 5)) 0)
  exact hcv
theorem pair_drop {l : List UInt8} {j : Nat} {b : UInt8} {s2 : List UInt8} (h : Sp.pair (l.drop j) = some (b, s2)) : s2 = l.drop (j + 2) ∧ j + 2 ≤ l.length := by
  match hd : l.drop j, h with
  | p :: q :: s, h =>
    have hlen := congrArg List.length hd
    rw [List.length_drop] at hlen
    simp only [List.length_cons] at hlen
    simp only [Sp.pair] at h
    split at h
    · injection h with h
      injection h with _ h
      refine ⟨?_, by omega⟩
      rw [← h, ← List.drop_drop, hd]; rfl
    · cases h

/-- A row of one byte is made; the reader goes on. -/
theorem row1_facts {w wq : World} {R : Nat} {l : List UInt8} {j : Nat} {o : Bool} (hrd : NRd wq R l j o) (hon : Only (· = R) w wq) (d : UInt8) :
    (wq.alloc (.cells #[.int .u8 (d.toNat : Int)] 5)).cell? ⟨R, 1, none⟩ = some (.int .i64 j) ∧ (wq.alloc (.cells #[.int .u8 (d.toNat : Int)] 5)).frozen? ⟨R, 1, none⟩ = false ∧
    Hid (NRd ((wq.alloc (.cells #[.int .u8 (d.toNat : Int)] 5)).setCell ⟨R, 1, none⟩ (.int .i64 ((j : Int) + 1))) R l (j + 1) o ∧ Only (· = R) w ((wq.alloc (.cells #[.int .u8 (d.toNat : Int)] 5)).setCell ⟨R, 1, none⟩ (.int .i64 ((j : Int) + 1)))) := by
  have h := hrd.stays ((Below.refl wq.heap.size wq).alloc (Nat.le_refl _) (.cells #[.int .u8 (d.toNat : Int)] 5))
  exact ⟨blockCell h 1, blockFrozen h 1, Lib.hid ⟨h.at (j + 1), (hon.alloc _).setOne 1 _⟩⟩

set_option maxRecDepth 100000 in
set_option maxHeartbeats 16000000 in
theorem value_read (F : Nat) (w : World) (R : Nat) (l : List UInt8) (i0 : Nat) (o : Bool) (h : NRd w R l i0 o) (hi : i0 ≤ l.length) (hF : l.length < F) (hl : l.length < 4000000000) :
    Calls Tryz.prog 65 #[.pointer (some ⟨R, 0, none⟩)] w fun e w' => Only (· = R) w w' ∧ VOut R l o (Sp.value F (l.drop i0) [] false) e w' := by
  have hsz := bs_size l
  have hRlt := h.lt
  have HI0 : Hid (VI w R l o (Sp.value F (l.drop i0) [] false) i0 F [] false w) := Lib.hid ⟨hi, by omega, rfl, Nat.zero_le _, h, Only.refl _ _⟩
  clear h hF hi
  generalize Sp.value F (l.drop i0) [] false = x at *
  go_enter Tryz.func65, Tryz.ntmps65
  go_wp2_with fail
  go_loopw [4, 5] (fun t4 t5 wr => ∃ (out : List UInt8) (bl : Bool), t4 = .string (Nm.bs out) ∧ t5 = .bool bl ∧ Hid (∃ i f, VI w R l o x i f out bl wr)) (fun _ _ wr => l.length - atOf wr R)
  case atStart => exact ⟨[], false, rfl, rfl, Lib.hid ⟨i0, F, HI0.out⟩⟩
  case round =>
    clear HI0
    obtain ⟨out, bl, rfl, rfl, HE⟩ := hrel
    obtain ⟨i, f0, hvi⟩ := HE.out
    obtain ⟨f, rfl⟩ : ∃ f, f0 = f + 1 := ⟨f0 - 1, by have := hvi.fu; omega⟩
    have HI := Lib.hid hvi
    have hat := hvi.rd.atOf
    have hile := hvi.le
    have hfew := hvi.few
    have c0 : wr.cell? ⟨R, 0, none⟩ = some (.string (Nm.bs l)) := blockCell hvi.rd 0
    have c1 : wr.cell? ⟨R, 1, none⟩ = some (.int .i64 i) := blockCell hvi.rd 1
    have c2 : wr.cell? ⟨R, 2, none⟩ = some (.bool o) := blockCell hvi.rd 2
    have f1 := blockFrozen hvi.rd 1
    have f2 := blockFrozen hvi.rd 2
    clear hvi HE
    have hz1 : ∀ d : UInt8, (Nm.bs [d]).size = 1 := fun d => rfl
    have hzo := bs_size out
    by_cases hend : i = l.length
    · have t1 : decide ((i : Int) < (l.length : Int)) = false := by simp; omega
      have hx : x = if bl then .opn else .ok out [] := by
        rw [HI.out.eq, hend, List.drop_length]; rfl
      have HX := Lib.hid hx
      clear hx
      cases bl with
      | true =>
        have hr := HI.out.rd.opened true
        have HR := Lib.hid hr
        clear hr
        cases o
        all_goals
          go_wp2_with fail
          go_quiet (fail)
          go_wp2_with fail
          go_ret2
          exact ⟨(HI.out.only.drewN _).setOne 2 _, by rw [HX.out]; exact ⟨_, _, i, rfl, hile, HR.out.drewN _⟩⟩
      | false =>
        have hr := HI.out.rd.opened o
        have HR := Lib.hid hr
        clear hr
        cases o
        all_goals
          go_wp2_with fail
          go_quiet (fail)
          go_wp2_with fail
          go_ret2
          exact ⟨(HI.out.only.drewN _).setOne 2 _, by rw [HX.out]; exact ⟨i, rfl, hile, by rw [hend, List.drop_length], HR.out.drewN _⟩⟩
    · have hlt : i < l.length := by omega
      have hlt2 : i < (Nm.bs l).size := by rw [hsz]; exact hlt
      have t1 : decide ((i : Int) < (l.length : Int)) = true := by simp; omega
      obtain ⟨c, hc, hget⟩ : ∃ b : UInt8, l[i]? = some b ∧ ((Nm.bs l)[i]'hlt2).toNat = b.toNat := ⟨_, List.getElem?_eq_getElem hlt, by rw [bs_get]⟩
      have i0' : (0 : Int) ≤ (i : Int) := by omega
      have i1' : (i : Int) < ((Nm.bs l).size : Int) := by omega
      have hdr := hd_drop hc
      have heq := HI.out.eq
      rw [hdr] at heq
      have HEQ := Lib.hid heq
      have q44 := u8_eqB c 44
      have q43 := u8_eqB c 43
      have q59 := u8_eqB c 59
      have q34 := u8_eqB c 34
      have q60 := u8_eqB c 60
      have q62 := u8_eqB c 62
      have q00 := u8_eqB c 0
      have q92 := u8_eqB c 92
      have q32 := u8_eqB c 32
      simp only [show (44 : UInt8).toNat = 44 from rfl, show (43 : UInt8).toNat = 43 from rfl, show (59 : UInt8).toNat = 59 from rfl, show (34 : UInt8).toNat = 34 from rfl, show (60 : UInt8).toNat = 60 from rfl, show (62 : UInt8).toNat = 62 from rfl, show (0 : UInt8).toNat = 0 from rfl, show (92 : UInt8).toNat = 92 from rfl, show (32 : UInt8).toNat = 32 from rfl, Int.cast_ofNat_Int] at q44 q43 q59 q34 q60 q62 q00 q92 q32
      have hcnt := hc
      have HC := Lib.hid hc
      clear heq hdr hc hcnt
      by_cases hsep : c = 44 ∨ c = 43
      · have hx : x = if bl then .opn else .ok out (l.drop i) := by rw [HEQ.out, value_sep hsep, hd_drop HC.out]
        have HX := Lib.hid hx
        clear hx
        have hs2 : decide (c = 44) = true ∨ (decide (c = 44) = false ∧ decide (c = 43) = true) := by
          rcases hsep with rfl | rfl
          · exact Or.inl rfl
          · exact Or.inr ⟨rfl, rfl⟩
        clear q59 q34 q60 q62 q00 q92 q32 hsep
        generalize decide (c = 44) = b44 at *
        generalize decide (c = 43) = b43 at *
        have HR1 := Lib.hid (HI.out.rd.opened true)
        have HR2 := Lib.hid (HI.out.rd.opened o)
        rcases hs2 with rfl | ⟨rfl, rfl⟩
        all_goals
          cases bl
          all_goals
            cases o
            all_goals
              go_wp2_with fail
              go_quiet (fail)
              go_wp2_with fail
              go_quiet (fail)
              go_wp2_with fail
              go_ret2
              exact ⟨(HI.out.only.drewN _).setOne 2 _, by rw [HX.out]; first | exact ⟨_, _, i, rfl, hile, HR1.out.drewN _⟩ | exact ⟨i, rfl, hile, rfl, HR2.out.drewN _⟩⟩
      · have n44 : decide (c = 44) = false := decide_eq_false fun h => hsep (Or.inl h)
        have n43 : decide (c = 43) = false := decide_eq_false fun h => hsep (Or.inr h)
        rw [n44] at q44
        rw [n43] at q43
        clear n44 n43
        by_cases hodd : c = 59 ∨ c = 34 ∨ c = 60 ∨ c = 62 ∨ c = 0
        · have hx : x = .opn := by rw [HEQ.out, value_odd hodd]
          have HX := Lib.hid hx
          clear hx
          have hs2 : decide (c = 59) = true ∨ (decide (c = 59) = false ∧ decide (c = 34) = true) ∨ (decide (c = 59) = false ∧ decide (c = 34) = false ∧ decide (c = 60) = true) ∨ (decide (c = 59) = false ∧ decide (c = 34) = false ∧ decide (c = 60) = false ∧ decide (c = 62) = true) ∨ (decide (c = 59) = false ∧ decide (c = 34) = false ∧ decide (c = 60) = false ∧ decide (c = 62) = false ∧ decide (c = 0) = true) := by
            rcases hodd with rfl | rfl | rfl | rfl | rfl <;> decide
          clear q92 q32 hodd hsep
          have HR1 := Lib.hid (HI.out.rd.opened true)
          generalize decide (c = 59) = b59 at *
          generalize decide (c = 34) = b34 at *
          generalize decide (c = 60) = b60 at *
          generalize decide (c = 62) = b62 at *
          generalize decide (c = 0) = b0 at *
          rcases hs2 with rfl | ⟨rfl, rfl⟩ | ⟨rfl, rfl, rfl⟩ | ⟨rfl, rfl, rfl, rfl⟩ | ⟨rfl, rfl, rfl, rfl, rfl⟩
          all_goals
            go_wp2_with fail
            go_quiet (fail)
            go_wp2_with fail
            go_quiet (fail)
            go_wp2_with fail
            go_ret2
            exact ⟨(HI.out.only.drewN _).setOne 2 _, by rw [HX.out]; exact ⟨_, _, i, rfl, hile, HR1.out.drewN _⟩⟩
        · have n59 : decide (c = 59) = false := decide_eq_false fun h => hodd (by simp [h])
          have n34 : decide (c = 34) = false := decide_eq_false fun h => hodd (by simp [h])
          have n60 : decide (c = 60) = false := decide_eq_false fun h => hodd (by simp [h])
          have n62 : decide (c = 62) = false := decide_eq_false fun h => hodd (by simp [h])
          have n00 : decide (c = 0) = false := decide_eq_false fun h => hodd (by simp [h])
          rw [n59] at q59
          rw [n34] at q34
          rw [n60] at q60
          rw [n62] at q62
          rw [n00] at q00
          clear n59 n34 n60 n62 n00
          have hrow : ∀ d : UInt8, ∀ wx : World, (convert 51 9 (.slice (some ⟨wx.heap.size, 0, none⟩) 1 1)).run Tryz.prog (wx.alloc (.cells #[.int .u8 (d.toNat : Int)] 5)) = .ok (.string (Nm.bs [d])) (wx.alloc (.cells #[.int .u8 (d.toNat : Int)] 5)) := fun d wx => row1_back wx d
          have hbig : ¬ 9223372036854775807 < out.length + 1 := by omega
          by_cases h92 : c = 92
          · subst h92
            clear q44 q43 q59 q34 q60 q62 q00 q92 q32 hsep hodd
            have hx0 := HEQ.out.trans value_slash
            have hi2 : i + 1 ≤ l.length := hlt
            go_wp2_with fail
            go_quiet (fail)
            obtain ⟨n1, rfl⟩ : ∃ n1, n1 = nq := ⟨_, rfl⟩
            go_wp2_with fail
            go_quiet (fail)
            have hrd0 : NRd (((wr.drewN n1).drewN nq).setCell ⟨R, 1, none⟩ (.int .i64 ((i : Int) + 1))) R l (i + 1) o := HI.out.rd.at (i + 1)
            have hon0 : Only (· = R) w (((wr.drewN n1).drewN nq).setCell ⟨R, 1, none⟩ (.int .i64 ((i : Int) + 1))) := ((HI.out.only.drewN _).drewN _).setOne 1 _
            rw [World.drewN_drewN] at hrd0 hon0
            have HRD := Lib.hid (And.intro hrd0 hon0)
            clear hrd0 hon0
            go_wp2_with fail
            refine (peek_any _ R l (i + 1) o HRD.out.1 hi2 hl).mono ?_
            rintro e w1 ⟨rfl, hw1⟩
            have hrd1 : NRd w1 R l (i + 1) o := by obtain ⟨k, rfl⟩ := hw1; exact HRD.out.1.drewN k
            have hon1 : Only (· = R) w w1 := by obtain ⟨k, rfl⟩ := hw1; exact HRD.out.2.drewN k
            clear hw1 HRD
            have d0 : w1.cell? ⟨R, 0, none⟩ = some (.string (Nm.bs l)) := blockCell hrd1 0
            have d1 : w1.cell? ⟨R, 1, none⟩ = some (.int .i64 ((i : Int) + 1)) := blockCell hrd1 1
            have HA := Lib.hid (And.intro hrd1 hon1)
            clear hrd1 hon1 c0 c1 c2 f1 f2
            by_cases hend2 : i + 1 = l.length
            · have t2 : decide ((i : Int) + 1 < (l.length : Int)) = false := decide_eq_false (by omega)
              have hdn : l.drop (i + 1) = [] := List.drop_eq_nil_of_le (by omega)
              rw [hdn] at hx0
              have HX := Lib.hid hx0
              clear hx0
              go_wp2_with fail
              go_quiet (fail)
              go_wp2_with fail
              refine (pair_any _ R l (i + 1) o (HA.out.1.drewN _) hi2 hl).mono ?_
              rw [hdn]
              rintro e w2 ⟨hon2, he, hrd2⟩
              replace he : e = .returned (.tuple #[.int .u8 0, .bool false]) := he
              replace hrd2 : NRd w2 R l (i + 1) o := hrd2
              subst he
              have HB := Lib.hid (And.intro hrd2 ((HA.out.2.drewN _).trans hon2))
              clear hrd2 hon2
              go_wp2_with fail
              go_ret2
              exact ⟨HB.out.2, by rw [HX.out]; exact ⟨_, i + 1, rfl, hi2, HB.out.1⟩⟩
            · have t2 : decide ((i : Int) + 1 < (l.length : Int)) = true := decide_eq_true (by omega)
              have hlt' : i + 1 < l.length := by omega
              obtain ⟨ch, hch⟩ : ∃ b : UInt8, l[i + 1]? = some b := ⟨_, List.getElem?_eq_getElem hlt'⟩
              have hdn := hd_drop hch
              have hpk : peekN l (i + 1) = ch.toNat := by unfold peekN; rw [hch]
              rw [hpk]
              rw [hdn] at hx0
              have hx1 : x = if Nm.special ch.toNat then Sp.value f (l.drop (i + 1 + 1)) (out ++ [ch]) false else match Sp.pair (l.drop (i + 1)) with
                | none => .bad
                | some (b, s2) => Sp.value f s2 (out ++ [b]) false := by rw [hdn]; exact hx0
              have hsp := spc_special ch
              have HSP := Lib.hid (fun w => special_any ch w)
              rw [← hsp] at hx1
              have HX := Lib.hid hx1
              clear hx0 hx1 hsp hdn hpk hch
              cases hs : NT.spc ch with
              | true =>
                rw [hs] at HSP HX
                go_wp2_with fail
                go_region_with ((go_at_call 79; refine (HSP.out _).mono ?_; rintro e wn ⟨rfl, hbn⟩))
                all_goals
                  have hrdn : NRd wn R l (i + 1) o := (show NRd w1.drew R l (i + 1) o from HA.out.1).stays hbn
                  have honn : Only (· = R) w wn := HA.out.2.drew.trans (Only.ofKeep (Keep.ofBelow (R := R) hbn))
                  obtain ⟨c1q, f1q, HQ⟩ := row1_facts hrdn honn ch
                  have hcv := hrow ch wn
                  clear hrow hbn hrdn honn
                  go_wp2_with fail
                  exact ⟨⟨_, _, by rw [← bs_app], rfl, Lib.hid ⟨i + 1 + 1, f, by omega, by have := HI.out.fu; omega, by rw [HX.out]; exact if_pos trivial, by simp; omega, HQ.out.1, HQ.out.2⟩⟩, meas HQ.out.1 hat (by omega) (by omega)⟩
              | false =>
                rw [hs] at HSP HX
                go_wp2_with fail
                go_region_with ((go_at_call 79; refine (HSP.out _).mono ?_; rintro e wn ⟨rfl, hbn⟩))
                all_goals
                  have hrdn : NRd wn R l (i + 1) o := (show NRd w1.drew R l (i + 1) o from HA.out.1).stays hbn
                  have honn : Only (· = R) w wn := HA.out.2.drew.trans (Only.ofKeep (Keep.ofBelow (R := R) hbn))
                  have HN := Lib.hid (And.intro hrdn honn)
                  clear hbn hrdn honn
                  go_wp2_with fail
                  refine (pair_any _ R l (i + 1) o HN.out.1 hi2 hl).mono ?_
                  rintro e w2 ⟨hon2, hm⟩
                  rcases hp : Sp.pair (l.drop (i + 1)) with _ | ⟨b, s2⟩
                  · rw [hp] at hm
                    obtain ⟨rfl, hrd2⟩ := hm
                    have HB := Lib.hid (And.intro hrd2 (HN.out.2.trans hon2))
                    have HX2 : Hid (x = .bad) := Lib.hid (by rw [HX.out, if_neg (by simp), hp])
                    clear hrd2 hon2 hp
                    go_wp2_with fail
                    go_ret2
                    exact ⟨HB.out.2, by rw [HX2.out]; exact ⟨_, i + 1, rfl, hi2, HB.out.1⟩⟩
                  · rw [hp] at hm
                    obtain ⟨rfl, hrd2⟩ := hm
                    obtain ⟨hs2, hj2⟩ := pair_drop hp
                    have HX2 : Hid (x = Sp.value f (l.drop (i + 1 + 2)) (out ++ [b]) false) := Lib.hid (by rw [HX.out, if_neg (by simp), hp, ← hs2])
                    have HB := Lib.hid (And.intro (hrd2.stays ((Below.refl w2.heap.size w2).alloc (Nat.le_refl _) (.cells #[.int .u8 (b.toNat : Int)] 5))) ((HN.out.2.trans hon2).alloc (.cells #[.int .u8 (b.toNat : Int)] 5)))
                    have hcv := hrow b w2
                    clear hrow hrd2 hon2 hp hs2
                    go_wp2_with fail
                    exact ⟨⟨_, _, by rw [← bs_app], rfl, Lib.hid ⟨i + 1 + 2, f, hj2, by have := HI.out.fu; omega, HX2.out, by simp; omega, HB.out.1, HB.out.2⟩⟩, meas HB.out.1 hat (by omega) (by omega)⟩
          · have n92 : decide (c = 92) = false := decide_eq_false h92
            rw [n92] at q92
            have hx : x = Sp.value f (l.drop (i + 1)) (out ++ [c]) (c == 32) := by rw [HEQ.out, value_plain hsep hodd h92]
            have hnx : ∀ w5, NRd w5 R l (i + 1) o → Only (· = R) w w5 → VI w R l o x (i + 1) f (out ++ [c]) (decide (c = 32)) w5 := fun w5 h1 h2 =>
              ⟨by omega, by have := HI.out.fu; omega, by rw [hx]; congr 1, by simp; omega, h1, h2⟩
            have HNX := Lib.hid hnx
            clear hx hnx n92 h92 hodd hsep
            generalize decide (c = 32) = b32 at *
            have hcl := UInt8.toNat_lt c
            go_wp2_with fail
            go_quiet (fail)
            obtain ⟨n1, rfl⟩ : ∃ n1, n1 = nq := ⟨_, rfl⟩
            go_wp2_with fail
            go_quiet (fail)
            have hrd : NRd ((wr.drewN n1).drewN nq) R l i o := HI.out.rd
            have hon : Only (· = R) w ((wr.drewN n1).drewN nq) := (HI.out.only.drewN _).drewN _
            generalize (wr.drewN n1).drewN nq = wq at hrd hon ⊢
            obtain ⟨c1q, f1q, HQ⟩ := row1_facts hrd hon c
            have hcv := hrow c wq
            clear hrow
            go_wp2_with fail
            exact ⟨⟨_, _, by rw [← bs_app], rfl, Lib.hid ⟨i + 1, f, HNX.out _ HQ.out.1 HQ.out.2⟩⟩, meas HQ.out.1 hat (by omega) (by omega)⟩
end Go.Proofs.YtjmahgefijncaaaGreatFmt

