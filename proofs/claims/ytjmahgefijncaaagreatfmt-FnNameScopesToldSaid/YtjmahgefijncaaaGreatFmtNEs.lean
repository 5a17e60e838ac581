/- nameEscape. -/
import Derived.Test.YtjmahgefijncaaaGreatFmtNHx
import Derived.Deep.DeepCutAuto
namespace Go.Proofs.YtjmahgefijncaaaGreatFmt
open Go Go.RowKit set_option linter.unusedVariables false set_option linter.unusedSimpArgs false

def mustN (n : Nat) (f l : Bool) : Bool := n == 34 || n == 43 || n == 44 || n == 59 || n == 60 || n == 62 || n == 92 || n == 0 || (n == 32 && (f || l)) || (n == 35 && f)
theorem must_nat (c : UInt8) (f l : Bool) : NT.must c f l = mustN c.toNat f l := by
  have h : ∀ d : UInt8, (c == d) = (c.toNat == d.toNat) := fun d => by
    rw [Bool.eq_iff_iff, beq_iff_eq, beq_iff_eq]
    exact ⟨fun e => by rw [e], fun e => UInt8.toNat_inj.1 e⟩
  unfold NT.must mustN
  rw [h 34, h 43, h 44, h 59, h 60, h 62, h 92, h 0, h 32, h 35]
  rfl

def hexL : List UInt8 := [48, 49, 50, 51, 52, 53, 54, 55, 56, 57, 97, 98, 99, 100, 101, 102, 48, 49, 50, 51, 52, 53, 54, 55, 56, 57, 65, 66, 67, 68, 69, 70]
def hx32 (n : Nat) : UInt8 := (hexL[n]?).getD 0
theorem and16_all : ∀ n : Nat, n < 256 → bits .and .u8 (n : Int) 16 = (if (n / 16) % 2 == 1 then 16 else 0) := by decide +kernel
theorem and16 (how : UInt8) : ∃ k : Nat, bits .and .u8 (how.toNat : Int) 16 = (k : Int) ∧ k = if NT.big how then 16 else 0 := by
  have h := and16_all how.toNat (UInt8.toNat_lt how)
  have e : NT.big how = ((how.toNat / 16) % 2 == 1) := by
    unfold NT.big
    rw [Bool.eq_iff_iff, beq_iff_eq, beq_iff_eq]
    have hd : ((how / 16) % 2).toNat = how.toNat / 16 % 2 := by rw [UInt8.toNat_mod, UInt8.toNat_div]; rfl
    rw [← hd]
    exact ⟨fun e => by rw [e]; rfl, fun e => UInt8.toNat_inj.1 (by rw [e]; rfl)⟩
  rw [e]
  split at h
  · rename_i h1; exact ⟨16, h, by rw [if_pos h1]⟩
  · rename_i h1; exact ⟨0, h, by rw [if_neg h1]⟩
theorem hx_all : ∀ n, n < 16 → ∀ b : Bool, NT.hx b n.toUInt8 = hx32 ((if b then 16 else 0) + n) := by decide +kernel
theorem hx_hi32 (b : Bool) (c : UInt8) : NT.hx b (c / 16) = hx32 ((if b then 16 else 0) + c.toNat / 16) := by
  have := UInt8.toNat_lt c
  have e1 : ((c / 16).toNat) = c.toNat / 16 := by rw [UInt8.toNat_div]; rfl
  rw [← hx_all _ (by omega) b, ← e1, NT.toNat_toU8]
theorem hx_lo32 (b : Bool) (c : UInt8) : NT.hx b (c % 16) = hx32 ((if b then 16 else 0) + c.toNat % 16) := by
  have e1 : ((c % 16).toNat) = c.toNat % 16 := by rw [UInt8.toNat_mod]; rfl
  rw [← hx_all _ (by omega) b, ← e1, NT.toNat_toU8]
theorem hexL_cut (n : Nat) (h : n < 32) : (⟨#[48, 49, 50, 51, 52, 53, 54, 55, 56, 57, 97, 98, 99, 100, 101, 102, 48, 49, 50, 51, 52, 53, 54, 55, 56, 57, 65, 66, 67, 68, 69, 70]⟩ : ByteArray).extract n 32 = Nm.bs (hexL.drop n) := bs_from hexL n
theorem hexL_one (n : Nat) (h : n < 32) : (Nm.bs (hexL.drop n)).extract 0 1 = Nm.bs [hx32 n] := by
  rw [bs_to]
  have hl : n < hexL.length := h
  rw [List.drop_eq_getElem_cons hl, List.take_succ_cons, List.take_zero]
  unfold hx32
  rw [List.getElem?_eq_getElem hl]; rfl
theorem nat_beq (n k : Nat) : ((n : Int) == (k : Int)) = (n == k) := by rw [Bool.eq_iff_iff, beq_iff_eq, beq_iff_eq]; omega

set_option maxRecDepth 100000 in
set_option maxHeartbeats 16000000 in
theorem escape_any (v : List UInt8) (i : Nat) (c how : UInt8) (hv : v[i]? = some c) (hl : v.length < 1000000000) (w : World) :
    Calls Tryz.prog 55 #[.string (Nm.bs v), .int .i64 i, .int .u8 (how.toNat : Int)] w fun e w' => e = .returned (.string (Nm.bs (NT.escB c (i == 0) (i + 1 == v.length) how))) ∧ Below w.heap.size w w' := by
  have hsz := bs_size v
  have hi : i < v.length := by
    rcases Nat.lt_or_ge i v.length with h | h
    · exact h
    · rw [List.getElem?_eq_none h] at hv; cases hv
  have hi2 : i < (Nm.bs v).size := by omega
  have hget : ((Nm.bs v)[i]'hi2).toNat = c.toNat := by
    rw [bs_get]; rw [List.getElem?_eq_getElem hi] at hv; rw [Option.some.inj hv]
  have i0 : (0 : Int) ≤ (i : Int) := by omega
  have i1 : (i : Int) < ((Nm.bs v).size : Int) := by omega
  have q1 : ((i : Int) == 0) = (i == 0) := by
    rw [Bool.eq_iff_iff, beq_iff_eq, beq_iff_eq]; omega
  have q2 : ((i : Int) == (v.length : Int) - 1) = (i + 1 == v.length) := by
    rw [Bool.eq_iff_iff, beq_iff_eq, beq_iff_eq]; omega
  generalize (i == 0) = f at *
  generalize (i + 1 == v.length) = l at *
  have hm := must_nat c f l
  have HSP := Lib.hid (fun w => special_any c w)
  have HM := Lib.hid hm
  clear hm hv
  go_enter Tryz.func55, Tryz.ntmps55
  go_upto_region 3 with (fail)
  go_cut [7, 8, 9, 10] from 12 to 68 (fun t7 t8 t9 t10 wx => t7 = .int .u8 (c.toNat : Int) ∧ t8 = .bool f ∧ t9 = .bool l ∧ t10 = .bool (mustN c.toNat f l) ∧ wx = w)
  case first =>
    go_wp2_with fail
    all_goals
      go_meet
      refine ⟨by simp_all, by simp_all, by simp_all, ?_, rfl⟩
      rw [Value.bool.injEq]
      have z34 : ((c.toNat : Int) == 34) = (c.toNat == 34) := nat_beq c.toNat 34
      have z43 : ((c.toNat : Int) == 43) = (c.toNat == 43) := nat_beq c.toNat 43
      have z44 : ((c.toNat : Int) == 44) = (c.toNat == 44) := nat_beq c.toNat 44
      have z59 : ((c.toNat : Int) == 59) = (c.toNat == 59) := nat_beq c.toNat 59
      have z60 : ((c.toNat : Int) == 60) = (c.toNat == 60) := nat_beq c.toNat 60
      have z62 : ((c.toNat : Int) == 62) = (c.toNat == 62) := nat_beq c.toNat 62
      have z92 : ((c.toNat : Int) == 92) = (c.toNat == 92) := nat_beq c.toNat 92
      have z0 : ((c.toNat : Int) == 0) = (c.toNat == 0) := nat_beq c.toNat 0
      have z32 : ((c.toNat : Int) == 32) = (c.toNat == 32) := nat_beq c.toNat 32
      have z35 : ((c.toNat : Int) == 35) = (c.toNat == 35) := nat_beq c.toNat 35
      first
        | (simp_all [mustN, z34, z43, z44, z59, z60, z62, z92, z0, z32, z35]; done)
        | (have y32 : (c.toNat == 32) = false := by rw [beq_eq_false_iff_ne]; omega
           have y35 : (c.toNat == 35) = false := by rw [beq_eq_false_iff_ne]; omega
           simp [mustN, z34, z43, z44, z59, z60, z62, z92, z0, z32, z35, y32, y35])
  case rest =>
    obtain ⟨rfl, rfl, rfl, rfl, rfl⟩ := hcut
    have hcl := UInt8.toNat_lt c
    have hhl := UInt8.toNat_lt how
    obtain ⟨m, hm⟩ : ∃ m : Nat, m = how.toNat % 5 := ⟨_, rfl⟩
    have e1 : (how.toNat : Int) % 5 = (m : Int) := by omega
    have e2 : (how.toNat : Int).tmod 5 = (m : Int) := by rw [Int.tmod_eq_emod_of_nonneg (by omega)]; omega
    have hD : NT.byDigits c f l how = (m == 4 || c.toNat == 0 || (mustN c.toNat f l && !NT.spc c)) := by
      unfold NT.byDigits
      rw [must_nat, hm]
      have h4 := NT.mod5 how 4 (by decide)
      have h0 : (c == 0) = (c.toNat == 0) := by
        rw [Bool.eq_iff_iff, beq_iff_eq, beq_iff_eq]; exact ⟨fun e => by rw [e]; rfl, fun e => UInt8.toNat_inj.1 e⟩
      rw [show (how % 5 == 4) = (how.toNat % 5 == 4) from h4, h0]
    have hS : NT.bySlash c f l how = (mustN c.toNat f l || (NT.spc c && m == 3)) := by
      unfold NT.bySlash
      rw [must_nat, hm, show (how % 5 == 3) = (how.toNat % 5 == 3) from NT.mod5 how 3 (by decide)]
    have Q4 := nat_beq m 4
    have Q3 := nat_beq m 3
    have Q0 := nat_beq c.toNat 0
    simp only [Int.cast_ofNat_Int] at Q4 Q3 Q0
    generalize mustN c.toNat f l = mu at *
    generalize NT.spc c = sp at *
    generalize (m == 4) = b4 at *
    generalize (m == 3) = b3 at *
    generalize (c.toNat == 0) = b0 at *
    have HD := Lib.hid hD
    have HS := Lib.hid hS
    clear hD hS HM hm hget i1 i0 q1 q2
    clear e1
    obtain ⟨w0, rfl⟩ : ∃ w0, w0 = wc := ⟨_, rfl⟩
    go_upto_region 4 with (fail)
    go_cut [69] from 70 to 84 (fun t69 wx => t69 = .bool (b4 || b0 || (mu && !sp)) ∧ Hid (Below w0.heap.size w0 wx))
    case first =>
      cases b4 with
      | true =>
        go_wp2_with fail
        go_meet
        exact ⟨rfl, Lib.hid (Below.refl _ _)⟩
      | false =>
        cases b0 with
        | true =>
          go_wp2_with fail
          go_meet
          exact ⟨rfl, Lib.hid (Below.refl _ _)⟩
        | false =>
          cases mu with
          | false =>
            go_wp2_with fail
            go_meet
            exact ⟨rfl, Lib.hid (Below.refl _ _)⟩
          | true =>
            go_wp2_with fail
            refine (HSP.out w0).mono ?_
            rintro e w1 ⟨rfl, hb1⟩
            have HB1 := Lib.hid hb1
            clear hb1
            go_wp2_with fail
            go_meet
            exact ⟨by cases sp <;> rfl, HB1⟩
    case rest =>
      obtain ⟨rfl, HB1⟩ := hcut
      have hs1 := HB1.out.size
      have HDD := Lib.hid HD.out
      clear HD
      generalize (b4 || b0 || (mu && !sp)) = D at *
      cases D with
      | true =>
        obtain ⟨k, hk, hk2⟩ := and16 how
        obtain ⟨a, ha⟩ : ∃ a : Nat, a = c.toNat / 16 := ⟨_, rfl⟩
        obtain ⟨b, hb⟩ : ∃ b : Nat, b = c.toNat % 16 := ⟨_, rfl⟩
        have h1 : (c.toNat : Int) / 16 = (a : Int) := by omega
        have h2 : (c.toNat : Int) % 16 = (b : Int) := by omega
        have ha16 : a < 16 := by omega
        have hb16 : b < 16 := by omega
        have hk32 : k ≤ 16 := by rw [hk2]; split <;> omega
        have hres : NT.escB c f l how = [92, hx32 (k + a), hx32 (k + b)] := by
          unfold NT.escB
          rw [HDD.out, if_pos rfl, hk2, ha, hb]
          rw [hx_hi32, hx_lo32]
        have hres2 : NT.escB c f l how = [92] ++ [hx32 (k + a)] ++ [hx32 (k + b)] := hres
        have HRES := Lib.hid hres2
        have s1 : (0 : Int) ≤ (k : Int) + (a : Int) := by omega
        have s2 : (k : Int) + (a : Int) ≤ 32 := by omega
        have s3 : ((k : Int) + (a : Int)).toNat = k + a := by omega
        have s4 := hexL_cut (k + a) (by omega)
        have s5 := hexL_one (k + a) (by omega)
        have s6 : (Nm.bs (hexL.drop (k + a))).size = 32 - (k + a) := by rw [bs_size, List.length_drop]; rfl
        have s7 : (1 : Int) ≤ ((32 - (k + a) : Nat) : Int) := by omega
        have r1 : (0 : Int) ≤ (k : Int) + (b : Int) := by omega
        have r2 : (k : Int) + (b : Int) ≤ 32 := by omega
        have r3 : ((k : Int) + (b : Int)).toNat = k + b := by omega
        have r4 := hexL_cut (k + b) (by omega)
        have r5 := hexL_one (k + b) (by omega)
        have r6 : (Nm.bs (hexL.drop (k + b))).size = 32 - (k + b) := by rw [bs_size, List.length_drop]; rfl
        have r7 : (1 : Int) ≤ ((32 - (k + b) : Nat) : Int) := by omega
        have z1 : (Nm.bs [hx32 (k + a)]).size = 1 := rfl
        have z2 : (Nm.bs [hx32 (k + b)]).size = 1 := rfl
        clear hres hres2 ha hb hk2
        go_wp2_with fail
        go_region
        go_wp2_with fail
        go_ret
        exact ⟨by rw [HRES.out, ← bs_app, ← bs_app]; rfl, HB1.out.drew⟩
      | false =>
        go_upto_region 7 with (fail)
        go_cut [105] from 106 to 115 (fun t105 wx => t105 = .bool (mu || (sp && b3)) ∧ Hid (Below w0.heap.size w0 wx))
        case first =>
          cases mu with
          | true =>
            go_wp2_with fail
            go_meet
            exact ⟨rfl, HB1⟩
          | false =>
            cases sp with
            | false =>
              go_wp2_with fail
              refine (HSP.out wc).mono ?_
              rintro e w2 ⟨rfl, hb2⟩
              have HB2 := Lib.hid (HB1.out.trans (hb2.mono hs1))
              clear hb2
              go_wp2_with fail
              go_meet
              exact ⟨rfl, HB2⟩
            | true =>
              go_wp2_with fail
              refine (HSP.out wc).mono ?_
              rintro e w2 ⟨rfl, hb2⟩
              have HB2 := Lib.hid (HB1.out.trans (hb2.mono hs1))
              clear hb2
              go_wp2_with fail
              go_meet
              exact ⟨rfl, HB2⟩
        case rest =>
          obtain ⟨rfl, HB3⟩ := hcut
          obtain ⟨w3, rfl⟩ : ∃ w3, w3 = wc := ⟨_, rfl⟩
          have hs3 := HB3.out.size
          have HSS := Lib.hid HS.out
          clear HS
          generalize (mu || (sp && b3)) = S at *
          have hcv := run_convert_bytes_back (P := Tryz.prog) (w3.alloc (.cells #[.int .u8 (c.toNat : Int)] 5)) 51 9 5 ⟨w3.heap.size, 0, none⟩ 1 [c] Tryz.underlying51 Tryz.underlying5 Tryz.underlying9 (by
            intro j hj
            match j, hj with
            | 0, _ => exact blockCell (heap_alloc_new w3 (.cells #[.int .u8 (c.toNat : Int)] 5)) 0)
          have hl1 : [c].length = 1 := rfl
          rw [hl1] at hcv
          have HE := Lib.hid (HB3.out.alloc hs3 (.cells #[.int .u8 (c.toNat : Int)] 5 (0, 0)))
          cases S with
          | true =>
            have hres : NT.escB c f l how = [92] ++ [c] := by
              unfold NT.escB; rw [HDD.out, if_neg (by simp), HSS.out, if_pos rfl]; rfl
            have HRES := Lib.hid hres
            clear hres
            go_wp2_with fail
            go_ret
            exact ⟨by rw [HRES.out, ← bs_app]; rfl, HE.out⟩
          | false =>
            have hres : NT.escB c f l how = [c] := by
              unfold NT.escB; rw [HDD.out, if_neg (by simp), HSS.out, if_neg (by simp)]
            have HRES := Lib.hid hres
            clear hres
            go_wp2_with fail
            go_ret
            exact ⟨by rw [HRES.out]; rfl, HE.out⟩
end Go.Proofs.YtjmahgefijncaaaGreatFmt
