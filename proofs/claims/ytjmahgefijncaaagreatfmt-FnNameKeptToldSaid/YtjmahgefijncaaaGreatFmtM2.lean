/- encodeString. -/
import Derived.Test.YtjmahgefijncaaaGreatFmtM1
set_option linter.unusedVariables false
set_option linter.unusedSimpArgs false
namespace Go.Proofs.YtjmahgefijncaaaGreatFmt
open Go Go.RowKit

/-- The round's head. -/
structure EcI (isV : Bool) (v : List UInt8) (w : World) (i : Nat) (acc : List UInt8) (wr : World) : Prop where
  le : i ≤ v.length
  text : acc ++ Kp.encGo isV (i == 0) (v.drop i) = Kp.encGo isV true v
  few : acc.length ≤ 3 * i
  bld : Bld w.heap.size w.heap.size (Lib.byteCells acc) wr
  bel : Below w.heap.size w wr

theorem encB_len (isV f l : Bool) (c : UInt8) : (Kp.encB isV f l c).length ≤ 3 := by
  rcases Kp.encB_cases isV f l c with ⟨h, _⟩ | h | ⟨h, _⟩ <;> rw [h] <;> simp
theorem encGo_at {isV : Bool} {v : List UInt8} {i : Nat} {c : UInt8} (h : v[i]? = some c) : Kp.encGo isV (i == 0) (v.drop i) = Kp.encB isV (i == 0) (i + 1 == v.length) c ++ Kp.encGo isV (i + 1 == 0) (v.drop (i + 1)) := by
  obtain ⟨hl, e⟩ := List.getElem?_eq_some_iff.1 h
  rw [List.drop_eq_getElem_cons hl, e, Kp.encGo]
  have e1 : (v.drop (i + 1)).isEmpty = (i + 1 == v.length) := by
    rw [Bool.eq_iff_iff, List.isEmpty_iff, List.drop_eq_nil_iff, beq_iff_eq]; omega
  rw [e1]; rfl
theorem EcI.step {isV : Bool} {v : List UInt8} {w wr w' : World} {i : Nat} {acc : List UInt8} {c : UInt8} (h : EcI isV v w i acc wr) (hc : v[i]? = some c) (hb : Bld w.heap.size w.heap.size (Lib.byteCells (acc ++ Kp.encB isV (i == 0) (i + 1 == v.length) c)) w') (hk : Below w.heap.size wr w') :
    EcI isV v w (i + 1) (acc ++ Kp.encB isV (i == 0) (i + 1 == v.length) c) w' := by
  have hl := (List.getElem?_eq_some_iff.1 hc).1
  refine ⟨hl, ?_, ?_, hb, h.bel.trans hk⟩
  · rw [List.append_assoc, ← encGo_at hc]; exact h.text
  · have := h.few
    have := encB_len isV (i == 0) (i + 1 == v.length) c
    rw [List.length_append]; omega

/-- The ways of encB by numbers. -/
def encN (isV f l : Bool) (n : Nat) : Nat :=
  if f && (n == 32 || n == 35) then 1
  else if l && n == 32 then 1
  else if n == 34 || n == 43 || n == 44 || n == 59 || n == 60 || n == 62 || n == 92 then 1
  else if !isV && n == 61 then 1
  else if decide (n < 32) || decide (126 < n) then 2
  else 0
theorem encB_N (isV f l : Bool) (c : UInt8) : Kp.encB isV f l c = (if encN isV f l c.toNat = 1 then [92, c] else if encN isV f l c.toNat = 2 then [92, Kp.hxl (c.toNat / 16), Kp.hxl (c.toNat % 16)] else [c]) := by
  have hb : ∀ k : UInt8, (c == k) = (c.toNat == k.toNat) := fun k => by
    rw [Bool.eq_iff_iff, beq_iff_eq, beq_iff_eq]
    exact ⟨fun h => by rw [h], fun h => UInt8.toNat_inj.1 h⟩
  unfold Kp.encB encN
  rw [hb 32, hb 35, hb 34, hb 43, hb 44, hb 59, hb 60, hb 62, hb 92, hb 61]
  simp only [show (32 : UInt8).toNat = 32 from rfl, show (35 : UInt8).toNat = 35 from rfl, show (34 : UInt8).toNat = 34 from rfl, show (43 : UInt8).toNat = 43 from rfl, show (44 : UInt8).toNat = 44 from rfl, show (59 : UInt8).toNat = 59 from rfl, show (60 : UInt8).toNat = 60 from rfl, show (62 : UInt8).toNat = 62 from rfl, show (92 : UInt8).toNat = 92 from rfl, show (61 : UInt8).toNat = 61 from rfl]
  split
  · rfl
  · split
    · rfl
    · split
      · rfl
      · split
        · rfl
        · split <;> rfl

set_option maxRecDepth 100000 in
set_option maxHeartbeats 16000000 in
theorem encode_any (isV : Bool) (v : List UInt8) (hl : v.length < 10000000) (w : World) :
    Calls Tryz.prog 106 #[.string (Nm.bs v), .bool isV] w fun e w' => e = .returned (.string (Nm.bs (Kp.encGo isV true v))) ∧ Below w.heap.size w w' := by
  have hsz := bs_size v
  have H0 : Hid (EcI isV v w 0 [] (w.alloc (.cells #[.pointer none, .slice none 0 0] 130 (0, 0)))) := Lib.hid ⟨Nat.zero_le _, by simp, Nat.le_refl _, Lib.fresh_isBuilder 130 5 w, (Below.refl _ w).alloc (Nat.le_refl _) _⟩
  go_enter Tryz.func106, Tryz.ntmps106
  go_wp2_with fail
  go_loopw [8] (fun t8 wr => ∃ (i : Nat) (acc : List UInt8), t8 = .int .i64 i ∧ Hid (EcI isV v w i acc wr)) (fun t8 _ => v.length - (intOf t8).toNat)
  case atStart => exact ⟨0, [], rfl, H0⟩
  case round =>
    clear H0
    obtain ⟨i, acc, rfl, HI⟩ := hrel
    have hile := HI.out.le
    have hfew := HI.out.few
    have hwz := HI.out.bel.size
    by_cases hend : i = v.length
    · have t1 : decide ((i : Int) < (v.length : Int)) = false := by simp; omega
      have hacc : acc = Kp.encGo isV true v := by
        have := HI.out.text
        rw [hend, List.drop_length, Kp.encGo, List.append_nil] at this
        exact this
      have HS := Lib.hid (Tryz.Builder_String_any w.heap.size w.heap.size acc wr HI.out.bld (by omega))
      have HACC := Lib.hid hacc
      have HB := Lib.hid HI.out.bel
      clear hacc HI
      go_wp2_with fail
      refine HS.out.mono ?_
      rintro e w5 ⟨rfl, hb5⟩
      have HB5 := Lib.hid (HB.out.trans (hb5.mono (by omega)))
      clear hb5 HS
      go_wp2_with fail
      go_ret
      exact ⟨by rw [← HACC.out]; rfl, HB5.out⟩
    · have hlt : i < v.length := by omega
      have hlt2 : i < (Nm.bs v).size := by rw [hsz]; exact hlt
      have t1 : decide ((i : Int) < (v.length : Int)) = true := by simp; omega
      obtain ⟨c, hc, hget⟩ : ∃ b : UInt8, v[i]? = some b ∧ ((Nm.bs v)[i]'hlt2).toNat = b.toNat := ⟨_, List.getElem?_eq_getElem hlt, by rw [bs_get]⟩
      have i0' : (0 : Int) ≤ (i : Int) := by omega
      have i1' : (i : Int) < ((Nm.bs v).size : Int) := by omega
      have qf : ((i : Int) == 0) = (i == 0) := by rw [Bool.eq_iff_iff, beq_iff_eq, beq_iff_eq]; omega
      have ql : ((i : Int) == (v.length : Int) - 1) = (i + 1 == v.length) := by rw [Bool.eq_iff_iff, beq_iff_eq, beq_iff_eq]; omega
      have hcl := UInt8.toNat_lt c
      have hacl : acc.length < 100000000 := by omega
      have HC1 := Lib.hid (esc_char w.heap.size w.heap.size acc c wr HI.out.bld hacl (by omega))
      have HC2 := Lib.hid (esc_hex w.heap.size w.heap.size acc c wr HI.out.bld hacl (by omega))
      have HC3 := Lib.hid (byte_bld w.heap.size w.heap.size (Lib.byteCells acc) (c.toNat : Int) wr HI.out.bld (by simp [Lib.byteCells]; omega) (by omega))
      have hst := fun w' (h : Bld w.heap.size w.heap.size (Lib.byteCells (acc ++ Kp.encB isV (i == 0) (i + 1 == v.length) c)) w') (k : Below w.heap.size wr w') => HI.out.step hc h k
      have hen := encB_N isV (i == 0) (i + 1 == v.length) c
      have HST := Lib.hid hst
      have HEN := Lib.hid hen
      clear hst hen HI hc
      generalize (i == 0) = f at *
      generalize (i + 1 == v.length) = la at *
      have hbc : Lib.byteCells (acc ++ [c]) = Lib.byteCells acc ++ [.int .u8 (c.toNat : Int)] := by simp [Lib.byteCells]
      have HBC := Lib.hid hbc
      clear hbc
      generalize c.toNat = n at *
      have hcat : n = 32 ∨ n = 35 ∨ n = 34 ∨ n = 43 ∨ n = 44 ∨ n = 59 ∨ n = 60 ∨ n = 62 ∨ n = 92 ∨ n = 61 ∨ n < 32 ∨ 126 < n ∨ (32 < n ∧ n ≤ 126 ∧ n ≠ 32 ∧ n ≠ 35 ∧ n ≠ 34 ∧ n ≠ 43 ∧ n ≠ 44 ∧ n ≠ 59 ∧ n ≠ 60 ∧ n ≠ 62 ∧ n ≠ 92 ∧ n ≠ 61) := by omega
      rcases hcat with rfl | rfl | rfl | rfl | rfl | rfl | rfl | rfl | rfl | rfl | hn | hn | hn
      · cases f with
        | true =>
          go_wp2_with fail
          first
            | (refine HC1.out.mono ?_
               rintro e w2 ⟨⟨x, rfl⟩, hb, hk⟩
               have HN := Lib.hid (HST.out w2 (by rw [HEN.out]; first | (rw [if_pos (by first | decide | (cases isV <;> decide) | (cases la <;> cases isV <;> decide))]; exact hb) | (rw [if_neg (by first | decide | (cases isV <;> decide) | (cases la <;> cases isV <;> decide)), if_pos (by first | decide | (cases isV <;> decide) | (cases la <;> cases isV <;> decide))]; exact hb) | (rw [if_neg (by first | decide | (cases isV <;> decide) | (cases la <;> cases isV <;> decide)), if_neg (by first | decide | (cases isV <;> decide) | (cases la <;> cases isV <;> decide))]; exact hb)) hk)
               clear hb hk HST HC1 HC2 HC3 HEN
               go_wp2_with fail
               exact ⟨⟨i + 1, _, by go_num, HN⟩, by simp [intOf]; omega⟩)
            | (refine HC2.out.mono ?_
               rintro e w2 ⟨⟨x, rfl⟩, hb, hk⟩
               have HN := Lib.hid (HST.out w2 (by rw [HEN.out]; first | (rw [if_pos (by first | decide | (cases isV <;> decide) | (cases la <;> cases isV <;> decide))]; exact hb) | (rw [if_neg (by first | decide | (cases isV <;> decide) | (cases la <;> cases isV <;> decide)), if_pos (by first | decide | (cases isV <;> decide) | (cases la <;> cases isV <;> decide))]; exact hb) | (rw [if_neg (by first | decide | (cases isV <;> decide) | (cases la <;> cases isV <;> decide)), if_neg (by first | decide | (cases isV <;> decide) | (cases la <;> cases isV <;> decide))]; exact hb)) hk)
               clear hb hk HST HC1 HC2 HC3 HEN
               go_wp2_with fail
               exact ⟨⟨i + 1, _, by go_num, HN⟩, by simp [intOf]; omega⟩)
            | (refine HC3.out.mono ?_
               rintro e w2 ⟨rfl, hb, hk⟩
               have HN := Lib.hid (HST.out w2 (by rw [HEN.out]; first | (rw [if_pos (by first | decide | (cases isV <;> decide) | (cases la <;> cases isV <;> decide))]; exact hb) | (rw [if_neg (by first | decide | (cases isV <;> decide) | (cases la <;> cases isV <;> decide)), if_pos (by first | decide | (cases isV <;> decide) | (cases la <;> cases isV <;> decide))]; exact hb) | (rw [if_neg (by first | decide | (cases isV <;> decide) | (cases la <;> cases isV <;> decide)), if_neg (by first | decide | (cases isV <;> decide) | (cases la <;> cases isV <;> decide)), HBC.out]; exact hb)) hk)
               clear hb hk HST HC1 HC2 HC3 HEN
               go_wp2_with fail
               exact ⟨⟨i + 1, _, by go_num, HN⟩, by simp [intOf]; omega⟩)
        | false =>
          cases la with
          | true =>
            go_wp2_with fail
            first
              | (refine HC1.out.mono ?_
                 rintro e w2 ⟨⟨x, rfl⟩, hb, hk⟩
                 have HN := Lib.hid (HST.out w2 (by rw [HEN.out]; first | (rw [if_pos (by first | decide | (cases isV <;> decide) | (cases la <;> cases isV <;> decide))]; exact hb) | (rw [if_neg (by first | decide | (cases isV <;> decide) | (cases la <;> cases isV <;> decide)), if_pos (by first | decide | (cases isV <;> decide) | (cases la <;> cases isV <;> decide))]; exact hb) | (rw [if_neg (by first | decide | (cases isV <;> decide) | (cases la <;> cases isV <;> decide)), if_neg (by first | decide | (cases isV <;> decide) | (cases la <;> cases isV <;> decide))]; exact hb)) hk)
                 clear hb hk HST HC1 HC2 HC3 HEN
                 go_wp2_with fail
                 exact ⟨⟨i + 1, _, by go_num, HN⟩, by simp [intOf]; omega⟩)
              | (refine HC2.out.mono ?_
                 rintro e w2 ⟨⟨x, rfl⟩, hb, hk⟩
                 have HN := Lib.hid (HST.out w2 (by rw [HEN.out]; first | (rw [if_pos (by first | decide | (cases isV <;> decide) | (cases la <;> cases isV <;> decide))]; exact hb) | (rw [if_neg (by first | decide | (cases isV <;> decide) | (cases la <;> cases isV <;> decide)), if_pos (by first | decide | (cases isV <;> decide) | (cases la <;> cases isV <;> decide))]; exact hb) | (rw [if_neg (by first | decide | (cases isV <;> decide) | (cases la <;> cases isV <;> decide)), if_neg (by first | decide | (cases isV <;> decide) | (cases la <;> cases isV <;> decide))]; exact hb)) hk)
                 clear hb hk HST HC1 HC2 HC3 HEN
                 go_wp2_with fail
                 exact ⟨⟨i + 1, _, by go_num, HN⟩, by simp [intOf]; omega⟩)
              | (refine HC3.out.mono ?_
                 rintro e w2 ⟨rfl, hb, hk⟩
                 have HN := Lib.hid (HST.out w2 (by rw [HEN.out]; first | (rw [if_pos (by first | decide | (cases isV <;> decide) | (cases la <;> cases isV <;> decide))]; exact hb) | (rw [if_neg (by first | decide | (cases isV <;> decide) | (cases la <;> cases isV <;> decide)), if_pos (by first | decide | (cases isV <;> decide) | (cases la <;> cases isV <;> decide))]; exact hb) | (rw [if_neg (by first | decide | (cases isV <;> decide) | (cases la <;> cases isV <;> decide)), if_neg (by first | decide | (cases isV <;> decide) | (cases la <;> cases isV <;> decide)), HBC.out]; exact hb)) hk)
                 clear hb hk HST HC1 HC2 HC3 HEN
                 go_wp2_with fail
                 exact ⟨⟨i + 1, _, by go_num, HN⟩, by simp [intOf]; omega⟩)
          | false =>
            cases isV
            all_goals
              go_wp2_with fail
              first
                | (refine HC1.out.mono ?_
                   rintro e w2 ⟨⟨x, rfl⟩, hb, hk⟩
                   have HN := Lib.hid (HST.out w2 (by rw [HEN.out]; first | (rw [if_pos (by first | decide | (cases isV <;> decide) | (cases la <;> cases isV <;> decide))]; exact hb) | (rw [if_neg (by first | decide | (cases isV <;> decide) | (cases la <;> cases isV <;> decide)), if_pos (by first | decide | (cases isV <;> decide) | (cases la <;> cases isV <;> decide))]; exact hb) | (rw [if_neg (by first | decide | (cases isV <;> decide) | (cases la <;> cases isV <;> decide)), if_neg (by first | decide | (cases isV <;> decide) | (cases la <;> cases isV <;> decide))]; exact hb)) hk)
                   clear hb hk HST HC1 HC2 HC3 HEN
                   go_wp2_with fail
                   exact ⟨⟨i + 1, _, by go_num, HN⟩, by simp [intOf]; omega⟩)
                | (refine HC2.out.mono ?_
                   rintro e w2 ⟨⟨x, rfl⟩, hb, hk⟩
                   have HN := Lib.hid (HST.out w2 (by rw [HEN.out]; first | (rw [if_pos (by first | decide | (cases isV <;> decide) | (cases la <;> cases isV <;> decide))]; exact hb) | (rw [if_neg (by first | decide | (cases isV <;> decide) | (cases la <;> cases isV <;> decide)), if_pos (by first | decide | (cases isV <;> decide) | (cases la <;> cases isV <;> decide))]; exact hb) | (rw [if_neg (by first | decide | (cases isV <;> decide) | (cases la <;> cases isV <;> decide)), if_neg (by first | decide | (cases isV <;> decide) | (cases la <;> cases isV <;> decide))]; exact hb)) hk)
                   clear hb hk HST HC1 HC2 HC3 HEN
                   go_wp2_with fail
                   exact ⟨⟨i + 1, _, by go_num, HN⟩, by simp [intOf]; omega⟩)
                | (refine HC3.out.mono ?_
                   rintro e w2 ⟨rfl, hb, hk⟩
                   have HN := Lib.hid (HST.out w2 (by rw [HEN.out]; first | (rw [if_pos (by first | decide | (cases isV <;> decide) | (cases la <;> cases isV <;> decide))]; exact hb) | (rw [if_neg (by first | decide | (cases isV <;> decide) | (cases la <;> cases isV <;> decide)), if_pos (by first | decide | (cases isV <;> decide) | (cases la <;> cases isV <;> decide))]; exact hb) | (rw [if_neg (by first | decide | (cases isV <;> decide) | (cases la <;> cases isV <;> decide)), if_neg (by first | decide | (cases isV <;> decide) | (cases la <;> cases isV <;> decide)), HBC.out]; exact hb)) hk)
                   clear hb hk HST HC1 HC2 HC3 HEN
                   go_wp2_with fail
                   exact ⟨⟨i + 1, _, by go_num, HN⟩, by simp [intOf]; omega⟩)
      · cases f with
        | true =>
          go_wp2_with fail
          first
            | (refine HC1.out.mono ?_
               rintro e w2 ⟨⟨x, rfl⟩, hb, hk⟩
               have HN := Lib.hid (HST.out w2 (by rw [HEN.out]; first | (rw [if_pos (by first | decide | (cases isV <;> decide) | (cases la <;> cases isV <;> decide))]; exact hb) | (rw [if_neg (by first | decide | (cases isV <;> decide) | (cases la <;> cases isV <;> decide)), if_pos (by first | decide | (cases isV <;> decide) | (cases la <;> cases isV <;> decide))]; exact hb) | (rw [if_neg (by first | decide | (cases isV <;> decide) | (cases la <;> cases isV <;> decide)), if_neg (by first | decide | (cases isV <;> decide) | (cases la <;> cases isV <;> decide))]; exact hb)) hk)
               clear hb hk HST HC1 HC2 HC3 HEN
               go_wp2_with fail
               exact ⟨⟨i + 1, _, by go_num, HN⟩, by simp [intOf]; omega⟩)
            | (refine HC2.out.mono ?_
               rintro e w2 ⟨⟨x, rfl⟩, hb, hk⟩
               have HN := Lib.hid (HST.out w2 (by rw [HEN.out]; first | (rw [if_pos (by first | decide | (cases isV <;> decide) | (cases la <;> cases isV <;> decide))]; exact hb) | (rw [if_neg (by first | decide | (cases isV <;> decide) | (cases la <;> cases isV <;> decide)), if_pos (by first | decide | (cases isV <;> decide) | (cases la <;> cases isV <;> decide))]; exact hb) | (rw [if_neg (by first | decide | (cases isV <;> decide) | (cases la <;> cases isV <;> decide)), if_neg (by first | decide | (cases isV <;> decide) | (cases la <;> cases isV <;> decide))]; exact hb)) hk)
               clear hb hk HST HC1 HC2 HC3 HEN
               go_wp2_with fail
               exact ⟨⟨i + 1, _, by go_num, HN⟩, by simp [intOf]; omega⟩)
            | (refine HC3.out.mono ?_
               rintro e w2 ⟨rfl, hb, hk⟩
               have HN := Lib.hid (HST.out w2 (by rw [HEN.out]; first | (rw [if_pos (by first | decide | (cases isV <;> decide) | (cases la <;> cases isV <;> decide))]; exact hb) | (rw [if_neg (by first | decide | (cases isV <;> decide) | (cases la <;> cases isV <;> decide)), if_pos (by first | decide | (cases isV <;> decide) | (cases la <;> cases isV <;> decide))]; exact hb) | (rw [if_neg (by first | decide | (cases isV <;> decide) | (cases la <;> cases isV <;> decide)), if_neg (by first | decide | (cases isV <;> decide) | (cases la <;> cases isV <;> decide)), HBC.out]; exact hb)) hk)
               clear hb hk HST HC1 HC2 HC3 HEN
               go_wp2_with fail
               exact ⟨⟨i + 1, _, by go_num, HN⟩, by simp [intOf]; omega⟩)
        | false =>
          cases la <;> cases isV
          all_goals
            go_wp2_with fail
            first
              | (refine HC1.out.mono ?_
                 rintro e w2 ⟨⟨x, rfl⟩, hb, hk⟩
                 have HN := Lib.hid (HST.out w2 (by rw [HEN.out]; first | (rw [if_pos (by first | decide | (cases isV <;> decide) | (cases la <;> cases isV <;> decide))]; exact hb) | (rw [if_neg (by first | decide | (cases isV <;> decide) | (cases la <;> cases isV <;> decide)), if_pos (by first | decide | (cases isV <;> decide) | (cases la <;> cases isV <;> decide))]; exact hb) | (rw [if_neg (by first | decide | (cases isV <;> decide) | (cases la <;> cases isV <;> decide)), if_neg (by first | decide | (cases isV <;> decide) | (cases la <;> cases isV <;> decide))]; exact hb)) hk)
                 clear hb hk HST HC1 HC2 HC3 HEN
                 go_wp2_with fail
                 exact ⟨⟨i + 1, _, by go_num, HN⟩, by simp [intOf]; omega⟩)
              | (refine HC2.out.mono ?_
                 rintro e w2 ⟨⟨x, rfl⟩, hb, hk⟩
                 have HN := Lib.hid (HST.out w2 (by rw [HEN.out]; first | (rw [if_pos (by first | decide | (cases isV <;> decide) | (cases la <;> cases isV <;> decide))]; exact hb) | (rw [if_neg (by first | decide | (cases isV <;> decide) | (cases la <;> cases isV <;> decide)), if_pos (by first | decide | (cases isV <;> decide) | (cases la <;> cases isV <;> decide))]; exact hb) | (rw [if_neg (by first | decide | (cases isV <;> decide) | (cases la <;> cases isV <;> decide)), if_neg (by first | decide | (cases isV <;> decide) | (cases la <;> cases isV <;> decide))]; exact hb)) hk)
                 clear hb hk HST HC1 HC2 HC3 HEN
                 go_wp2_with fail
                 exact ⟨⟨i + 1, _, by go_num, HN⟩, by simp [intOf]; omega⟩)
              | (refine HC3.out.mono ?_
                 rintro e w2 ⟨rfl, hb, hk⟩
                 have HN := Lib.hid (HST.out w2 (by rw [HEN.out]; first | (rw [if_pos (by first | decide | (cases isV <;> decide) | (cases la <;> cases isV <;> decide))]; exact hb) | (rw [if_neg (by first | decide | (cases isV <;> decide) | (cases la <;> cases isV <;> decide)), if_pos (by first | decide | (cases isV <;> decide) | (cases la <;> cases isV <;> decide))]; exact hb) | (rw [if_neg (by first | decide | (cases isV <;> decide) | (cases la <;> cases isV <;> decide)), if_neg (by first | decide | (cases isV <;> decide) | (cases la <;> cases isV <;> decide)), HBC.out]; exact hb)) hk)
                 clear hb hk HST HC1 HC2 HC3 HEN
                 go_wp2_with fail
                 exact ⟨⟨i + 1, _, by go_num, HN⟩, by simp [intOf]; omega⟩)
      · cases f <;> cases la
        all_goals
          go_wp2_with fail
          first
            | (refine HC1.out.mono ?_
               rintro e w2 ⟨⟨x, rfl⟩, hb, hk⟩
               have HN := Lib.hid (HST.out w2 (by rw [HEN.out]; first | (rw [if_pos (by first | decide | (cases isV <;> decide) | (cases la <;> cases isV <;> decide))]; exact hb) | (rw [if_neg (by first | decide | (cases isV <;> decide) | (cases la <;> cases isV <;> decide)), if_pos (by first | decide | (cases isV <;> decide) | (cases la <;> cases isV <;> decide))]; exact hb) | (rw [if_neg (by first | decide | (cases isV <;> decide) | (cases la <;> cases isV <;> decide)), if_neg (by first | decide | (cases isV <;> decide) | (cases la <;> cases isV <;> decide))]; exact hb)) hk)
               clear hb hk HST HC1 HC2 HC3 HEN
               go_wp2_with fail
               exact ⟨⟨i + 1, _, by go_num, HN⟩, by simp [intOf]; omega⟩)
            | (refine HC2.out.mono ?_
               rintro e w2 ⟨⟨x, rfl⟩, hb, hk⟩
               have HN := Lib.hid (HST.out w2 (by rw [HEN.out]; first | (rw [if_pos (by first | decide | (cases isV <;> decide) | (cases la <;> cases isV <;> decide))]; exact hb) | (rw [if_neg (by first | decide | (cases isV <;> decide) | (cases la <;> cases isV <;> decide)), if_pos (by first | decide | (cases isV <;> decide) | (cases la <;> cases isV <;> decide))]; exact hb) | (rw [if_neg (by first | decide | (cases isV <;> decide) | (cases la <;> cases isV <;> decide)), if_neg (by first | decide | (cases isV <;> decide) | (cases la <;> cases isV <;> decide))]; exact hb)) hk)
               clear hb hk HST HC1 HC2 HC3 HEN
               go_wp2_with fail
               exact ⟨⟨i + 1, _, by go_num, HN⟩, by simp [intOf]; omega⟩)
            | (refine HC3.out.mono ?_
               rintro e w2 ⟨rfl, hb, hk⟩
               have HN := Lib.hid (HST.out w2 (by rw [HEN.out]; first | (rw [if_pos (by first | decide | (cases isV <;> decide) | (cases la <;> cases isV <;> decide))]; exact hb) | (rw [if_neg (by first | decide | (cases isV <;> decide) | (cases la <;> cases isV <;> decide)), if_pos (by first | decide | (cases isV <;> decide) | (cases la <;> cases isV <;> decide))]; exact hb) | (rw [if_neg (by first | decide | (cases isV <;> decide) | (cases la <;> cases isV <;> decide)), if_neg (by first | decide | (cases isV <;> decide) | (cases la <;> cases isV <;> decide)), HBC.out]; exact hb)) hk)
               clear hb hk HST HC1 HC2 HC3 HEN
               go_wp2_with fail
               exact ⟨⟨i + 1, _, by go_num, HN⟩, by simp [intOf]; omega⟩)
      · cases f <;> cases la
        all_goals
          go_wp2_with fail
          first
            | (refine HC1.out.mono ?_
               rintro e w2 ⟨⟨x, rfl⟩, hb, hk⟩
               have HN := Lib.hid (HST.out w2 (by rw [HEN.out]; first | (rw [if_pos (by first | decide | (cases isV <;> decide) | (cases la <;> cases isV <;> decide))]; exact hb) | (rw [if_neg (by first | decide | (cases isV <;> decide) | (cases la <;> cases isV <;> decide)), if_pos (by first | decide | (cases isV <;> decide) | (cases la <;> cases isV <;> decide))]; exact hb) | (rw [if_neg (by first | decide | (cases isV <;> decide) | (cases la <;> cases isV <;> decide)), if_neg (by first | decide | (cases isV <;> decide) | (cases la <;> cases isV <;> decide))]; exact hb)) hk)
               clear hb hk HST HC1 HC2 HC3 HEN
               go_wp2_with fail
               exact ⟨⟨i + 1, _, by go_num, HN⟩, by simp [intOf]; omega⟩)
            | (refine HC2.out.mono ?_
               rintro e w2 ⟨⟨x, rfl⟩, hb, hk⟩
               have HN := Lib.hid (HST.out w2 (by rw [HEN.out]; first | (rw [if_pos (by first | decide | (cases isV <;> decide) | (cases la <;> cases isV <;> decide))]; exact hb) | (rw [if_neg (by first | decide | (cases isV <;> decide) | (cases la <;> cases isV <;> decide)), if_pos (by first | decide | (cases isV <;> decide) | (cases la <;> cases isV <;> decide))]; exact hb) | (rw [if_neg (by first | decide | (cases isV <;> decide) | (cases la <;> cases isV <;> decide)), if_neg (by first | decide | (cases isV <;> decide) | (cases la <;> cases isV <;> decide))]; exact hb)) hk)
               clear hb hk HST HC1 HC2 HC3 HEN
               go_wp2_with fail
               exact ⟨⟨i + 1, _, by go_num, HN⟩, by simp [intOf]; omega⟩)
            | (refine HC3.out.mono ?_
               rintro e w2 ⟨rfl, hb, hk⟩
               have HN := Lib.hid (HST.out w2 (by rw [HEN.out]; first | (rw [if_pos (by first | decide | (cases isV <;> decide) | (cases la <;> cases isV <;> decide))]; exact hb) | (rw [if_neg (by first | decide | (cases isV <;> decide) | (cases la <;> cases isV <;> decide)), if_pos (by first | decide | (cases isV <;> decide) | (cases la <;> cases isV <;> decide))]; exact hb) | (rw [if_neg (by first | decide | (cases isV <;> decide) | (cases la <;> cases isV <;> decide)), if_neg (by first | decide | (cases isV <;> decide) | (cases la <;> cases isV <;> decide)), HBC.out]; exact hb)) hk)
               clear hb hk HST HC1 HC2 HC3 HEN
               go_wp2_with fail
               exact ⟨⟨i + 1, _, by go_num, HN⟩, by simp [intOf]; omega⟩)
      · cases f <;> cases la
        all_goals
          go_wp2_with fail
          first
            | (refine HC1.out.mono ?_
               rintro e w2 ⟨⟨x, rfl⟩, hb, hk⟩
               have HN := Lib.hid (HST.out w2 (by rw [HEN.out]; first | (rw [if_pos (by first | decide | (cases isV <;> decide) | (cases la <;> cases isV <;> decide))]; exact hb) | (rw [if_neg (by first | decide | (cases isV <;> decide) | (cases la <;> cases isV <;> decide)), if_pos (by first | decide | (cases isV <;> decide) | (cases la <;> cases isV <;> decide))]; exact hb) | (rw [if_neg (by first | decide | (cases isV <;> decide) | (cases la <;> cases isV <;> decide)), if_neg (by first | decide | (cases isV <;> decide) | (cases la <;> cases isV <;> decide))]; exact hb)) hk)
               clear hb hk HST HC1 HC2 HC3 HEN
               go_wp2_with fail
               exact ⟨⟨i + 1, _, by go_num, HN⟩, by simp [intOf]; omega⟩)
            | (refine HC2.out.mono ?_
               rintro e w2 ⟨⟨x, rfl⟩, hb, hk⟩
               have HN := Lib.hid (HST.out w2 (by rw [HEN.out]; first | (rw [if_pos (by first | decide | (cases isV <;> decide) | (cases la <;> cases isV <;> decide))]; exact hb) | (rw [if_neg (by first | decide | (cases isV <;> decide) | (cases la <;> cases isV <;> decide)), if_pos (by first | decide | (cases isV <;> decide) | (cases la <;> cases isV <;> decide))]; exact hb) | (rw [if_neg (by first | decide | (cases isV <;> decide) | (cases la <;> cases isV <;> decide)), if_neg (by first | decide | (cases isV <;> decide) | (cases la <;> cases isV <;> decide))]; exact hb)) hk)
               clear hb hk HST HC1 HC2 HC3 HEN
               go_wp2_with fail
               exact ⟨⟨i + 1, _, by go_num, HN⟩, by simp [intOf]; omega⟩)
            | (refine HC3.out.mono ?_
               rintro e w2 ⟨rfl, hb, hk⟩
               have HN := Lib.hid (HST.out w2 (by rw [HEN.out]; first | (rw [if_pos (by first | decide | (cases isV <;> decide) | (cases la <;> cases isV <;> decide))]; exact hb) | (rw [if_neg (by first | decide | (cases isV <;> decide) | (cases la <;> cases isV <;> decide)), if_pos (by first | decide | (cases isV <;> decide) | (cases la <;> cases isV <;> decide))]; exact hb) | (rw [if_neg (by first | decide | (cases isV <;> decide) | (cases la <;> cases isV <;> decide)), if_neg (by first | decide | (cases isV <;> decide) | (cases la <;> cases isV <;> decide)), HBC.out]; exact hb)) hk)
               clear hb hk HST HC1 HC2 HC3 HEN
               go_wp2_with fail
               exact ⟨⟨i + 1, _, by go_num, HN⟩, by simp [intOf]; omega⟩)
      · cases f <;> cases la
        all_goals
          go_wp2_with fail
          first
            | (refine HC1.out.mono ?_
               rintro e w2 ⟨⟨x, rfl⟩, hb, hk⟩
               have HN := Lib.hid (HST.out w2 (by rw [HEN.out]; first | (rw [if_pos (by first | decide | (cases isV <;> decide) | (cases la <;> cases isV <;> decide))]; exact hb) | (rw [if_neg (by first | decide | (cases isV <;> decide) | (cases la <;> cases isV <;> decide)), if_pos (by first | decide | (cases isV <;> decide) | (cases la <;> cases isV <;> decide))]; exact hb) | (rw [if_neg (by first | decide | (cases isV <;> decide) | (cases la <;> cases isV <;> decide)), if_neg (by first | decide | (cases isV <;> decide) | (cases la <;> cases isV <;> decide))]; exact hb)) hk)
               clear hb hk HST HC1 HC2 HC3 HEN
               go_wp2_with fail
               exact ⟨⟨i + 1, _, by go_num, HN⟩, by simp [intOf]; omega⟩)
            | (refine HC2.out.mono ?_
               rintro e w2 ⟨⟨x, rfl⟩, hb, hk⟩
               have HN := Lib.hid (HST.out w2 (by rw [HEN.out]; first | (rw [if_pos (by first | decide | (cases isV <;> decide) | (cases la <;> cases isV <;> decide))]; exact hb) | (rw [if_neg (by first | decide | (cases isV <;> decide) | (cases la <;> cases isV <;> decide)), if_pos (by first | decide | (cases isV <;> decide) | (cases la <;> cases isV <;> decide))]; exact hb) | (rw [if_neg (by first | decide | (cases isV <;> decide) | (cases la <;> cases isV <;> decide)), if_neg (by first | decide | (cases isV <;> decide) | (cases la <;> cases isV <;> decide))]; exact hb)) hk)
               clear hb hk HST HC1 HC2 HC3 HEN
               go_wp2_with fail
               exact ⟨⟨i + 1, _, by go_num, HN⟩, by simp [intOf]; omega⟩)
            | (refine HC3.out.mono ?_
               rintro e w2 ⟨rfl, hb, hk⟩
               have HN := Lib.hid (HST.out w2 (by rw [HEN.out]; first | (rw [if_pos (by first | decide | (cases isV <;> decide) | (cases la <;> cases isV <;> decide))]; exact hb) | (rw [if_neg (by first | decide | (cases isV <;> decide) | (cases la <;> cases isV <;> decide)), if_pos (by first | decide | (cases isV <;> decide) | (cases la <;> cases isV <;> decide))]; exact hb) | (rw [if_neg (by first | decide | (cases isV <;> decide) | (cases la <;> cases isV <;> decide)), if_neg (by first | decide | (cases isV <;> decide) | (cases la <;> cases isV <;> decide)), HBC.out]; exact hb)) hk)
               clear hb hk HST HC1 HC2 HC3 HEN
               go_wp2_with fail
               exact ⟨⟨i + 1, _, by go_num, HN⟩, by simp [intOf]; omega⟩)
      · cases f <;> cases la
        all_goals
          go_wp2_with fail
          first
            | (refine HC1.out.mono ?_
               rintro e w2 ⟨⟨x, rfl⟩, hb, hk⟩
               have HN := Lib.hid (HST.out w2 (by rw [HEN.out]; first | (rw [if_pos (by first | decide | (cases isV <;> decide) | (cases la <;> cases isV <;> decide))]; exact hb) | (rw [if_neg (by first | decide | (cases isV <;> decide) | (cases la <;> cases isV <;> decide)), if_pos (by first | decide | (cases isV <;> decide) | (cases la <;> cases isV <;> decide))]; exact hb) | (rw [if_neg (by first | decide | (cases isV <;> decide) | (cases la <;> cases isV <;> decide)), if_neg (by first | decide | (cases isV <;> decide) | (cases la <;> cases isV <;> decide))]; exact hb)) hk)
               clear hb hk HST HC1 HC2 HC3 HEN
               go_wp2_with fail
               exact ⟨⟨i + 1, _, by go_num, HN⟩, by simp [intOf]; omega⟩)
            | (refine HC2.out.mono ?_
               rintro e w2 ⟨⟨x, rfl⟩, hb, hk⟩
               have HN := Lib.hid (HST.out w2 (by rw [HEN.out]; first | (rw [if_pos (by first | decide | (cases isV <;> decide) | (cases la <;> cases isV <;> decide))]; exact hb) | (rw [if_neg (by first | decide | (cases isV <;> decide) | (cases la <;> cases isV <;> decide)), if_pos (by first | decide | (cases isV <;> decide) | (cases la <;> cases isV <;> decide))]; exact hb) | (rw [if_neg (by first | decide | (cases isV <;> decide) | (cases la <;> cases isV <;> decide)), if_neg (by first | decide | (cases isV <;> decide) | (cases la <;> cases isV <;> decide))]; exact hb)) hk)
               clear hb hk HST HC1 HC2 HC3 HEN
               go_wp2_with fail
               exact ⟨⟨i + 1, _, by go_num, HN⟩, by simp [intOf]; omega⟩)
            | (refine HC3.out.mono ?_
               rintro e w2 ⟨rfl, hb, hk⟩
               have HN := Lib.hid (HST.out w2 (by rw [HEN.out]; first | (rw [if_pos (by first | decide | (cases isV <;> decide) | (cases la <;> cases isV <;> decide))]; exact hb) | (rw [if_neg (by first | decide | (cases isV <;> decide) | (cases la <;> cases isV <;> decide)), if_pos (by first | decide | (cases isV <;> decide) | (cases la <;> cases isV <;> decide))]; exact hb) | (rw [if_neg (by first | decide | (cases isV <;> decide) | (cases la <;> cases isV <;> decide)), if_neg (by first | decide | (cases isV <;> decide) | (cases la <;> cases isV <;> decide)), HBC.out]; exact hb)) hk)
               clear hb hk HST HC1 HC2 HC3 HEN
               go_wp2_with fail
               exact ⟨⟨i + 1, _, by go_num, HN⟩, by simp [intOf]; omega⟩)
      · cases f <;> cases la
        all_goals
          go_wp2_with fail
          first
            | (refine HC1.out.mono ?_
               rintro e w2 ⟨⟨x, rfl⟩, hb, hk⟩
               have HN := Lib.hid (HST.out w2 (by rw [HEN.out]; first | (rw [if_pos (by first | decide | (cases isV <;> decide) | (cases la <;> cases isV <;> decide))]; exact hb) | (rw [if_neg (by first | decide | (cases isV <;> decide) | (cases la <;> cases isV <;> decide)), if_pos (by first | decide | (cases isV <;> decide) | (cases la <;> cases isV <;> decide))]; exact hb) | (rw [if_neg (by first | decide | (cases isV <;> decide) | (cases la <;> cases isV <;> decide)), if_neg (by first | decide | (cases isV <;> decide) | (cases la <;> cases isV <;> decide))]; exact hb)) hk)
               clear hb hk HST HC1 HC2 HC3 HEN
               go_wp2_with fail
               exact ⟨⟨i + 1, _, by go_num, HN⟩, by simp [intOf]; omega⟩)
            | (refine HC2.out.mono ?_
               rintro e w2 ⟨⟨x, rfl⟩, hb, hk⟩
               have HN := Lib.hid (HST.out w2 (by rw [HEN.out]; first | (rw [if_pos (by first | decide | (cases isV <;> decide) | (cases la <;> cases isV <;> decide))]; exact hb) | (rw [if_neg (by first | decide | (cases isV <;> decide) | (cases la <;> cases isV <;> decide)), if_pos (by first | decide | (cases isV <;> decide) | (cases la <;> cases isV <;> decide))]; exact hb) | (rw [if_neg (by first | decide | (cases isV <;> decide) | (cases la <;> cases isV <;> decide)), if_neg (by first | decide | (cases isV <;> decide) | (cases la <;> cases isV <;> decide))]; exact hb)) hk)
               clear hb hk HST HC1 HC2 HC3 HEN
               go_wp2_with fail
               exact ⟨⟨i + 1, _, by go_num, HN⟩, by simp [intOf]; omega⟩)
            | (refine HC3.out.mono ?_
               rintro e w2 ⟨rfl, hb, hk⟩
               have HN := Lib.hid (HST.out w2 (by rw [HEN.out]; first | (rw [if_pos (by first | decide | (cases isV <;> decide) | (cases la <;> cases isV <;> decide))]; exact hb) | (rw [if_neg (by first | decide | (cases isV <;> decide) | (cases la <;> cases isV <;> decide)), if_pos (by first | decide | (cases isV <;> decide) | (cases la <;> cases isV <;> decide))]; exact hb) | (rw [if_neg (by first | decide | (cases isV <;> decide) | (cases la <;> cases isV <;> decide)), if_neg (by first | decide | (cases isV <;> decide) | (cases la <;> cases isV <;> decide)), HBC.out]; exact hb)) hk)
               clear hb hk HST HC1 HC2 HC3 HEN
               go_wp2_with fail
               exact ⟨⟨i + 1, _, by go_num, HN⟩, by simp [intOf]; omega⟩)
      · cases f <;> cases la
        all_goals
          go_wp2_with fail
          first
            | (refine HC1.out.mono ?_
               rintro e w2 ⟨⟨x, rfl⟩, hb, hk⟩
               have HN := Lib.hid (HST.out w2 (by rw [HEN.out]; first | (rw [if_pos (by first | decide | (cases isV <;> decide) | (cases la <;> cases isV <;> decide))]; exact hb) | (rw [if_neg (by first | decide | (cases isV <;> decide) | (cases la <;> cases isV <;> decide)), if_pos (by first | decide | (cases isV <;> decide) | (cases la <;> cases isV <;> decide))]; exact hb) | (rw [if_neg (by first | decide | (cases isV <;> decide) | (cases la <;> cases isV <;> decide)), if_neg (by first | decide | (cases isV <;> decide) | (cases la <;> cases isV <;> decide))]; exact hb)) hk)
               clear hb hk HST HC1 HC2 HC3 HEN
               go_wp2_with fail
               exact ⟨⟨i + 1, _, by go_num, HN⟩, by simp [intOf]; omega⟩)
            | (refine HC2.out.mono ?_
               rintro e w2 ⟨⟨x, rfl⟩, hb, hk⟩
               have HN := Lib.hid (HST.out w2 (by rw [HEN.out]; first | (rw [if_pos (by first | decide | (cases isV <;> decide) | (cases la <;> cases isV <;> decide))]; exact hb) | (rw [if_neg (by first | decide | (cases isV <;> decide) | (cases la <;> cases isV <;> decide)), if_pos (by first | decide | (cases isV <;> decide) | (cases la <;> cases isV <;> decide))]; exact hb) | (rw [if_neg (by first | decide | (cases isV <;> decide) | (cases la <;> cases isV <;> decide)), if_neg (by first | decide | (cases isV <;> decide) | (cases la <;> cases isV <;> decide))]; exact hb)) hk)
               clear hb hk HST HC1 HC2 HC3 HEN
               go_wp2_with fail
               exact ⟨⟨i + 1, _, by go_num, HN⟩, by simp [intOf]; omega⟩)
            | (refine HC3.out.mono ?_
               rintro e w2 ⟨rfl, hb, hk⟩
               have HN := Lib.hid (HST.out w2 (by rw [HEN.out]; first | (rw [if_pos (by first | decide | (cases isV <;> decide) | (cases la <;> cases isV <;> decide))]; exact hb) | (rw [if_neg (by first | decide | (cases isV <;> decide) | (cases la <;> cases isV <;> decide)), if_pos (by first | decide | (cases isV <;> decide) | (cases la <;> cases isV <;> decide))]; exact hb) | (rw [if_neg (by first | decide | (cases isV <;> decide) | (cases la <;> cases isV <;> decide)), if_neg (by first | decide | (cases isV <;> decide) | (cases la <;> cases isV <;> decide)), HBC.out]; exact hb)) hk)
               clear hb hk HST HC1 HC2 HC3 HEN
               go_wp2_with fail
               exact ⟨⟨i + 1, _, by go_num, HN⟩, by simp [intOf]; omega⟩)
      · cases f <;> cases la <;> cases isV
        all_goals
          go_wp2_with fail
          first
            | (refine HC1.out.mono ?_
               rintro e w2 ⟨⟨x, rfl⟩, hb, hk⟩
               have HN := Lib.hid (HST.out w2 (by rw [HEN.out]; first | (rw [if_pos (by first | decide | (cases isV <;> decide) | (cases la <;> cases isV <;> decide))]; exact hb) | (rw [if_neg (by first | decide | (cases isV <;> decide) | (cases la <;> cases isV <;> decide)), if_pos (by first | decide | (cases isV <;> decide) | (cases la <;> cases isV <;> decide))]; exact hb) | (rw [if_neg (by first | decide | (cases isV <;> decide) | (cases la <;> cases isV <;> decide)), if_neg (by first | decide | (cases isV <;> decide) | (cases la <;> cases isV <;> decide))]; exact hb)) hk)
               clear hb hk HST HC1 HC2 HC3 HEN
               go_wp2_with fail
               exact ⟨⟨i + 1, _, by go_num, HN⟩, by simp [intOf]; omega⟩)
            | (refine HC2.out.mono ?_
               rintro e w2 ⟨⟨x, rfl⟩, hb, hk⟩
               have HN := Lib.hid (HST.out w2 (by rw [HEN.out]; first | (rw [if_pos (by first | decide | (cases isV <;> decide) | (cases la <;> cases isV <;> decide))]; exact hb) | (rw [if_neg (by first | decide | (cases isV <;> decide) | (cases la <;> cases isV <;> decide)), if_pos (by first | decide | (cases isV <;> decide) | (cases la <;> cases isV <;> decide))]; exact hb) | (rw [if_neg (by first | decide | (cases isV <;> decide) | (cases la <;> cases isV <;> decide)), if_neg (by first | decide | (cases isV <;> decide) | (cases la <;> cases isV <;> decide))]; exact hb)) hk)
               clear hb hk HST HC1 HC2 HC3 HEN
               go_wp2_with fail
               exact ⟨⟨i + 1, _, by go_num, HN⟩, by simp [intOf]; omega⟩)
            | (refine HC3.out.mono ?_
               rintro e w2 ⟨rfl, hb, hk⟩
               have HN := Lib.hid (HST.out w2 (by rw [HEN.out]; first | (rw [if_pos (by first | decide | (cases isV <;> decide) | (cases la <;> cases isV <;> decide))]; exact hb) | (rw [if_neg (by first | decide | (cases isV <;> decide) | (cases la <;> cases isV <;> decide)), if_pos (by first | decide | (cases isV <;> decide) | (cases la <;> cases isV <;> decide))]; exact hb) | (rw [if_neg (by first | decide | (cases isV <;> decide) | (cases la <;> cases isV <;> decide)), if_neg (by first | decide | (cases isV <;> decide) | (cases la <;> cases isV <;> decide)), HBC.out]; exact hb)) hk)
               clear hb hk HST HC1 HC2 HC3 HEN
               go_wp2_with fail
               exact ⟨⟨i + 1, _, by go_num, HN⟩, by simp [intOf]; omega⟩)
      · have hne : (n == 32) = false ∧ (n == 35) = false ∧ (n == 34) = false ∧ (n == 43) = false ∧ (n == 44) = false ∧ (n == 59) = false ∧ (n == 60) = false ∧ (n == 62) = false ∧ (n == 92) = false ∧ (n == 61) = false := by simp only [beq_eq_false_iff_ne]; omega
        obtain ⟨m32, m35, m34, m43, m44, m59, m60, m62, m92, m61⟩ := hne
        have q32 : ((n : Int) == 32) = false := by rw [beq_eq_false_iff_ne]; omega
        have q35 : ((n : Int) == 35) = false := by rw [beq_eq_false_iff_ne]; omega
        have q34 : ((n : Int) == 34) = false := by rw [beq_eq_false_iff_ne]; omega
        have q43 : ((n : Int) == 43) = false := by rw [beq_eq_false_iff_ne]; omega
        have q44 : ((n : Int) == 44) = false := by rw [beq_eq_false_iff_ne]; omega
        have q59 : ((n : Int) == 59) = false := by rw [beq_eq_false_iff_ne]; omega
        have q60 : ((n : Int) == 60) = false := by rw [beq_eq_false_iff_ne]; omega
        have q62 : ((n : Int) == 62) = false := by rw [beq_eq_false_iff_ne]; omega
        have q92 : ((n : Int) == 92) = false := by rw [beq_eq_false_iff_ne]; omega
        have q61 : ((n : Int) == 61) = false := by rw [beq_eq_false_iff_ne]; omega
        have z1 : decide ((n : Int) < 32) = true := decide_eq_true (by omega)
        have e1 : (decide (n < 32) || decide (126 < n)) = true := by simp; omega
        have HE2 : Hid (∀ a b d, encN a b d n = 2) := Lib.hid (fun a b d => by unfold encN; rw [m32, m35, m34, m43, m44, m59, m60, m62, m92, m61, e1]; cases a <;> cases b <;> cases d <;> rfl)
        clear e1 hn m32 m35 m34 m43 m44 m59 m60 m62 m92 m61
        cases f <;> cases la <;> cases isV
        all_goals
          go_wp2_with fail
          first
            | (refine HC1.out.mono ?_
               rintro e w2 ⟨⟨x, rfl⟩, hb, hk⟩
               have HN := Lib.hid (HST.out w2 (by rw [HEN.out]; first | (rw [if_pos (by simp [HE2.out])]; exact hb) | (rw [if_neg (by simp [HE2.out]), if_pos (by simp [HE2.out])]; exact hb) | (rw [if_neg (by simp [HE2.out]), if_neg (by simp [HE2.out])]; exact hb)) hk)
               clear hb hk HST HC1 HC2 HC3 HEN
               go_wp2_with fail
               exact ⟨⟨i + 1, _, by go_num, HN⟩, by simp [intOf]; omega⟩)
            | (refine HC2.out.mono ?_
               rintro e w2 ⟨⟨x, rfl⟩, hb, hk⟩
               have HN := Lib.hid (HST.out w2 (by rw [HEN.out]; first | (rw [if_pos (by simp [HE2.out])]; exact hb) | (rw [if_neg (by simp [HE2.out]), if_pos (by simp [HE2.out])]; exact hb) | (rw [if_neg (by simp [HE2.out]), if_neg (by simp [HE2.out])]; exact hb)) hk)
               clear hb hk HST HC1 HC2 HC3 HEN
               go_wp2_with fail
               exact ⟨⟨i + 1, _, by go_num, HN⟩, by simp [intOf]; omega⟩)
            | (refine HC3.out.mono ?_
               rintro e w2 ⟨rfl, hb, hk⟩
               have HN := Lib.hid (HST.out w2 (by rw [HEN.out]; first | (rw [if_pos (by simp [HE2.out])]; exact hb) | (rw [if_neg (by simp [HE2.out]), if_pos (by simp [HE2.out])]; exact hb) | (rw [if_neg (by simp [HE2.out]), if_neg (by simp [HE2.out]), HBC.out]; exact hb)) hk)
               clear hb hk HST HC1 HC2 HC3 HEN
               go_wp2_with fail
               exact ⟨⟨i + 1, _, by go_num, HN⟩, by simp [intOf]; omega⟩)
      · have hne : (n == 32) = false ∧ (n == 35) = false ∧ (n == 34) = false ∧ (n == 43) = false ∧ (n == 44) = false ∧ (n == 59) = false ∧ (n == 60) = false ∧ (n == 62) = false ∧ (n == 92) = false ∧ (n == 61) = false := by simp only [beq_eq_false_iff_ne]; omega
        obtain ⟨m32, m35, m34, m43, m44, m59, m60, m62, m92, m61⟩ := hne
        have q32 : ((n : Int) == 32) = false := by rw [beq_eq_false_iff_ne]; omega
        have q35 : ((n : Int) == 35) = false := by rw [beq_eq_false_iff_ne]; omega
        have q34 : ((n : Int) == 34) = false := by rw [beq_eq_false_iff_ne]; omega
        have q43 : ((n : Int) == 43) = false := by rw [beq_eq_false_iff_ne]; omega
        have q44 : ((n : Int) == 44) = false := by rw [beq_eq_false_iff_ne]; omega
        have q59 : ((n : Int) == 59) = false := by rw [beq_eq_false_iff_ne]; omega
        have q60 : ((n : Int) == 60) = false := by rw [beq_eq_false_iff_ne]; omega
        have q62 : ((n : Int) == 62) = false := by rw [beq_eq_false_iff_ne]; omega
        have q92 : ((n : Int) == 92) = false := by rw [beq_eq_false_iff_ne]; omega
        have q61 : ((n : Int) == 61) = false := by rw [beq_eq_false_iff_ne]; omega
        have z1 : decide ((n : Int) < 32) = false := decide_eq_false (by omega)
        have z2 : decide ((n : Int) > 126) = true := decide_eq_true (by omega)
        have e1 : (decide (n < 32) || decide (126 < n)) = true := by simp; omega
        have HE2 : Hid (∀ a b d, encN a b d n = 2) := Lib.hid (fun a b d => by unfold encN; rw [m32, m35, m34, m43, m44, m59, m60, m62, m92, m61, e1]; cases a <;> cases b <;> cases d <;> rfl)
        clear e1 hn m32 m35 m34 m43 m44 m59 m60 m62 m92 m61
        cases f <;> cases la <;> cases isV
        all_goals
          go_wp2_with fail
          first
            | (refine HC1.out.mono ?_
               rintro e w2 ⟨⟨x, rfl⟩, hb, hk⟩
               have HN := Lib.hid (HST.out w2 (by rw [HEN.out]; first | (rw [if_pos (by simp [HE2.out])]; exact hb) | (rw [if_neg (by simp [HE2.out]), if_pos (by simp [HE2.out])]; exact hb) | (rw [if_neg (by simp [HE2.out]), if_neg (by simp [HE2.out])]; exact hb)) hk)
               clear hb hk HST HC1 HC2 HC3 HEN
               go_wp2_with fail
               exact ⟨⟨i + 1, _, by go_num, HN⟩, by simp [intOf]; omega⟩)
            | (refine HC2.out.mono ?_
               rintro e w2 ⟨⟨x, rfl⟩, hb, hk⟩
               have HN := Lib.hid (HST.out w2 (by rw [HEN.out]; first | (rw [if_pos (by simp [HE2.out])]; exact hb) | (rw [if_neg (by simp [HE2.out]), if_pos (by simp [HE2.out])]; exact hb) | (rw [if_neg (by simp [HE2.out]), if_neg (by simp [HE2.out])]; exact hb)) hk)
               clear hb hk HST HC1 HC2 HC3 HEN
               go_wp2_with fail
               exact ⟨⟨i + 1, _, by go_num, HN⟩, by simp [intOf]; omega⟩)
            | (refine HC3.out.mono ?_
               rintro e w2 ⟨rfl, hb, hk⟩
               have HN := Lib.hid (HST.out w2 (by rw [HEN.out]; first | (rw [if_pos (by simp [HE2.out])]; exact hb) | (rw [if_neg (by simp [HE2.out]), if_pos (by simp [HE2.out])]; exact hb) | (rw [if_neg (by simp [HE2.out]), if_neg (by simp [HE2.out]), HBC.out]; exact hb)) hk)
               clear hb hk HST HC1 HC2 HC3 HEN
               go_wp2_with fail
               exact ⟨⟨i + 1, _, by go_num, HN⟩, by simp [intOf]; omega⟩)
      · have hne : (n == 32) = false ∧ (n == 35) = false ∧ (n == 34) = false ∧ (n == 43) = false ∧ (n == 44) = false ∧ (n == 59) = false ∧ (n == 60) = false ∧ (n == 62) = false ∧ (n == 92) = false ∧ (n == 61) = false := by simp only [beq_eq_false_iff_ne]; omega
        obtain ⟨m32, m35, m34, m43, m44, m59, m60, m62, m92, m61⟩ := hne
        have q32 : ((n : Int) == 32) = false := by rw [beq_eq_false_iff_ne]; omega
        have q35 : ((n : Int) == 35) = false := by rw [beq_eq_false_iff_ne]; omega
        have q34 : ((n : Int) == 34) = false := by rw [beq_eq_false_iff_ne]; omega
        have q43 : ((n : Int) == 43) = false := by rw [beq_eq_false_iff_ne]; omega
        have q44 : ((n : Int) == 44) = false := by rw [beq_eq_false_iff_ne]; omega
        have q59 : ((n : Int) == 59) = false := by rw [beq_eq_false_iff_ne]; omega
        have q60 : ((n : Int) == 60) = false := by rw [beq_eq_false_iff_ne]; omega
        have q62 : ((n : Int) == 62) = false := by rw [beq_eq_false_iff_ne]; omega
        have q92 : ((n : Int) == 92) = false := by rw [beq_eq_false_iff_ne]; omega
        have q61 : ((n : Int) == 61) = false := by rw [beq_eq_false_iff_ne]; omega
        have z1 : decide ((n : Int) < 32) = false := decide_eq_false (by omega)
        have z2 : decide ((n : Int) > 126) = false := decide_eq_false (by omega)
        have e1 : (decide (n < 32) || decide (126 < n)) = false := by simp; omega
        have HE2 : Hid (∀ a b d, encN a b d n = 0) := Lib.hid (fun a b d => by unfold encN; rw [m32, m35, m34, m43, m44, m59, m60, m62, m92, m61, e1]; cases a <;> cases b <;> cases d <;> rfl)
        clear e1 hn m32 m35 m34 m43 m44 m59 m60 m62 m92 m61
        cases f <;> cases la <;> cases isV
        all_goals
          go_wp2_with fail
          first
            | (refine HC1.out.mono ?_
               rintro e w2 ⟨⟨x, rfl⟩, hb, hk⟩
               have HN := Lib.hid (HST.out w2 (by rw [HEN.out]; first | (rw [if_pos (by simp [HE2.out])]; exact hb) | (rw [if_neg (by simp [HE2.out]), if_pos (by simp [HE2.out])]; exact hb) | (rw [if_neg (by simp [HE2.out]), if_neg (by simp [HE2.out])]; exact hb)) hk)
               clear hb hk HST HC1 HC2 HC3 HEN
               go_wp2_with fail
               exact ⟨⟨i + 1, _, by go_num, HN⟩, by simp [intOf]; omega⟩)
            | (refine HC2.out.mono ?_
               rintro e w2 ⟨⟨x, rfl⟩, hb, hk⟩
               have HN := Lib.hid (HST.out w2 (by rw [HEN.out]; first | (rw [if_pos (by simp [HE2.out])]; exact hb) | (rw [if_neg (by simp [HE2.out]), if_pos (by simp [HE2.out])]; exact hb) | (rw [if_neg (by simp [HE2.out]), if_neg (by simp [HE2.out])]; exact hb)) hk)
               clear hb hk HST HC1 HC2 HC3 HEN
               go_wp2_with fail
               exact ⟨⟨i + 1, _, by go_num, HN⟩, by simp [intOf]; omega⟩)
            | (refine HC3.out.mono ?_
               rintro e w2 ⟨rfl, hb, hk⟩
               have HN := Lib.hid (HST.out w2 (by rw [HEN.out]; first | (rw [if_pos (by simp [HE2.out])]; exact hb) | (rw [if_neg (by simp [HE2.out]), if_pos (by simp [HE2.out])]; exact hb) | (rw [if_neg (by simp [HE2.out]), if_neg (by simp [HE2.out]), HBC.out]; exact hb)) hk)
               clear hb hk HST HC1 HC2 HC3 HEN
               go_wp2_with fail
               exact ⟨⟨i + 1, _, by go_num, HN⟩, by simp [intOf]; omega⟩)
end Go.Proofs.YtjmahgefijncaaaGreatFmt

