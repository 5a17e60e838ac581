/- spec.NameUTF8: what it takes is UTF-8. -/
import Derived.Test.YtjmahgefijncaaaGreatFmtJ4
import Derived.Test.YtjmahgefijncaaaGreatFmtJ1
import Derived.Test.YtjmahgefijncaaaGreatFmtJ7
import Derived.Test.YtjmahgefijncaaaGreatFmtJ3
set_option linter.unusedVariables false
set_option linter.unusedSimpArgs false
namespace Go.Proofs.YtjmahgefijncaaaGreatFmt
open Go Go.RowKit

/-- What was read of a rune behind its first byte. -/
def acc (l : List UInt8) (i p0 : Nat) : Nat → Nat
  | 0 => p0
  | k + 1 => acc l i p0 k * 64 + ((l[i + (k + 1)]?).getD 0).toNat % 64
def Conts (l : List UInt8) (i k : Nat) : Prop := ∀ j, 1 ≤ j → j < k → ((l[i + j]?).getD 0).toNat / 64 = 2

def U8Inv (l : List UInt8) (w : World) (i : Nat) (wr : World) : Prop := (∃ rs, (∀ r ∈ rs, OkRune r) ∧ l.take i = encs rs) ∧ Below w.heap.size w wr

theorem wraps_i32 (n : Int) (h₀ : 0 ≤ n) (h₁ : n < 2 ^ 31) : IntKind.i32.wrap n = n := by rw [IntKind.wrap_i32]; omega

theorem acc_step {l : List UInt8} {i k p p0 : Nat} {d : UInt8} (hk : 1 ≤ k) (hd : l[i + k]? = some d) (hp : p = acc l i p0 (k - 1)) (hc : Conts l i k) (h : d.toNat / 64 = 2) :
    p * 64 + d.toNat % 64 = acc l i p0 k ∧ Conts l i (k + 1) := by
  obtain ⟨j, rfl⟩ : ∃ j, k = j + 1 := ⟨k - 1, by omega⟩
  refine ⟨?_, ?_⟩
  · rw [acc, hd, hp]; simp
  · intro t h1 h2
    rcases Nat.lt_or_ge t (j + 1) with h3 | h3
    · exact hc t h1 h3
    · have : t = j + 1 := by omega
      subst this; rw [hd]; simpa using h

theorem u8_grow {l : List UInt8} {w wr : World} {i : Nat} {r : Nat} {x : List UInt8} (hI : U8Inv l w i wr) (hr : OkRune r) (hx : Lib.encodeRune (r : Int) = x) (ht : l.take (i + x.length) = l.take i ++ x) : U8Inv l w (i + x.length) wr := by
  obtain ⟨⟨rs, hv, h⟩, hbel⟩ := hI
  refine ⟨⟨rs ++ [r], ?_, ?_⟩, hbel⟩
  · intro y hy
    rcases List.mem_append.1 hy with hy | hy
    · exact hv y hy
    · simp only [List.mem_singleton] at hy; subst hy; exact hr
  · rw [ht, h, encs_append, encs_cons, encs_nil, hx]; simp

theorem at_some {l : List UInt8} {i : Nat} (h : i < l.length) : ∃ d, l[i]? = some d := ⟨_, List.getElem?_eq_getElem h⟩

theorem good_step2 {l : List UInt8} {w wr : World} {i p : Nat} {b : UInt8} (h1 : 194 ≤ b.toNat) (h2 : b.toNat ≤ 223) (hf : i + 2 ≤ l.length) (hI : U8Inv l w i wr) (hb : l[i]? = some b)
    (hp : p = acc l i (b.toNat % 32) (2 - 1)) (hc : Conts l i 2) (_ : 128 ≤ p) (hv : OkRune p) : U8Inv l w (i + 2) wr := by
  obtain ⟨d, hd⟩ := at_some (l := l) (i := i + 1) (by omega)
  have c1 := hc 1 (by omega) (by omega)
  rw [hd] at c1
  have c1 : d.toNat / 64 = 2 := by simpa using c1
  have hpe : p = b.toNat % 32 * 64 + d.toNat % 64 := by rw [hp]; simp [acc, hd]
  refine u8_grow hI hv (x := [b, d]) (by rw [hpe]; exact of_two b d h1 h2 c1) ?_
  show l.take (i + 1 + 1) = _
  rw [take_snoc hd, take_snoc hb]; simp

theorem good_step3 {l : List UInt8} {w wr : World} {i p : Nat} {b : UInt8} (h1 : 224 ≤ b.toNat) (h2 : b.toNat ≤ 239) (hf : i + 3 ≤ l.length) (hI : U8Inv l w i wr) (hb : l[i]? = some b)
    (hp : p = acc l i (b.toNat % 16) (3 - 1)) (hc : Conts l i 3) (hl : 2048 ≤ p) (hv : OkRune p) : U8Inv l w (i + 3) wr := by
  obtain ⟨d, hd⟩ := at_some (l := l) (i := i + 1) (by omega)
  obtain ⟨e, he⟩ := at_some (l := l) (i := i + 1 + 1) (by omega)
  have c1 := hc 1 (by omega) (by omega)
  have c2 := hc 2 (by omega) (by omega)
  rw [hd] at c1
  rw [show i + 2 = i + 1 + 1 by omega, he] at c2
  have c1 : d.toNat / 64 = 2 := by simpa using c1
  have c2 : e.toNat / 64 = 2 := by simpa using c2
  have hpe : p = b.toNat % 16 * 4096 + d.toNat % 64 * 64 + e.toNat % 64 := by
    rw [hp]
    simp only [acc, show i + (1 + 1) = i + 1 + 1 by omega, show i + (0 + 1) = i + 1 by omega, hd, he, Option.getD_some]; omega
  refine u8_grow hI hv (x := [b, d, e]) (by rw [hpe] at hv hl ⊢; exact of_three b d e h1 h2 c1 c2 hv hl) ?_
  show l.take (i + 1 + 1 + 1) = _
  rw [take_snoc he, take_snoc hd, take_snoc hb]; simp

theorem good_step4 {l : List UInt8} {w wr : World} {i p : Nat} {b : UInt8} (h1 : 240 ≤ b.toNat) (h2 : b.toNat ≤ 244) (hf : i + 4 ≤ l.length) (hI : U8Inv l w i wr) (hb : l[i]? = some b)
    (hp : p = acc l i (b.toNat % 8) (4 - 1)) (hc : Conts l i 4) (hl : 65536 ≤ p) (hv : OkRune p) : U8Inv l w (i + 4) wr := by
  obtain ⟨d, hd⟩ := at_some (l := l) (i := i + 1) (by omega)
  obtain ⟨e, he⟩ := at_some (l := l) (i := i + 1 + 1) (by omega)
  obtain ⟨g, hg⟩ := at_some (l := l) (i := i + 1 + 1 + 1) (by omega)
  have c1 := hc 1 (by omega) (by omega)
  have c2 := hc 2 (by omega) (by omega)
  have c3 := hc 3 (by omega) (by omega)
  rw [hd] at c1
  rw [show i + 2 = i + 1 + 1 by omega, he] at c2
  rw [show i + 3 = i + 1 + 1 + 1 by omega, hg] at c3
  have c1 : d.toNat / 64 = 2 := by simpa using c1
  have c2 : e.toNat / 64 = 2 := by simpa using c2
  have c3 : g.toNat / 64 = 2 := by simpa using c3
  have hpe : p = b.toNat % 8 * 262144 + d.toNat % 64 * 4096 + e.toNat % 64 * 64 + g.toNat % 64 := by
    rw [hp]
    simp only [acc, show i + (2 + 1) = i + 1 + 1 + 1 by omega, show i + (1 + 1) = i + 1 + 1 by omega, show i + (0 + 1) = i + 1 by omega, hd, he, hg, Option.getD_some]; omega
  refine u8_grow hI hv (x := [b, d, e, g]) (by rw [hpe] at hv hl ⊢; exact of_four b d e g h1 h2 c1 c2 c3 hv hl) ?_
  show l.take (i + 1 + 1 + 1 + 1) = _
  rw [take_snoc hg, take_snoc he, take_snoc hd, take_snoc hb]; simp

set_option maxRecDepth 100000 in
set_option maxHeartbeats 16000000 in
theorem utf8_any (l : List UInt8) (hl : l.length < 4000000000) (w : World) :
    Calls Tryz.prog 23 #[.string (Nm.bs l)] w fun e w' => BoolRes (Utf l) e ∧ Below w.heap.size w w' := by
  have hsz := bs_size l
  go_enter Tryz.func23, Tryz.ntmps23
  go_wp2_with fail
  go_loopw [3] (fun t3 wr => ∃ i : Nat, t3 = .int .i64 i ∧ i ≤ l.length ∧ Hid (U8Inv l w i wr)) (fun t3 _ => l.length - (intOf t3).toNat)
  case atStart => exact ⟨0, rfl, Nat.zero_le _, Lib.hid ⟨⟨[], by simp, by simp⟩, Below.refl _ _⟩⟩
  case round =>
    obtain ⟨i, rfl, hi, HI⟩ := hrel
    by_cases hend : i = l.length
    · subst hend
      have t1 : decide ((l.length : Int) < (l.length : Int)) = false := by simp
      go_wp2_with fail
      go_ret
      refine ⟨⟨_, rfl, fun _ => ?_⟩, HI.out.2⟩
      have := HI.out.1; rw [List.take_length] at this; exact this
    · have hlt : i < l.length := by omega
      have hlt2 : i < (Nm.bs l).size := by rw [hsz]; exact hlt
      have t1 : decide ((i : Int) < (l.length : Int)) = true := by simp; omega
      obtain ⟨b, hb, hget⟩ : ∃ b : UInt8, l[i]? = some b ∧ ((Nm.bs l)[i]'hlt2).toNat = b.toNat := ⟨_, List.getElem?_eq_getElem hlt, by rw [bs_get]⟩
      have hbl := UInt8.toNat_lt b
      have HB := Lib.hid hb
      clear hb hend
      have hcs : b.toNat < 128 ∨ (128 ≤ b.toNat ∧ b.toNat < 194 ∨ 244 < b.toNat) ∨ (194 ≤ b.toNat ∧ b.toNat ≤ 223) ∨ (224 ≤ b.toNat ∧ b.toNat ≤ 239) ∨ (240 ≤ b.toNat ∧ b.toNat ≤ 244) := by omega
      rcases hcs with hc | hc | hc | hc | hc
      · have hstep : U8Inv l w (i + 1) wr := by
          obtain ⟨⟨rs, hv, ht⟩, hbel⟩ := HI.out
          refine ⟨⟨rs ++ [b.toNat], ?_, ?_⟩, hbel⟩
          · intro r hr
            rcases List.mem_append.1 hr with hr | hr
            · exact hv r hr
            · simp only [List.mem_singleton] at hr; subst hr; exact Or.inl (by omega)
          · rw [take_snoc HB.out, ht, encs_append, encs_cons, encs_nil, enc_one hc, u8_eq (x := b) rfl]; rfl
        have HS := Lib.hid hstep
        clear hstep
        generalize b.toNat = n at *
        have q1 : decide ((n : Int) < 128) = true := by simp; omega
        go_wp2_with fail
        exact ⟨⟨i + 1, by go_num, by omega, HS⟩, by simp [intOf]; omega⟩
      · generalize b.toNat = n at *
        have q1 : decide ((n : Int) < 128) = false := by simp; omega
        rcases hc with hc | hc
        · have q2 : decide ((194 : Int) ≤ (n : Int)) = false := by simp; omega
          have q3 : decide ((224 : Int) ≤ (n : Int)) = false := by simp; omega
          have q4 : decide ((240 : Int) ≤ (n : Int)) = false := by simp; omega
          go_wp2_with fail
          go_ret
          exact ⟨⟨_, rfl, fun h => by simp at h⟩, HI.out.2⟩
        · have q2 : decide ((n : Int) ≤ 223) = false := by simp; omega
          have q3 : decide ((n : Int) ≤ 239) = false := by simp; omega
          have q4 : decide ((n : Int) ≤ 244) = false := by simp; omega
          have q5 : decide ((194 : Int) ≤ (n : Int)) = true := by simp; omega
          have q6 : decide ((224 : Int) ≤ (n : Int)) = true := by simp; omega
          have q7 : decide ((240 : Int) ≤ (n : Int)) = true := by simp; omega
          go_wp2_with fail
          go_ret
          exact ⟨⟨_, rfl, fun h => by simp at h⟩, HI.out.2⟩
      · obtain ⟨hc1, hc2⟩ := hc
        have hm : bits .and .i32 (b.toNat : Int) 31 = ((b.toNat % 32 : Nat) : Int) := by
          have := bits_mask .i32 31 (by decide) wraps_i32 5 (by decide) (b.toNat : Int) (by omega) (by omega)
          simpa using this
        have q1 : decide ((b.toNat : Int) < 128) = false := by simp; omega
        have q2 : decide ((194 : Int) ≤ (b.toNat : Int)) = true := by simp; omega
        have q5 : decide ((b.toNat : Int) ≤ 223) = true := by simp; omega
        by_cases hfit : i + 2 ≤ l.length
        · have q4 : decide ((l.length : Int) < (i : Int) + 2) = false := by simp; omega
          go_wp2_with fail
          go_loopw [7, 8] (fun t7 t8 wi => ∃ k p : Nat, t8 = .int .i64 k ∧ t7 = .int .i32 p ∧ 1 ≤ k ∧ k ≤ 2 ∧ (k = 1 → p < 32) ∧ (k = 2 → p < 2048) ∧ (k = 3 → p < 131072) ∧ p < 8388608 ∧ wi = wr ∧ Hid (p = acc l i (b.toNat % 32) (k - 1) ∧ Conts l i k)) (fun _ t8 _ => 2 - (intOf t8).toNat)
          case atStart => exact ⟨1, b.toNat % 32, rfl, by go_num, by omega, by omega, by omega, by omega, by omega, by omega, rfl, Lib.hid ⟨rfl, fun j h1 h2 => by omega⟩⟩
          case round =>
            obtain ⟨k, p, rfl, rfl, hk1, hkn, hp1, hp2, hp3, hp4, rfl, HP⟩ := hrel
            by_cases hkend : k = 2
            · subst hkend
              have hgood := good_step2 (l := l) (w := w) (wr := wr) (b := b) (p := p) (i := i) hc1 hc2 hfit HI.out HB.out HP.out.1 HP.out.2
              have HG := Lib.hid hgood
              clear hgood
              have t2 : decide ((2 : Int) < 2) = false := by simp
              by_cases hl1 : p < 128
              · have r1 : decide ((p : Int) < 128) = true := by simp; omega
                go_wp2_with fail
                go_ret
                exact ⟨⟨_, rfl, fun h => by simp at h⟩, HI.out.2⟩
              have r1 : decide ((p : Int) < 128) = false := by simp; omega
              by_cases hl2 : 1114111 < p
              · have r2 : decide ((1114111 : Int) < (p : Int)) = true := by simp; omega
                go_wp2_with fail
                go_ret
                exact ⟨⟨_, rfl, fun h => by simp at h⟩, HI.out.2⟩
              have r2 : decide ((1114111 : Int) < (p : Int)) = false := by simp; omega
              by_cases hl3 : 55296 ≤ p
              · have r3 : decide ((55296 : Int) ≤ (p : Int)) = true := by simp; omega
                by_cases hl4 : p ≤ 57343
                · have r4 : decide ((p : Int) ≤ 57343) = true := by simp; omega
                  go_wp2_with fail
                  go_ret
                  exact ⟨⟨_, rfl, fun h => by simp at h⟩, HI.out.2⟩
                · have r4 : decide ((p : Int) ≤ 57343) = false := by simp; omega
                  go_wp2_with fail
                  exact ⟨⟨i + 2, by go_num, by omega, Lib.hid (HG.out (by omega) (Or.inr ⟨by omega, by omega⟩))⟩, by simp [intOf]; omega⟩
              · have r3 : decide ((55296 : Int) ≤ (p : Int)) = false := by simp; omega
                go_wp2_with fail
                exact ⟨⟨i + 2, by go_num, by omega, Lib.hid (HG.out (by omega) (Or.inl (by omega)))⟩, by simp [intOf]; omega⟩
            · have hklt : k < 2 := by omega
              have t2 : decide ((k : Int) < 2) = true := by simp; omega
              have hik : i + k < l.length := by omega
              have hik2 : i + k < (Nm.bs l).size := by rw [hsz]; exact hik
              have hik3 : (i : Int) + (k : Int) < ((Nm.bs l).size : Int) := by omega
              have hik0 : (0 : Int) ≤ (i : Int) + (k : Int) := by omega
              have hikn : ((i : Int) + (k : Int)).toNat = i + k := by omega
              obtain ⟨d, hd, hgetd⟩ : ∃ d : UInt8, l[i + k]? = some d ∧ ((Nm.bs l)[i + k]'hik2).toNat = d.toNat := ⟨_, List.getElem?_eq_getElem hik, by rw [bs_get]⟩
              have hdl := UInt8.toNat_lt d
              have ha : bits .and .u8 (d.toNat : Int) 192 = ((d.toNat / 64 * 64 : Nat) : Int) := and192 (by omega)
              have hb6 : bits .and .u8 (d.toNat : Int) 63 = ((d.toNat % 64 : Nat) : Int) := by
                have := bits_mask .u8 8 (by decide) wraps_u8 6 (by decide) (d.toNat : Int) (by omega) (by omega)
                simpa using this
              have hor : bits .or .i32 ((p * 64 : Nat) : Int) ((d.toNat % 64 : Nat) : Int) = ((p * 64 + d.toNat % 64 : Nat) : Int) := by
                have := bits_join .i32 31 (by decide) wraps_i32 6 ((p * 64 : Nat) : Int) ((d.toNat % 64 : Nat) : Int) (by omega) (by omega) (by omega) (by omega) (by omega) (by omega)
                rw [this]; simp
              have HQ : Hid (d.toNat / 64 = 2 → (p * 64 + d.toNat % 64 = acc l i (b.toNat % 32) k ∧ Conts l i (k + 1))) := Lib.hid (fun h => acc_step hk1 hd HP.out.1 HP.out.2 h)
              clear hd
              generalize hx : d.toNat = x at *
              generalize hy : x / 64 * 64 = y at *
              generalize hz : x % 64 = z at *
              by_cases h2 : x / 64 = 2
              · have hy2 : y = 128 := by omega
                subst hy2
                go_wp2_with fail
                have hQ := HQ.out h2
                exact ⟨⟨k + 1, p * 64 + z, by go_num, by go_num, by omega, by omega, by omega, by omega, by omega, by omega, trivial, Lib.hid hQ⟩, by simp [intOf]; omega⟩
              · have hy2 : ((y : Int) == 128) = false := by rw [beq_eq_false_iff_ne]; omega
                go_wp2_with fail
                go_ret
                exact ⟨⟨_, rfl, fun h => by simp at h⟩, HI.out.2⟩
        · have q4 : decide ((l.length : Int) < (i : Int) + 2) = true := by simp; omega
          go_wp2_with fail
          go_ret
          exact ⟨⟨_, rfl, fun h => by simp at h⟩, HI.out.2⟩
      · obtain ⟨hc1, hc2⟩ := hc
        have hm : bits .and .i32 (b.toNat : Int) 15 = ((b.toNat % 16 : Nat) : Int) := by
          have := bits_mask .i32 31 (by decide) wraps_i32 4 (by decide) (b.toNat : Int) (by omega) (by omega)
          simpa using this
        have q1 : decide ((b.toNat : Int) < 128) = false := by simp; omega
        have q3 : decide ((b.toNat : Int) ≤ 223) = false := by simp; omega
        have q2 : decide ((194 : Int) ≤ (b.toNat : Int)) = true := by simp; omega
        have q22 : decide ((224 : Int) ≤ (b.toNat : Int)) = true := by simp; omega
        have q5 : decide ((b.toNat : Int) ≤ 239) = true := by simp; omega
        by_cases hfit : i + 3 ≤ l.length
        · have q4 : decide ((l.length : Int) < (i : Int) + 3) = false := by simp; omega
          go_wp2_with fail
          go_loopw [7, 8] (fun t7 t8 wi => ∃ k p : Nat, t8 = .int .i64 k ∧ t7 = .int .i32 p ∧ 1 ≤ k ∧ k ≤ 3 ∧ (k = 1 → p < 32) ∧ (k = 2 → p < 2048) ∧ (k = 3 → p < 131072) ∧ p < 8388608 ∧ wi = wr ∧ Hid (p = acc l i (b.toNat % 16) (k - 1) ∧ Conts l i k)) (fun _ t8 _ => 3 - (intOf t8).toNat)
          case atStart => exact ⟨1, b.toNat % 16, rfl, by go_num, by omega, by omega, by omega, by omega, by omega, by omega, rfl, Lib.hid ⟨rfl, fun j h1 h2 => by omega⟩⟩
          case round =>
            obtain ⟨k, p, rfl, rfl, hk1, hkn, hp1, hp2, hp3, hp4, rfl, HP⟩ := hrel
            by_cases hkend : k = 3
            · subst hkend
              have hgood := good_step3 (l := l) (w := w) (wr := wr) (b := b) (p := p) (i := i) hc1 hc2 hfit HI.out HB.out HP.out.1 HP.out.2
              have HG := Lib.hid hgood
              clear hgood
              have t2 : decide ((3 : Int) < 3) = false := by simp
              by_cases hl1 : p < 2048
              · have r1 : decide ((p : Int) < 2048) = true := by simp; omega
                go_wp2_with fail
                go_ret
                exact ⟨⟨_, rfl, fun h => by simp at h⟩, HI.out.2⟩
              have r1 : decide ((p : Int) < 2048) = false := by simp; omega
              by_cases hl2 : 1114111 < p
              · have r2 : decide ((1114111 : Int) < (p : Int)) = true := by simp; omega
                go_wp2_with fail
                go_ret
                exact ⟨⟨_, rfl, fun h => by simp at h⟩, HI.out.2⟩
              have r2 : decide ((1114111 : Int) < (p : Int)) = false := by simp; omega
              by_cases hl3 : 55296 ≤ p
              · have r3 : decide ((55296 : Int) ≤ (p : Int)) = true := by simp; omega
                by_cases hl4 : p ≤ 57343
                · have r4 : decide ((p : Int) ≤ 57343) = true := by simp; omega
                  go_wp2_with fail
                  go_ret
                  exact ⟨⟨_, rfl, fun h => by simp at h⟩, HI.out.2⟩
                · have r4 : decide ((p : Int) ≤ 57343) = false := by simp; omega
                  go_wp2_with fail
                  exact ⟨⟨i + 3, by go_num, by omega, Lib.hid (HG.out (by omega) (Or.inr ⟨by omega, by omega⟩))⟩, by simp [intOf]; omega⟩
              · have r3 : decide ((55296 : Int) ≤ (p : Int)) = false := by simp; omega
                go_wp2_with fail
                exact ⟨⟨i + 3, by go_num, by omega, Lib.hid (HG.out (by omega) (Or.inl (by omega)))⟩, by simp [intOf]; omega⟩
            · have hklt : k < 3 := by omega
              have t2 : decide ((k : Int) < 3) = true := by simp; omega
              have hik : i + k < l.length := by omega
              have hik2 : i + k < (Nm.bs l).size := by rw [hsz]; exact hik
              have hik3 : (i : Int) + (k : Int) < ((Nm.bs l).size : Int) := by omega
              have hik0 : (0 : Int) ≤ (i : Int) + (k : Int) := by omega
              have hikn : ((i : Int) + (k : Int)).toNat = i + k := by omega
              obtain ⟨d, hd, hgetd⟩ : ∃ d : UInt8, l[i + k]? = some d ∧ ((Nm.bs l)[i + k]'hik2).toNat = d.toNat := ⟨_, List.getElem?_eq_getElem hik, by rw [bs_get]⟩
              have hdl := UInt8.toNat_lt d
              have ha : bits .and .u8 (d.toNat : Int) 192 = ((d.toNat / 64 * 64 : Nat) : Int) := and192 (by omega)
              have hb6 : bits .and .u8 (d.toNat : Int) 63 = ((d.toNat % 64 : Nat) : Int) := by
                have := bits_mask .u8 8 (by decide) wraps_u8 6 (by decide) (d.toNat : Int) (by omega) (by omega)
                simpa using this
              have hor : bits .or .i32 ((p * 64 : Nat) : Int) ((d.toNat % 64 : Nat) : Int) = ((p * 64 + d.toNat % 64 : Nat) : Int) := by
                have := bits_join .i32 31 (by decide) wraps_i32 6 ((p * 64 : Nat) : Int) ((d.toNat % 64 : Nat) : Int) (by omega) (by omega) (by omega) (by omega) (by omega) (by omega)
                rw [this]; simp
              have HQ : Hid (d.toNat / 64 = 2 → (p * 64 + d.toNat % 64 = acc l i (b.toNat % 16) k ∧ Conts l i (k + 1))) := Lib.hid (fun h => acc_step hk1 hd HP.out.1 HP.out.2 h)
              clear hd
              generalize hx : d.toNat = x at *
              generalize hy : x / 64 * 64 = y at *
              generalize hz : x % 64 = z at *
              by_cases h2 : x / 64 = 2
              · have hy2 : y = 128 := by omega
                subst hy2
                go_wp2_with fail
                have hQ := HQ.out h2
                exact ⟨⟨k + 1, p * 64 + z, by go_num, by go_num, by omega, by omega, by omega, by omega, by omega, by omega, trivial, Lib.hid hQ⟩, by simp [intOf]; omega⟩
              · have hy2 : ((y : Int) == 128) = false := by rw [beq_eq_false_iff_ne]; omega
                go_wp2_with fail
                go_ret
                exact ⟨⟨_, rfl, fun h => by simp at h⟩, HI.out.2⟩
        · have q4 : decide ((l.length : Int) < (i : Int) + 3) = true := by simp; omega
          go_wp2_with fail
          go_ret
          exact ⟨⟨_, rfl, fun h => by simp at h⟩, HI.out.2⟩
      · obtain ⟨hc1, hc2⟩ := hc
        have hm : bits .and .i32 (b.toNat : Int) 7 = ((b.toNat % 8 : Nat) : Int) := by
          have := bits_mask .i32 31 (by decide) wraps_i32 3 (by decide) (b.toNat : Int) (by omega) (by omega)
          simpa using this
        have q1 : decide ((b.toNat : Int) < 128) = false := by simp; omega
        have q3 : decide ((b.toNat : Int) ≤ 223) = false := by simp; omega
        have q33 : decide ((b.toNat : Int) ≤ 239) = false := by simp; omega
        have q2 : decide ((194 : Int) ≤ (b.toNat : Int)) = true := by simp; omega
        have q22 : decide ((224 : Int) ≤ (b.toNat : Int)) = true := by simp; omega
        have q222 : decide ((240 : Int) ≤ (b.toNat : Int)) = true := by simp; omega
        have q5 : decide ((b.toNat : Int) ≤ 244) = true := by simp; omega
        by_cases hfit : i + 4 ≤ l.length
        · have q4 : decide ((l.length : Int) < (i : Int) + 4) = false := by simp; omega
          go_wp2_with fail
          go_loopw [7, 8] (fun t7 t8 wi => ∃ k p : Nat, t8 = .int .i64 k ∧ t7 = .int .i32 p ∧ 1 ≤ k ∧ k ≤ 4 ∧ (k = 1 → p < 32) ∧ (k = 2 → p < 2048) ∧ (k = 3 → p < 131072) ∧ p < 8388608 ∧ wi = wr ∧ Hid (p = acc l i (b.toNat % 8) (k - 1) ∧ Conts l i k)) (fun _ t8 _ => 4 - (intOf t8).toNat)
          case atStart => exact ⟨1, b.toNat % 8, rfl, by go_num, by omega, by omega, by omega, by omega, by omega, by omega, rfl, Lib.hid ⟨rfl, fun j h1 h2 => by omega⟩⟩
          case round =>
            obtain ⟨k, p, rfl, rfl, hk1, hkn, hp1, hp2, hp3, hp4, rfl, HP⟩ := hrel
            by_cases hkend : k = 4
            · subst hkend
              have hgood := good_step4 (l := l) (w := w) (wr := wr) (b := b) (p := p) (i := i) hc1 hc2 hfit HI.out HB.out HP.out.1 HP.out.2
              have HG := Lib.hid hgood
              clear hgood
              have t2 : decide ((4 : Int) < 4) = false := by simp
              by_cases hl1 : p < 65536
              · have r1 : decide ((p : Int) < 65536) = true := by simp; omega
                go_wp2_with fail
                go_ret
                exact ⟨⟨_, rfl, fun h => by simp at h⟩, HI.out.2⟩
              have r1 : decide ((p : Int) < 65536) = false := by simp; omega
              by_cases hl2 : 1114111 < p
              · have r2 : decide ((1114111 : Int) < (p : Int)) = true := by simp; omega
                go_wp2_with fail
                go_ret
                exact ⟨⟨_, rfl, fun h => by simp at h⟩, HI.out.2⟩
              have r2 : decide ((1114111 : Int) < (p : Int)) = false := by simp; omega
              by_cases hl3 : 55296 ≤ p
              · have r3 : decide ((55296 : Int) ≤ (p : Int)) = true := by simp; omega
                by_cases hl4 : p ≤ 57343
                · have r4 : decide ((p : Int) ≤ 57343) = true := by simp; omega
                  go_wp2_with fail
                  go_ret
                  exact ⟨⟨_, rfl, fun h => by simp at h⟩, HI.out.2⟩
                · have r4 : decide ((p : Int) ≤ 57343) = false := by simp; omega
                  go_wp2_with fail
                  exact ⟨⟨i + 4, by go_num, by omega, Lib.hid (HG.out (by omega) (Or.inr ⟨by omega, by omega⟩))⟩, by simp [intOf]; omega⟩
              · have r3 : decide ((55296 : Int) ≤ (p : Int)) = false := by simp; omega
                go_wp2_with fail
                exact ⟨⟨i + 4, by go_num, by omega, Lib.hid (HG.out (by omega) (Or.inl (by omega)))⟩, by simp [intOf]; omega⟩
            · have hklt : k < 4 := by omega
              have t2 : decide ((k : Int) < 4) = true := by simp; omega
              have hik : i + k < l.length := by omega
              have hik2 : i + k < (Nm.bs l).size := by rw [hsz]; exact hik
              have hik3 : (i : Int) + (k : Int) < ((Nm.bs l).size : Int) := by omega
              have hik0 : (0 : Int) ≤ (i : Int) + (k : Int) := by omega
              have hikn : ((i : Int) + (k : Int)).toNat = i + k := by omega
              obtain ⟨d, hd, hgetd⟩ : ∃ d : UInt8, l[i + k]? = some d ∧ ((Nm.bs l)[i + k]'hik2).toNat = d.toNat := ⟨_, List.getElem?_eq_getElem hik, by rw [bs_get]⟩
              have hdl := UInt8.toNat_lt d
              have ha : bits .and .u8 (d.toNat : Int) 192 = ((d.toNat / 64 * 64 : Nat) : Int) := and192 (by omega)
              have hb6 : bits .and .u8 (d.toNat : Int) 63 = ((d.toNat % 64 : Nat) : Int) := by
                have := bits_mask .u8 8 (by decide) wraps_u8 6 (by decide) (d.toNat : Int) (by omega) (by omega)
                simpa using this
              have hor : bits .or .i32 ((p * 64 : Nat) : Int) ((d.toNat % 64 : Nat) : Int) = ((p * 64 + d.toNat % 64 : Nat) : Int) := by
                have := bits_join .i32 31 (by decide) wraps_i32 6 ((p * 64 : Nat) : Int) ((d.toNat % 64 : Nat) : Int) (by omega) (by omega) (by omega) (by omega) (by omega) (by omega)
                rw [this]; simp
              have HQ : Hid (d.toNat / 64 = 2 → (p * 64 + d.toNat % 64 = acc l i (b.toNat % 8) k ∧ Conts l i (k + 1))) := Lib.hid (fun h => acc_step hk1 hd HP.out.1 HP.out.2 h)
              clear hd
              generalize hx : d.toNat = x at *
              generalize hy : x / 64 * 64 = y at *
              generalize hz : x % 64 = z at *
              by_cases h2 : x / 64 = 2
              · have hy2 : y = 128 := by omega
                subst hy2
                go_wp2_with fail
                have hQ := HQ.out h2
                exact ⟨⟨k + 1, p * 64 + z, by go_num, by go_num, by omega, by omega, by omega, by omega, by omega, by omega, trivial, Lib.hid hQ⟩, by simp [intOf]; omega⟩
              · have hy2 : ((y : Int) == 128) = false := by rw [beq_eq_false_iff_ne]; omega
                go_wp2_with fail
                go_ret
                exact ⟨⟨_, rfl, fun h => by simp at h⟩, HI.out.2⟩
        · have q4 : decide ((l.length : Int) < (i : Int) + 4) = true := by simp; omega
          go_wp2_with fail
          go_ret
          exact ⟨⟨_, rfl, fun h => by simp at h⟩, HI.out.2⟩
end Go.Proofs.YtjmahgefijncaaaGreatFmt

