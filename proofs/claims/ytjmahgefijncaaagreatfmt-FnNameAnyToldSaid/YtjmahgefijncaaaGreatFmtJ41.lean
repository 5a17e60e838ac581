/- spec.NameUTF8: what it takes is UTF-8. -/
import Derived.Test.YtjmahgefijncaaaGreatFmtJ4
import Derived.Test.YtjmahgefijncaaaGreatFmtJ1
import Derived.Test.YtjmahgefijncaaaGreatFmtJ7
import Derived.Test.YtjmahgefijncaaaGreatFmtJ3
import Derived.Test.YtjmahgefijncaaaGreatFmtJ40
import Derived.Deep.RegionLaw
import Derived.Test.YtjmahgefijncaaaGreatFmtJ39
import Derived.Deep.QuietTactic
import Derived.BigQuiet
set_option linter.unusedVariables false
set_option linter.unusedSimpArgs false
namespace Go.Proofs.YtjmahgefijncaaaGreatFmt
open Go Go.RowKit

/-- What was read of a rune behind its first byte. -/
def acc (l : List UInt8) (i p0 : Nat) : Nat → Nat
  | 0 => p0
  | k + 1 => acc l i p0 k * 64 + ((l[i + (k + 1)]?).getD 0).toNat % 64
def Conts (l : List UInt8) (i k : Nat) : Prop := ∀ j, 1 ≤ j → j < k → ((l[i + j]?).getD 0).toNat / 64 = 2

def U8Inv (l : List UInt8) (w : World) (i : Nat) (wr : World) : Prop := (∃ rs, (∀ r ∈ rs, OkRune r) ∧ l.take i = encs rs) ∧ Below w.heap.size w wr

theorem wraps_i32 (n : Int) (h₀ : 0 ≤ n) (h₁ : n < 2 ^ 31) : IntKind.i32.wrap n = n := by rw [IntKind.wrap_i32]; omega

theorem acc_step {l : List UInt8} {i k p p0 : Nat} {d : UInt8} (hk : 1 ≤ k) (hd : l[i + k]? = some d) (hp : p = acc l i p0 (k - 1)) (hc : Conts l i k) (h : d.toNat / 64 = 2) :
    p * 64 + d.toNat % 64 = acc l i p0 k ∧ Conts l i (k + 1) := by
  obtain ⟨j, rfl⟩ : ∃ j, k = j + 1 := ⟨k - 1, by omega⟩
  refine ⟨?_, ?_⟩
  · rw [acc, hd, hp]; simp
  · intro t h1 h2
    rcases Nat.lt_or_ge t (j + 1) with h3 | h3
    · exact hc t h1 h3
    · have : t = j + 1 := by omega
      subst this; rw [hd]; simpa using h

theorem u8_grow {l : List UInt8} {w wr : World} {i : Nat} {r : Nat} {x : List UInt8} (hI : U8Inv l w i wr) (hr : OkRune r) (hx : Lib.encodeRune (r : Int) = x) (ht : l.take (i + x.length) = l.take i ++ x) : U8Inv l w (i + x.length) wr := by
  obtain ⟨⟨rs, hv, h⟩, hbel⟩ := hI
  refine ⟨⟨rs ++ [r], ?_, ?_⟩, hbel⟩
  · intro y hy
    rcases List.mem_append.1 hy with hy | hy
    · exact hv y hy
    · simp only [List.mem_singleton] at hy; subst hy; exact hr
  · rw [ht, h, encs_append, encs_cons, encs_nil, hx]; simp

theorem at_some {l : List UInt8} {i : Nat} (h : i < l.length) : ∃ d, l[i]? = some d := ⟨_, List.getElem?_eq_getElem h⟩

theorem good_step2 {l : List UInt8} {w wr : World} {i p : Nat} {b : UInt8} (h1 : 194 ≤ b.toNat) (h2 : b.toNat ≤ 223) (hf : i + 2 ≤ l.length) (hI : U8Inv l w i wr) (hb : l[i]? = some b)
    (hp : p = acc l i (b.toNat % 32) (2 - 1)) (hc : Conts l i 2) (_ : 128 ≤ p) (hv : OkRune p) : U8Inv l w (i + 2) wr := by
  obtain ⟨d, hd⟩ := at_some (l := l) (i := i + 1) (by omega)
  have c1 := hc 1 (by omega) (by omega)
  rw [hd] at c1
  have c1 : d.toNat / 64 = 2 := by simpa using c1
  have hpe : p = b.toNat % 32 * 64 + d.toNat % 64 := by rw [hp]; simp [acc, hd]
  refine u8_grow hI hv (x := [b, d]) (by rw [hpe]; exact of_two b d h1 h2 c1) ?_
  show l.take (i + 1 + 1) = _
  rw [take_snoc hd, take_snoc hb]; simp

theorem good_step3 {l : List UInt8} {w wr : World} {i p : Nat} {b : UInt8} (h1 : 224 ≤ b.toNat) (h2 : b.toNat ≤ 239) (hf : i + 3 ≤ l.length) (hI : U8Inv l w i wr) (hb : l[i]? = some b)
    (hp : p = acc l i (b.toNat % 16) (3 - 1)) (hc : Conts l i 3) (hl : 2048 ≤ p) (hv : OkRune p) : U8Inv l w (i + 3) wr := by
  obtain ⟨d, hd⟩ := at_some (l := l) (i := i + 1) (by omega)
  obtain ⟨e, he⟩ := at_some (l := l) (i := i + 1 + 1) (by omega)
  have c1 := hc 1 (by omega) (by omega)
  have c2 := hc 2 (by omega) (by omega)
  rw [hd] at c1
  rw [show i + 2 = i + 1 + 1 by omega, he] at c2
  have c1 : d.toNat / 64 = 2 := by simpa using c1
  have c2 : e.toNat / 64 = 2 := by simpa using c2
  have hpe : p = b.toNat % 16 * 4096 + d.toNat % 64 * 64 + e.toNat % 64 := by
    rw [hp]
    simp only [acc, show i + (1 + 1) = i + 1 + 1 by omega, show i + (0 + 1) = i + 1 by omega, hd, he, Option.getD_some]; omega
  refine u8_grow hI hv (x := [b, d, e]) (by rw [hpe] at hv hl ⊢; exact of_three b d e h1 h2 c1 c2 hv hl) ?_
  show l.take (i + 1 + 1 + 1) = _
  rw [take_snoc he, take_snoc hd, take_snoc hb]; simp

theorem good_step4 {l : List UInt8} {w wr : World} {i p : Nat} {b : UInt8} (h1 : 240 ≤ b.toNat) (h2 : b.toNat ≤ 244) (hf : i + 4 ≤ l.length) (hI : U8Inv l w i wr) (hb : l[i]? = some b)
    (hp : p = acc l i (b.toNat % 8) (4 - 1)) (hc : Conts l i 4) (hl : 65536 ≤ p) (hv : OkRune p) : U8Inv l w (i + 4) wr := by
  obtain ⟨d, hd⟩ := at_some (l := l) (i := i + 1) (by omega)
  obtain ⟨e, he⟩ := at_some (l := l) (i := i + 1 + 1) (by omega)
  obtain ⟨g, hg⟩ := at_some (l := l) (i := i + 1 + 1 + 1) (by omega)
  have c1 := hc 1 (by omega) (by omega)
  have c2 := hc 2 (by omega) (by omega)
  have c3 := hc 3 (by omega) (by omega)
  rw [hd] at c1
  rw [show i + 2 = i + 1 + 1 by omega, he] at c2
  rw [show i + 3 = i + 1 + 1 + 1 by omega, hg] at c3
  have c1 : d.toNat / 64 = 2 := by simpa using c1
  have c2 : e.toNat / 64 = 2 := by simpa using c2
  have c3 : g.toNat / 64 = 2 := by simpa using c3
  have hpe : p = b.toNat % 8 * 262144 + d.toNat % 64 * 4096 + e.toNat % 64 * 64 + g.toNat % 64 := by
    rw [hp]
    simp only [acc, show i + (2 + 1) = i + 1 + 1 + 1 by omega, show i + (1 + 1) = i + 1 + 1 by omega, show i + (0 + 1) = i + 1 by omega, hd, he, hg, Option.getD_some]; omega
  refine u8_grow hI hv (x := [b, d, e, g]) (by rw [hpe] at hv hl ⊢; exact of_four b d e g h1 h2 c1 c2 c3 hv hl) ?_
  show l.take (i + 1 + 1 + 1 + 1) = _
  rw [take_snoc hg, take_snoc he, take_snoc hd, take_snoc hb]; simp

set_option maxRecDepth 100000 in
set_option maxHeartbeats 16000000 in
theorem utf8_any (l : List UInt8) (hl : l.length < 4000000000) (w : World) :
    Calls Tryz.prog 23 #[.string (Nm.bs l)] w fun e w' => BoolRes (Utf l) e ∧ Below w.heap.size w w' := by
  have hsz := bs_size l
  go_enter Tryz.func23, Tryz.ntmps23
  go_wp2_with fail
  go_loopw [3] (fun t3 wr => ∃ i : Nat, t3 = .int .i64 i ∧ i ≤ l.length ∧ Hid (U8Inv l w i wr)) (fun t3 _ => l.length - (intOf t3).toNat)
  case atStart => exact ⟨0, rfl, Nat.zero_le _, Lib.hid ⟨⟨[], by simp, by simp⟩, Below.refl _ _⟩⟩
  case round =>
    obtain ⟨i, rfl, hi, HI⟩ := hrel
    by_cases hend : i = l.length
    · subst hend
      have t1 : decide ((l.length : Int) < (l.length : Int)) = false := by simp
      go_wp2_with fail
      go_ret
      refine ⟨⟨_, rfl, fun _ => ?_⟩, HI.out.2⟩
      have := HI.out.1; rw [List.take_length] at this; exact this
    · have hlt : i < l.length := by omega
      have hlt2 : i < (Nm.bs l).size := by rw [hsz]; exact hlt
      have t1 : decide ((i : Int) < (l.length : Int)) = true := by simp; omega
      obtain ⟨b, hb, hget⟩ : ∃ b : UInt8, l[i]? = some b ∧ ((Nm.bs l)[i]'hlt2).toNat = b.toNat := ⟨_, List.getElem?_eq_getElem hlt, by rw [bs_get]⟩
      have hbl := UInt8.toNat_lt b
      have HB := Lib.hid hb
      clear hb hend
      have hcs : b.toNat < 128 ∨ (128 ≤ b.toNat ∧ b.toNat < 194 ∨ 244 < b.toNat) ∨ (194 ≤ b.toNat ∧ b.toNat ≤ 223) ∨ (224 ≤ b.toNat ∧ b.toNat ≤ 239) ∨ (240 ≤ b.toNat ∧ b.toNat ≤ 244) := by omega
      rcases hcs with hc | hc | hc | hc | hc
      · have hstep : U8Inv l w (i + 1) wr := by
          obtain ⟨⟨rs, hv, ht⟩, hbel⟩ := HI.out
          refine ⟨⟨rs ++ [b.toNat], ?_, ?_⟩, hbel⟩
          · intro r hr
            rcases List.mem_append.1 hr with hr | hr
            · exact hv r hr
            · simp only [List.mem_singleton] at hr; subst hr; exact Or.inl (by omega)
          · rw [take_snoc HB.out, ht, encs_append, encs_cons, encs_nil, enc_one hc, u8_eq (x := b) rfl]; rfl
        have HS := Lib.hid hstep
        clear hstep
        generalize b.toNat = n at *
        have q1 : decide ((n : Int) < 128) = true := by simp; omega
        go_wp2_with fail
        exact ⟨⟨i + 1, by go_num, by omega, HS⟩, by simp [intOf]; omega⟩
      · generalize b.toNat = n at *
        have q1 : decide ((n : Int) < 128) = false := by simp; omega
        rcases hc with hc | hc
        · have q2 : decide ((194 : Int) ≤ (n : Int)) = false := by simp; omega
          have q3 : decide ((224 : Int) ≤ (n : Int)) = false := by simp; omega
          have q4 : decide ((240 : Int) ≤ (n : Int)) = false := by simp; omega
          go_wp2_with fail
          go_ret
          exact ⟨⟨_, rfl, fun h => by simp at h⟩, HI.out.2⟩
        · have q2 : decide ((n : Int) ≤ 223) = false := by simp; omega
          have q3 : decide ((n : Int) ≤ 239) = false := by simp; omega
          have q4 : decide ((n : Int) ≤ 244) = false := by simp; omega
          have q5 : decide ((194 : Int) ≤ (n : Int)) = true := by simp; omega
          have q6 : decide ((224 : Int) ≤ (n : Int)) = true := by simp; omega
          have q7 : decide ((240 : Int) ≤ (n : Int)) = true := by simp; omega
          go_wp2_with fail
          go_ret
          exact ⟨⟨_, rfl, fun h => by simp at h⟩, HI.out.2⟩
      · obtain ⟨hc1, hc2⟩ := hc
        have hm : bits .and .i32 (b.toNat : Int) 31 = ((b.toNat % 32 : Nat) : Int) := by
          have := bits_mask .i32 31 (by decide) wraps_i32 5 (by decide) (b.toNat : Int) (by omega) (by omega)
          simpa using this
        have q1 : decide ((b.toNat : Int) < 128) = false := by simp; omega
        have q2 : decide ((194 : Int) ≤ (b.toNat : Int)) = true := by simp; omega
        have q5 : decide ((b.toNat : Int) ≤ 223) = true := by simp; omega
        by_cases hfit : i + 2 ≤ l.length
        · have q4 : decide ((l.length : Int) < (i : Int) + 2) = false := by simp; omega
          go_wp2_with fail
          go_loopw [7, 8] (fun t7 t8 wi => ∃ k p : Nat, t8 = .int .i64 k ∧ t7 = .int .i32 p ∧ 1 ≤ k ∧ k ≤ 2 ∧ (k = 1 → p < 32) ∧ (k = 2 → p < 2048) ∧ (k = 3 → p < 131072) ∧ p < 8388608 ∧ wi = wr ∧ Hid (p = acc l i (b.toNat % 32) (k - 1) ∧ Conts l i k)) (fun _ t8 _ => 2 - (intOf t8).toNat)
          case atStart => exact ⟨1, b.toNat % 32, rfl, by go_num, by omega, by omega, by omega, by omega, by omega, by omega, rfl, Lib.hid ⟨rfl, fun j h1 h2 => by omega⟩⟩
          case round =>
            obtain ⟨k, p, rfl, rfl, hk1, hkn, hp1, hp2, hp3, hp4, rfl, HP⟩ := hrel
            by_cases hkend : k = 2
            · subst hkend
              have hgood := good_step2 (l := l) (w := w) (wr := wr) (b := b) (p := p) (i := i) hc1 hc2 hfit HI.out HB.out HP.out.1 HP.out.2
              have HG := Lib.hid hgood
              clear hgood
              have t2 : decide ((2 : Int) < 2) = false := by simp
              by_cases hl1 : p < 128
              · have r1 : decide ((p : Int) < 128) = true := by simp; omega
                go_wp2_with fail
                go_ret
                exact ⟨⟨_, rfl, fun h => by simp at h⟩, HI.out.2⟩
              have r1 : decide ((p : Int) < 128) = false := by simp; omega
              by_cases hl2 : 1114111 < p
              · have r2 : decide ((1114111 : Int) < (p : Int)) = true := by simp; omega
                go_wp2_with fail
                go_ret
                exact ⟨⟨_, rfl, fun h => by simp at h⟩, HI.out.2⟩
              have r2 : decide ((1114111 : Int) < (p : Int)) = false := by simp; omega
              by_cases hl3 : 55296 ≤ p
              · have r3 : decide ((55296 : Int) ≤ (p : Int)) = true := by simp; omega
                by_cases hl4 : p ≤ 57343
                · have r4 : decide ((p : Int) ≤ 57343) = true := by simp; omega
                  go_wp2_with fail
                  go_ret
                  exact ⟨⟨_, rfl, fun h => by simp at h⟩, HI.out.2⟩
                · have r4 : decide ((p : Int) ≤ 57343) = false := by simp; omega
                  go_wp2_with fail
                  exact ⟨⟨i + 2, by go_num, by omega, Lib.hid (HG.out (by omega) (Or.inr ⟨by omega, by omega⟩))⟩, by simp [intOf]; omega⟩
              · have r3 : decide ((55296 : Int) ≤ (p : Int)) = false := by simp; omega
                go_wp2_with fail
                exact ⟨⟨i + 2, by go_num, by omega, Lib.hid (HG.out (by omega) (Or.inl (by omega)))⟩, by simp [intOf]; omega⟩
            · have hklt : k < 2 := by omega
              have t2 : decide ((k : Int) < 2) = true := by simp; omega
              have hik : i + k < l.length := by omega
              have hik2 : i + k < (Nm.bs l).size := by rw [hsz]; exact hik
              have hik3 : (i : Int) + (k : Int) < ((Nm.bs l).size : Int) := by omega
              have hik0 : (0 : Int) ≤ (i : Int) + (k : Int) := by omega
              have hikn : ((i : Int) + (k : Int)).toNat = i + k := by omega
              obtain ⟨d, hd, hgetd⟩ : ∃ d : UInt8, l[i + k]? = some d ∧ ((Nm.bs l)[i + k]'hik2).toNat = d.toNat := ⟨_, List.getElem?_eq_getElem hik, by rw [bs_get]⟩
              have hdl := UInt8.toNat_lt d
              have ha : bits .and .u8 (d.toNat : Int) 192 = ((d.toNat / 64 * 64 : Nat) : Int) := and192 (by omega)
              have hb6 : bits .and .u8 (d.toNat : Int) 63 = ((d.toNat % 64 : Nat) : Int) := by
                have := bits_mask .u8 8 (by decide) wraps_u8 6 (by decide) (d.toNat : Int) (by omega) (by omega)
                simpa using this
              have hor : bits .or .i32 ((p * 64 : Nat) : Int) ((d.toNat % 64 : Nat) : Int) = ((p * 64 + d.toNat % 64 : Nat) : Int) := by
                have := bits_join .i32 31 (by decide) wraps_i32 6 ((p * 64 : Nat) : Int) ((d.toNat % 64 : Nat) : Int) (by omega) (by omega) (by omega) (by omega) (by omega) (by omega)
                rw [this]; simp
              have HQ : Hid (d.toNat / 64 = 2 → (p * 64 + d.toNat % 64 = acc l i (b.toNat % 32) k ∧ Conts l i (k + 1))) := Lib.hid (fun h => acc_step hk1 hd HP.out.1 HP.out.2 h)
              clear hd
              generalize hx : d.toNat = x at *
              generalize hy : x / 64 * 64 = y at *
              generalize hz : x % 64 = z at *
              by_cases h2 : x / 64 = 2
              · have hy2 : y = 128 := by omega
                subst hy2
                go_wp2_with fail
                have hQ := HQ.out h2
                exact ⟨⟨k + 1, p * 64 + z, by go_num, by go_num, by omega, by omega, by omega, by omega, by omega, by omega, trivial, Lib.hid hQ⟩, by simp [intOf]; omega⟩
              · have hy2 : ((y : Int) == 128) = false := by rw [beq_eq_false_iff_ne]; omega
                go_wp2_with fail
                go_ret
                exact ⟨⟨_, rfl, fun h => by simp at h⟩, HI.out.2⟩
        · have q4 : decide ((l.length : Int) < (i : Int) + 2) = true := by simp; omega
          go_wp2_with fail
          go_ret
          exact ⟨⟨_, rfl, fun h => by simp at h⟩, HI.out.2⟩
      · obtain ⟨hc1, hc2⟩ := hc
        have hm : bits .and .i32 (b.toNat : Int) 15 = ((b.toNat % 16 : Nat) : Int) := by
          have := bits_mask .i32 31 (by decide) wraps_i32 4 (by decide) (b.toNat : Int) (by omega) (by omega)
          simpa using this
        have q1 : decide ((b.toNat : Int) < 128) = false := by simp; omega
        have q3 : decide ((b.toNat : Int) ≤ 223) = false := by simp; omega
        have q2 : decide ((194 : Int) ≤ (b.toNat : Int)) = true := by simp; omega
        have q22 : decide ((224 : Int) ≤ (b.toNat : Int)) = true := by simp; omega
        have q5 : decide ((b.toNat : Int) ≤ 239) = true := by simp; omega
        by_cases hfit : i + 3 ≤ l.length
        · have q4 : decide ((l.length : Int) < (i : Int) + 3) = false := by simp; omega
          go_wp2_with fail
          go_loopw [7, 8] (fun t7 t8 wi => ∃ k p : Nat, t8 = .int .i64 k ∧ t7 = .int .i32 p ∧ 1 ≤ k ∧ k ≤ 3 ∧ (k = 1 → p < 32) ∧ (k = 2 → p < 2048) ∧ (k = 3 → p < 131072) ∧ p < 8388608 ∧ wi = wr ∧ Hid (p = acc l i (b.toNat % 16) (k - 1) ∧ Conts l i k)) (fun _ t8 _ => 3 - (intOf t8).toNat)
          case atStart => exact ⟨1, b.toNat % 16, rfl, by go_num, by omega, by omega, by omega, by omega, by omega, by omega, rfl, Lib.hid ⟨rfl, fun j h1 h2 => by omega⟩⟩
          case round =>
            obtain ⟨k, p, rfl, rfl, hk1, hkn, hp1, hp2, hp3, hp4, rfl, HP⟩ := hrel
            by_cases hkend : k = 3
            · subst hkend
              have hgood := good_step3 (l := l) (w := w) (wr := wr) (b := b) (p := p) (i := i) hc1 hc2 hfit HI.out HB.out HP.out.1 HP.out.2
              have HG := Lib.hid hgood
              clear hgood
              have t2 : decide ((3 : Int) < 3) = false := by simp
              by_cases hl1 : p < 2048
              · have r1 : decide ((p : Int) < 2048) = true := by simp; omega
                go_wp2_with fail
                go_ret
                exact ⟨⟨_, rfl, fun h => by simp at h⟩, HI.out.2⟩
              have r1 : decide ((p : Int) < 2048) = false := by simp; omega
              by_cases hl2 : 1114111 < p
              · have r2 : decide ((1114111 : Int) < (p : Int)) = true := by simp; omega
                go_wp2_with fail
                go_ret
                exact ⟨⟨_, rfl, fun h => by simp at h⟩, HI.out.2⟩
              have r2 : decide ((1114111 : Int) < (p : Int)) = false := by simp; omega
              by_cases hl3 : 55296 ≤ p
              · have r3 : decide ((55296 : Int) ≤ (p : Int)) = true := by simp; omega
                by_cases hl4 : p ≤ 57343
                · have r4 : decide ((p : Int) ≤ 57343) = true := by simp; omega
                  go_wp2_with fail
                  go_ret
                  exact ⟨⟨_, rfl, fun h => by simp at h⟩, HI.out.2⟩
                · have r4 : decide ((p : Int) ≤ 57343) = false := by simp; omega
                  go_wp2_with fail
                  exact ⟨⟨i + 3, by go_num, by omega, Lib.hid (HG.out (by omega) (Or.inr ⟨by omega, by omega⟩))⟩, by simp [intOf]; omega⟩
              · have r3 : decide ((55296 : Int) ≤ (p : Int)) = false := by simp; omega
                go_wp2_with fail
                exact ⟨⟨i + 3, by go_num, by omega, Lib.hid (HG.out (by omega) (Or.inl (by omega)))⟩, by simp [intOf]; omega⟩
            · have hklt : k < 3 := by omega
              have t2 : decide ((k : Int) < 3) = true := by simp; omega
              have hik : i + k < l.length := by omega
              have hik2 : i + k < (Nm.bs l).size := by rw [hsz]; exact hik
              have hik3 : (i : Int) + (k : Int) < ((Nm.bs l).size : Int) := by omega
              have hik0 : (0 : Int) ≤ (i : Int) + (k : Int) := by omega
              have hikn : ((i : Int) + (k : Int)).toNat = i + k := by omega
              obtain ⟨d, hd, hgetd⟩ : ∃ d : UInt8, l[i + k]? = some d ∧ ((Nm.bs l)[i + k]'hik2).toNat = d.toNat := ⟨_, List.getElem?_eq_getElem hik, by rw [bs_get]⟩
              have hdl := UInt8.toNat_lt d
              have ha : bits .and .u8 (d.toNat : Int) 192 = ((d.toNat / 64 * 64 : Nat) : Int) := and192 (by omega)
              have hb6 : bits .and .u8 (d.toNat : Int) 63 = ((d.toNat % 64 : Nat) : Int) := by
                have := bits_mask .u8 8 (by decide) wraps_u8 6 (by decide) (d.toNat : Int) (by omega) (by omega)
                simpa using this
              have hor : bits .or .i32 ((p * 64 : Nat) : Int) ((d.toNat % 64 : Nat) : Int) = ((p * 64 + d.toNat % 64 : Nat) : Int) := by
                have := bits_join .i32 31 (by decide) wraps_i32 6 ((p * 64 : Nat) : Int) ((d.toNat % 64 : Nat) : Int) (by omega) (by omega) (by omega) (by omega) (by omega) (by omega)
                rw [this]; simp
              have HQ : Hid (d.toNat / 64 = 2 → (p * 64 + d.toNat % 64 = acc l i (b.toNat % 16) k ∧ Conts l i (k + 1))) := Lib.hid (fun h => acc_step hk1 hd HP.out.1 HP.out.2 h)
              clear hd
              generalize hx : d.toNat = x at *
              generalize hy : x / 64 * 64 = y at *
              generalize hz : x % 64 = z at *
              by_cases h2 : x / 64 = 2
              · have hy2 : y = 128 := by omega
                subst hy2
                go_wp2_with fail
                have hQ := HQ.out h2
                exact ⟨⟨k + 1, p * 64 + z, by go_num, by go_num, by omega, by omega, by omega, by omega, by omega, by omega, trivial, Lib.hid hQ⟩, by simp [intOf]; omega⟩
              · have hy2 : ((y : Int) == 128) = false := by rw [beq_eq_false_iff_ne]; omega
                go_wp2_with fail
                go_ret
                exact ⟨⟨_, rfl, fun h => by simp at h⟩, HI.out.2⟩
        · have q4 : decide ((l.length : Int) < (i : Int) + 3) = true := by simp; omega
          go_wp2_with fail
          go_ret
          exact ⟨⟨_, rfl, fun h => by simp at h⟩, HI.out.2⟩
      · obtain ⟨hc1, hc2⟩ := hc
        have hm : bits .and .i32 (b.toNat : Int) 7 = ((b.toNat % 8 : Nat) : Int) := by
          have := bits_mask .i32 31 (by decide) wraps_i32 3 (by decide) (b.toNat : Int) (by omega) (by omega)
          simpa using this
        have q1 : decide ((b.toNat : Int) < 128) = false := by simp; omega
        have q3 : decide ((b.toNat : Int) ≤ 223) = false := by simp; omega
        have q33 : decide ((b.toNat : Int) ≤ 239) = false := by simp; omega
        have q2 : decide ((194 : Int) ≤ (b.toNat : Int)) = true := by simp; omega
        have q22 : decide ((224 : Int) ≤ (b.toNat : Int)) = true := by simp; omega
        have q222 : decide ((240 : Int) ≤ (b.toNat : Int)) = true := by simp; omega
        have q5 : decide ((b.toNat : Int) ≤ 244) = true := by simp; omega
        by_cases hfit : i + 4 ≤ l.length
        · have q4 : decide ((l.length : Int) < (i : Int) + 4) = false := by simp; omega
          go_wp2_with fail
          go_loopw [7, 8] (fun t7 t8 wi => ∃ k p : Nat, t8 = .int .i64 k ∧ t7 = .int .i32 p ∧ 1 ≤ k ∧ k ≤ 4 ∧ (k = 1 → p < 32) ∧ (k = 2 → p < 2048) ∧ (k = 3 → p < 131072) ∧ p < 8388608 ∧ wi = wr ∧ Hid (p = acc l i (b.toNat % 8) (k - 1) ∧ Conts l i k)) (fun _ t8 _ => 4 - (intOf t8).toNat)
          case atStart => exact ⟨1, b.toNat % 8, rfl, by go_num, by omega, by omega, by omega, by omega, by omega, by omega, rfl, Lib.hid ⟨rfl, fun j h1 h2 => by omega⟩⟩
          case round =>
            obtain ⟨k, p, rfl, rfl, hk1, hkn, hp1, hp2, hp3, hp4, rfl, HP⟩ := hrel
            by_cases hkend : k = 4
            · subst hkend
              have hgood := good_step4 (l := l) (w := w) (wr := wr) (b := b) (p := p) (i := i) hc1 hc2 hfit HI.out HB.out HP.out.1 HP.out.2
              have HG := Lib.hid hgood
              clear hgood
              have t2 : decide ((4 : Int) < 4) = false := by simp
              by_cases hl1 : p < 65536
              · have r1 : decide ((p : Int) < 65536) = true := by simp; omega
                go_wp2_with fail
                go_ret
                exact ⟨⟨_, rfl, fun h => by simp at h⟩, HI.out.2⟩
              have r1 : decide ((p : Int) < 65536) = false := by simp; omega
              by_cases hl2 : 1114111 < p
              · have r2 : decide ((1114111 : Int) < (p : Int)) = true := by simp; omega
                go_wp2_with fail
                go_ret
                exact ⟨⟨_, rfl, fun h => by simp at h⟩, HI.out.2⟩
              have r2 : decide ((1114111 : Int) < (p : Int)) = false := by simp; omega
              by_cases hl3 : 55296 ≤ p
              · have r3 : decide ((55296 : Int) ≤ (p : Int)) = true := by simp; omega
                by_cases hl4 : p ≤ 57343
                · have r4 : decide ((p : Int) ≤ 57343) = true := by simp; omega
                  go_wp2_with fail
                  go_ret
                  exact ⟨⟨_, rfl, fun h => by simp at h⟩, HI.out.2⟩
                · have r4 : decide ((p : Int) ≤ 57343) = false := by simp; omega
                  go_wp2_with fail
                  exact ⟨⟨i + 4, by go_num, by omega, Lib.hid (HG.out (by omega) (Or.inr ⟨by omega, by omega⟩))⟩, by simp [intOf]; omega⟩
              · have r3 : decide ((55296 : Int) ≤ (p : Int)) = false := by simp; omega
                go_wp2_with fail
                exact ⟨⟨i + 4, by go_num, by omega, Lib.hid (HG.out (by omega) (Or.inl (by omega)))⟩, by simp [intOf]; omega⟩
            · have hklt : k < 4 := by omega
              have t2 : decide ((k : Int) < 4) = true := by simp; omega
              have hik : i + k < l.length := by omega
              have hik2 : i + k < (Nm.bs l).size := by rw [hsz]; exact hik
              have hik3 : (i : Int) + (k : Int) < ((Nm.bs l).size : Int) := by omega
              have hik0 : (0 : Int) ≤ (i : Int) + (k : Int) := by omega
              have hikn : ((i : Int) + (k : Int)).toNat = i + k := by omega
              obtain ⟨d, hd, hgetd⟩ : ∃ d : UInt8, l[i + k]? = some d ∧ ((Nm.bs l)[i + k]'hik2).toNat = d.toNat := ⟨_, List.getElem?_eq_getElem hik, by rw [bs_get]⟩
              have hdl := UInt8.toNat_lt d
              have ha : bits .and .u8 (d.toNat : Int) 192 = ((d.toNat / 64 * 64 : Nat) : Int) := and192 (by omega)
              have hb6 : bits .and .u8 (d.toNat : Int) 63 = ((d.toNat % 64 : Nat) : Int) := by
                have := bits_mask .u8 8 (by decide) wraps_u8 6 (by decide) (d.toNat : Int) (by omega) (by omega)
                simpa using this
              have hor : bits .or .i32 ((p * 64 : Nat) : Int) ((d.toNat % 64 : Nat) : Int) = ((p * 64 + d.toNat % 64 : Nat) : Int) := by
                have := bits_join .i32 31 (by decide) wraps_i32 6 ((p * 64 : Nat) : Int) ((d.toNat % 64 : Nat) : Int) (by omega) (by omega) (by omega) (by omega) (by omega) (by omega)
                rw [this]; simp
              have HQ : Hid (d.toNat / 64 = 2 → (p * 64 + d.toNat % 64 = acc l i (b.toNat % 8) k ∧ Conts l i (k + 1))) := Lib.hid (fun h => acc_step hk1 hd HP.out.1 HP.out.2 h)
              clear hd
              generalize hx : d.toNat = x at *
              generalize hy : x / 64 * 64 = y at *
              generalize hz : x % 64 = z at *
              by_cases h2 : x / 64 = 2
              · have hy2 : y = 128 := by omega
                subst hy2
                go_wp2_with fail
                have hQ := HQ.out h2
                exact ⟨⟨k + 1, p * 64 + z, by go_num, by go_num, by omega, by omega, by omega, by omega, by omega, by omega, trivial, Lib.hid hQ⟩, by simp [intOf]; omega⟩
              · have hy2 : ((y : Int) == 128) = false := by rw [beq_eq_false_iff_ne]; omega
                go_wp2_with fail
                go_ret
                exact ⟨⟨_, rfl, fun h => by simp at h⟩, HI.out.2⟩
        · have q4 : decide ((l.length : Int) < (i : Int) + 4) = true := by simp; omega
          go_wp2_with fail
          go_ret
          exact ⟨⟨_, rfl, fun h => by simp at h⟩, HI.out.2⟩
end Go.Proofs.YtjmahgefijncaaaGreatFmt

/- spec.NameRead. -/
namespace Go.Proofs.YtjmahgefijncaaaGreatFmt
open Go Go.RowKit

namespace Sp
theorem pair_shorter {l s2 : List UInt8} {b : UInt8} (h : pair l = some (b, s2)) : s2.length < l.length := by
  obtain ⟨p, q, a, d, hl, _, _, _⟩ := pair_some h
  rw [hl]; simp; omega
theorem value_shorter : ∀ (f : Nat) (s out : List UInt8) (b : Bool) (v rest : List UInt8), value f s out b = .ok v rest → rest.length ≤ s.length
  | 0, _, _, _, _, _, h => by cases h
  | f + 1, [], out, b, v, rest, h => by
    rw [value_end] at h
    split at h
    · cases h
    · injection h with _ h; rw [← h]; exact Nat.le_refl _
  | f + 1, c :: s, out, b, v, rest, h => by
    by_cases h1 : c = 44 ∨ c = 43
    · rw [value_sep h1] at h
      split at h
      · cases h
      · injection h with _ h; rw [← h]; exact Nat.le_refl _
    · by_cases h2 : c = 59 ∨ c = 34 ∨ c = 60 ∨ c = 62 ∨ c = 0
      · rw [value_odd h2] at h; cases h
      · by_cases h3 : c = 92
        · subst h3
          rw [value_slash] at h
          cases s with
          | nil => cases h
          | cons e s1 =>
            simp only [] at h
            split at h
            · have := value_shorter f _ _ _ _ _ h; simp; omega
            · split at h
              · cases h
              · rename_i x s2 hp
                have h4 := value_shorter f _ _ _ _ _ h
                have h5 := pair_shorter hp
                simp at h5 ⊢; omega
        · rw [value_plain h1 h2 h3] at h
          have := value_shorter f _ _ _ _ _ h; simp; omega
theorem fin_rest {b rest r2 v : List UInt8} (h : fin b rest = .ok v r2) : r2 = rest := by
  unfold fin at h
  split at h
  · cases h
  · split at h
    · injection h with _ h; exact h.symm
    · cases h
  · cases h
theorem hexs_shorter : ∀ (f : Nat) (s b v rest : List UInt8), hexs f s b = .ok v rest → rest.length ≤ s.length
  | 0, _, _, _, _, h => by cases h
  | f + 1, s, b, v, rest, h => by
    by_cases hs : Stop s
    · rw [hexs_stop hs] at h
      rw [fin_rest h]; exact Nat.le_refl _
    · cases s with
      | nil => exact absurd (Or.inl rfl) hs
      | cons c s =>
        have hc : ¬ (c = 44 ∨ c = 43) := by
          rintro (rfl | rfl)
          · exact hs (Or.inr ⟨_, Or.inl rfl⟩)
          · exact hs (Or.inr ⟨_, Or.inr rfl⟩)
        rw [hexs_go hc] at h
        split at h
        · split at h <;> cases h
        · rename_i x s2 hp
          have h4 := hexs_shorter f _ _ _ _ h
          have h5 := pair_shorter hp
          omega
theorem mapO_ok {t : List UInt8} {x : O (List UInt8)} {p : Nm.Part} {rest : List UInt8} (h : mapO t x = .ok p rest) : ∃ v, x = .ok v rest := by
  cases x with
  | opn => cases h
  | bad => cases h
  | ok v r => injection h with _ h; exact ⟨v, by rw [h]⟩
theorem part_shorter {T : List UInt8 → Bool} {F : Nat} {L rest : List UInt8} {p : Nm.Part} (h : part T F L = .ok p rest) : rest.length < L.length := by
  have hspl : L.takeWhile (fun c => !ends c) ++ L.dropWhile (fun c => !ends c) = L := List.takeWhile_append_dropWhile
  have hlen := congrArg List.length hspl
  rw [List.length_append] at hlen
  unfold part at h
  split at h
  · cases h
  · split at h
    · split at h <;> cases h
    · rename_i c s1 hd
      rw [hd] at hlen
      simp only [List.length_cons] at hlen
      split at h
      · split at h
        · split at h
          · cases h
          · split at h
            · obtain ⟨v, h⟩ := mapO_ok h
              have := hexs_shorter _ _ _ _ _ h
              simp at this; omega
            · obtain ⟨v, h⟩ := mapO_ok h
              have := value_shorter _ _ _ _ _ _ h
              omega
        · cases h
      · split at h <;> cases h
end Sp

/-- What NameRead hands back. -/
def ROut (B F : Nat) (l : List UInt8) (e : Ending) (w' : World) : Prop :=
  e = .returned (.tuple #[.slice none 0 0, .int .i64 2]) ∨ (Utf l ∧ match Sp.read typB F l with
    | .opn => False
    | .bad => e = .returned (.tuple #[.slice none 0 0, .int .i64 1])
    | .right n => ∃ v, e = .returned (.tuple #[v, .int .i64 0]) ∧ NameOwn 77 78 B w' v n)

/-- The outer round's head. -/
structure NI (w : World) (R F : Nat) (l : List UInt8) (X : Sp.R) (j f : Nat) (n : Nm.Name) (v : Value) (vs : List Value) (wr : World) : Prop where
  le : j ≤ l.length
  fu : l.length - j < f
  eq : X = Sp.names typB F f (l.drop j) [] n
  few : n.length ≤ j
  rd : NRd wr R l j false
  bel : Below w.heap.size w wr
  own : wr.ownsRow w.heap.size 77 1 v n.length vs
  rows : RowsOwn 78 w.heap.size wr vs n
/-- The inner round's head. -/
structure NJ (wo : World) (R F : Nat) (l : List UInt8) (X : Sp.R) (dn : Nm.Name) (j f : Nat) (ps : List Nm.Part) (v : Value) (wr : World) : Prop where
  le : j ≤ l.length
  fu : l.length - j < f
  eq : X = Sp.names typB F f (l.drop j) ps dn
  few : ps.length ≤ j
  rd : NRd wr R l j false
  only : Only (· = R) wo wr
  own : wr.ownsRow wo.heap.size 78 2 v ps.length (cellsOf ps)

theorem names_go {T : List UInt8 → Bool} {F f : Nat} {l : List UInt8} {rdn : List Nm.Part} {dn : Nm.Name} : Sp.names T F (f + 1) l rdn dn = match Sp.part T F l with
    | .opn => .opn
    | .bad => .bad
    | .ok p [] => .right (dn ++ [rdn ++ [p]])
    | .ok p (c :: s) => if c = 43 then Sp.names T F f s (rdn ++ [p]) dn else Sp.names T F f s [] (dn ++ [rdn ++ [p]]) := by
  rw [Sp.names]
  cases Sp.part T F l with
  | opn => rfl
  | bad => rfl
  | ok p s => cases s <;> rfl

theorem onlyR_below {R B : Nat} {wo w2 : World} (h : Only (· = R) wo w2) (hB : B ≤ wo.heap.size) (hR : B ≤ R) : Below B wo w2 :=
  ⟨h.os, h.tape, h.output, h.size, fun k hk => h.block k (by omega) (fun e => by have e : k = R := e; omega)⟩

set_option maxRecDepth 100000 in
set_option maxHeartbeats 16000000 in
theorem spec_read (F : Nat) (w : World) (l : List UInt8) (hF : l.length < F) (hl : l.length ≤ 2147483647) :
    Calls Tryz.prog 11 #[.string (Nm.bs l)] w fun e w' => ROut w.heap.size F l e w' ∧ Below w.heap.size w w' := by
  obtain ⟨i1, hi1, hz10, hz11, hz12⟩ := info_spart
  obtain ⟨i2, hi2, hz20, hz21, hz22⟩ := info_sparts1
  have hsz := bs_size l
  have HU := Lib.hid (utf8_any l (by omega) w)
  go_enter Tryz.func11, Tryz.ntmps11
  go_wp2_with fail
  refine HU.out.mono ?_
  rintro e w1 ⟨⟨r, rfl, hr⟩, hb1⟩
  have HB1 := Lib.hid hb1
  have hs1 := hb1.size
  clear hb1 HU
  cases r with
  | false =>
    go_wp2_with fail
    go_ret2
    exact ⟨Or.inl rfl, HB1.out⟩
  | true =>
    have HUT := Lib.hid (hr rfl)
    clear hr
    by_cases hl0 : l = []
    · subst hl0
      have e1 : ((Nm.bs []).toList == ([] : List UInt8)) = true := by rw [bs_toList]; rfl
      go_wp2_with fail
      go_ret2
      exact ⟨Or.inr ⟨HUT.out, _, rfl, [], owns_start _ _ _ _, rfl⟩, HB1.out⟩
    · have e1 : ((Nm.bs l).toList == ([] : List UInt8)) = false := by rw [bs_toList, beq_eq_false_iff_ne]; exact hl0
      have hrd : Sp.read typB F l = Sp.names typB F F (l.drop 0) [] [] := by unfold Sp.read; rw [if_neg hl0]; rfl
      have HI0 : Hid (NI w w1.heap.size F l (Sp.read typB F l) 0 F [] (.slice none 0 0) [] (w1.alloc (.cells #[.string (Nm.bs l), .int .i64 0, .bool false] 76 (0, 0)))) :=
        Lib.hid ⟨Nat.zero_le _, by omega, hrd, Nat.le_refl _, heap_alloc_new _ _, HB1.out.alloc hs1 _, owns_start _ _ _ _, rfl⟩
      have hRlo : w.heap.size ≤ w1.heap.size := hs1
      have hgoal : ∀ e w', (match Sp.read typB F l with
        | .opn => e = .returned (.tuple #[.slice none 0 0, .int .i64 2])
        | .bad => e = .returned (.tuple #[.slice none 0 0, .int .i64 1])
        | .right n => ∃ v, e = .returned (.tuple #[v, .int .i64 0]) ∧ NameOwn 77 78 w.heap.size w' v n) → ROut w.heap.size F l e w' := fun e w' h => by
        unfold ROut
        cases hx : Sp.read typB F l with
        | opn => rw [hx] at h; exact Or.inl h
        | bad => rw [hx] at h; exact Or.inr ⟨HUT.out, h⟩
        | right n => rw [hx] at h; exact Or.inr ⟨HUT.out, h⟩
      have HG := Lib.hid hgoal
      clear hgoal hrd HUT
      generalize Sp.read typB F l = X at *
      go_wp2_with fail
      generalize w1.heap.size = R at *
      go_loopw [5] (fun t5 wr => ∃ (n : Nm.Name) (oo : Option Addr) (cc : Nat), t5 = .slice oo n.length cc ∧ Hid (∃ j f vs, NI w R F l X j f n (.slice oo n.length cc) vs wr)) (fun _ wr => l.length - atOf wr R)
      case atStart => exact ⟨[], none, 0, rfl, Lib.hid ⟨0, F, [], HI0.out⟩⟩
      case round =>
        clear HI0
        obtain ⟨n, oo, cc, rfl, HE⟩ := hrel
        obtain ⟨j0, f0, vs, hni⟩ := HE.out
        have HN := Lib.hid hni
        have hat0 := hni.rd.atOf
        have hj0 := hni.le
        have hsz1 := hni.bel.size
        have HJ0 : Hid (NJ wr R F l X n j0 f0 [] (.slice none 0 0) wr) := Lib.hid ⟨hni.le, hni.fu, hni.eq, Nat.zero_le _, hni.rd, Only.refl _ _, owns_start _ _ _ _⟩
        clear hni HE
        go_wp2_with fail
        obtain ⟨wo, rfl⟩ : ∃ wo : World, wo = wr := ⟨_, rfl⟩
        go_loopw [6] (fun t6 wr => ∃ (ps : List Nm.Part) (o6 : Option Addr) (c6 : Nat), t6 = .slice o6 ps.length c6 ∧ Hid (∃ j f, j0 ≤ j ∧ NJ wo R F l X n j f ps (.slice o6 ps.length c6) wr)) (fun _ wr => l.length - atOf wr R)
        case atStart => exact ⟨[], none, 0, rfl, Lib.hid ⟨j0, f0, Nat.le_refl _, HJ0.out⟩⟩
        case round =>
          clear HJ0
          obtain ⟨ps, o6, c6, rfl, HE⟩ := hrel
          obtain ⟨j, f1, hjj, hnj⟩ := HE.out
          obtain ⟨f, rfl⟩ : ∃ f, f1 = f + 1 := ⟨f1 - 1, by have := hnj.fu; omega⟩
          have HJ := Lib.hid hnj
          have hat := hnj.rd.atOf
          have hjle := hnj.le
          have hfew := hnj.few
          have heq := hnj.eq
          rw [names_go] at heq
          have HQ := Lib.hid heq
          have HP := Lib.hid (part_read F wr R l j false hnj.rd hjle hF (by omega))
          have hsz2 := hnj.only.size
          clear hnj HE heq
          go_wp2_with fail
          refine HP.out.mono ?_
          rintro e w2 ⟨hon, hpo⟩
          clear HP
          have hon2 := HJ.out.only.trans hon
          have hszw := hon2.size
          cases hx : Sp.part typB F (l.drop j) with
          | opn =>
            rw [hx] at hpo
            obtain ⟨t, v, b, i', rfl, hi', hr2⟩ := hpo
            have hX : X = .opn := by rw [HQ.out, hx]
            have hr3 := hr2.stays ((Below.refl w2.heap.size w2).alloc (Nat.le_refl _) (.cells #[.string t, .string v] 78 (0, 0)))
            have c2 : (w2.alloc (.cells #[.string t, .string v] 78 (0, 0))).cell? ⟨R, 2, none⟩ = some (.bool true) := blockCell hr3 2
            have HE := Lib.hid (HN.out.bel.trans (onlyR_below (hon2.alloc (.cells #[.string t, .string v] 78 (0, 0))) hsz1 (by omega)))
            clear hr3 hr2 hon hon2 hx HQ HJ
            subst hX
            go_wp2_with fail
            go_ret2
            exact ⟨HG.out _ _ rfl, HE.out⟩
          | bad =>
            rw [hx] at hpo
            obtain ⟨t, v, i', rfl, hi', hr2⟩ := hpo
            have hX : X = .bad := by rw [HQ.out, hx]
            have hr3 := hr2.stays ((Below.refl w2.heap.size w2).alloc (Nat.le_refl _) (.cells #[.string t, .string v] 78 (0, 0)))
            have c2 : (w2.alloc (.cells #[.string t, .string v] 78 (0, 0))).cell? ⟨R, 2, none⟩ = some (.bool false) := blockCell hr3 2
            have HE := Lib.hid (HN.out.bel.trans (onlyR_below (hon2.alloc (.cells #[.string t, .string v] 78 (0, 0))) hsz1 (by omega)))
            clear hr3 hr2 hon hon2 hx HQ HJ
            subst hX
            go_wp2_with fail
            go_ret2
            exact ⟨HG.out _ _ rfl, HE.out⟩
          | ok p rs =>
            rw [hx] at hpo
            obtain ⟨i', rfl, hi', hrs, hr2⟩ := hpo
            have hshort := Sp.part_shorter hx
            rw [hrs, List.length_drop, List.length_drop] at hshort
            have hji : j < i' := by omega
            have hr3 := hr2.stays ((Below.refl w2.heap.size w2).alloc (Nat.le_refl _) (.cells #[.string (Nm.bs p.1), .string (Nm.bs p.2)] 78 (0, 0)))
            have c2 : (w2.alloc (.cells #[.string (Nm.bs p.1), .string (Nm.bs p.2)] 78 (0, 0))).cell? ⟨R, 2, none⟩ = some (.bool false) := blockCell hr3 2
            have hRw : R < wo.heap.size := HN.out.rd.lt
            have hown2 : w2.ownsRow wo.heap.size 78 2 (.slice o6 ps.length c6) ps.length (cellsOf ps) := owns_stays HJ.out.own (fun g hg => hon.block g (owns_lt HJ.out.own g hg) (by have := (HJ.out.own.lt g hg).1; simp; omega))
            obtain ⟨W, hW⟩ : ∃ W, W = (w2.alloc (.cells #[.string (Nm.bs p.1), .string (Nm.bs p.2)] 78)).alloc (.cells #[.string (Nm.bs p.1), .string (Nm.bs p.2)] 78) := ⟨_, rfl⟩
            have hownW : W.ownsRow wo.heap.size 78 2 (.slice o6 ps.length c6) ps.length (cellsOf ps) := by rw [hW]; exact (hown2.alloc _).alloc _
            have hnews : ∀ k u, ([.string (Nm.bs p.1), .string (Nm.bs p.2)] : List Value)[k]? = some u → W.cell? ((⟨w2.heap.size + 1, 0, none⟩ : Addr).add k) = some u := by
              intro k u hk
              exact World.news_of_block (w := W) (B := w2.heap.size + 1) (by rw [hW]; have := heap_alloc_new (w2.alloc (.cells #[.string (Nm.bs p.1), .string (Nm.bs p.2)] 78)) (.cells #[.string (Nm.bs p.1), .string (Nm.bs p.2)] 78); simpa using this) k u (by simpa using hk)
            have h1c : ∀ u ∈ ([.string (Nm.bs p.1), .string (Nm.bs p.2)] : List Value), u.oneCell' = true := by intro u hu; simp at hu; rcases hu with rfl | rfl <;> rfl
            have h63 : ps.length + 1 ≤ maxLen := by simp only [maxLen]; omega
            have hby : (ps.length + 1) * 32 ≤ 140737488355328 := by omega
            have hbase : wo.heap.size ≤ W.heap.size := by rw [hW]; simp; omega
            have hrW : NRd W R l i' false := by rw [hW]; exact hr3.stays ((Below.refl _ _).alloc (Nat.le_refl _) _)
            have honW : Only (· = R) wo W := by rw [hW]; exact (hon2.alloc _).alloc _
            subst hW
            have HRW := Lib.hid (And.intro hrW honW)
            have HRS := Lib.hid hrs
            have HXX := Lib.hid hx
            clear hr3 hr2 hon hon2 hx hrs hown2 hrW honW hshort
            go_wp2_with (at_builtin; go_loud (refine wpList_append_lies _ (by rfl) _ _ _ (by rfl) wo.heap.size 78 i1 (.agg #[.string ⟨#[]⟩, .string ⟨#[]⟩]) 2 32 Tryz.underlying77 hi1 hz10 hz11 hz12 rfl (by decide) _ ps.length (cellsOf ps) (by rfl) hownW ⟨w2.heap.size + 1, 0, none⟩ 1 1 [.string (Nm.bs p.1), .string (Nm.bs p.2)] (by rfl) rfl hnews h1c (by decide) h63 hby hbase (w2.heap.size + 1 + 1) (by simp) ?_))
            intro g' cap w4 hown' hgr hat' hlt'
            have hr4 : NRd w4 R l i' false := (hgr.block R HRW.out.1.lt (fun e => by have := (hownW.lt R e.symm).1; omega)).trans HRW.out.1
            have hon4 : Only (· = R) wo w4 := HRW.out.2.grown hgr (fun k hk => (hownW.lt k hk).1)
            have hin4 : PartsOwn 78 wo.heap.size w4 (.slice (some ⟨g', 0, none⟩) (ps ++ [p]).length cap) (ps ++ [p]) := by
              unfold PartsOwn; rw [cellsOf_snoc, List.length_append]; exact hown'
            have hsz4 := hon4.size
            have d0 : w4.cell? ⟨R, 1, none⟩ = some (.int .i64 i') := blockCell hr4 1
            have d1 := blockFrozen hr4 1
            have H4 := Lib.hid (And.intro hr4 (And.intro hon4 hin4))
            have hpl : (ps ++ [p]).length = ps.length + 1 := by simp
            clear hown' hgr hat' hownW hnews h1c hby hbase hr4 hon4 hin4 HRW c2
            have hown5 : w4.ownsRow w.heap.size 77 1 (.slice oo n.length cc) n.length vs := owns_stays HN.out.own (fun g hg => H4.out.2.1.block g (owns_lt HN.out.own g hg) (by rintro rfl; exact own_ne HN.out.own HN.out.rd (by decide) hg))
            have hrows5 : RowsOwn 78 w.heap.size w4 vs n := HN.out.rows.stays (fun g c hg => H4.out.2.1.block g (blockLt hg) (by
              rintro rfl
              have e := HN.out.rd.symm.trans hg
              injection e with e
              injection e with _ e _
              exact absurd e (by decide)))
            have hb4 : Below w.heap.size w w4 := HN.out.bel.trans (onlyR_below H4.out.2.1 hsz1 (by omega))
            have HOUT := Lib.hid hown5
            have HROWS := Lib.hid hrows5
            have HB4 := Lib.hid hb4
            have hwsz := hb4.size
            clear hown5 hrows5 hb4
            -- the append of a relative name
            have hownW : (w4.alloc (.cells #[.slice (some ⟨g', 0, none⟩) (ps.length + 1) cap] 77)).ownsRow w.heap.size 77 1 (.slice oo n.length cc) n.length vs := HOUT.out.alloc _
            have hnews : ∀ k u, ([.slice (some ⟨g', 0, none⟩) (ps.length + 1) cap] : List Value)[k]? = some u → (w4.alloc (.cells #[.slice (some ⟨g', 0, none⟩) (ps.length + 1) cap] 77)).cell? ((⟨w4.heap.size, 0, none⟩ : Addr).add k) = some u := by
              intro k u hk
              exact World.news_of_block (B := w4.heap.size) (heap_alloc_new w4 _) k u (by simpa using hk)
            have h1c : ∀ u ∈ ([.slice (some ⟨g', 0, none⟩) (ps.length + 1) cap] : List Value), u.oneCell' = true := by
              intro u hu; simp at hu; subst hu; rfl
            have hnf : n.length ≤ j0 := HN.out.few
            have h64 : n.length + 1 ≤ maxLen := by simp only [maxLen]; omega
            have hby : (n.length + 1) * 24 ≤ 140737488355328 := by omega
            have hbase : w.heap.size ≤ (w4.alloc (.cells #[.slice (some ⟨g', 0, none⟩) (ps.length + 1) cap] 77)).heap.size := by simp; omega
            have hfin : ∀ g2 cap2 w6, w6.ownsRow w.heap.size 77 1 (.slice (some ⟨g2, 0, none⟩) (n.length + 1) cap2) (n.length + 1) (vs ++ [.slice (some ⟨g', 0, none⟩) (ps.length + 1) cap]) → (w4.alloc (.cells #[.slice (some ⟨g', 0, none⟩) (ps.length + 1) cap] 77)).grownBy w6 (Value.slice oo n.length cc).ownBlock →
                NRd w6 R l i' false ∧ Below w.heap.size w w6 ∧ w6.ownsRow w.heap.size 77 1 (.slice (some ⟨g2, 0, none⟩) (n ++ [ps ++ [p]]).length cap2) (n ++ [ps ++ [p]]).length (vs ++ [.slice (some ⟨g', 0, none⟩) (ps.length + 1) cap]) ∧ RowsOwn 78 w.heap.size w6 (vs ++ [.slice (some ⟨g', 0, none⟩) (ps.length + 1) cap]) (n ++ [ps ++ [p]]) := by
              intro g2 cap2 w6 hown' hgr
              refine ⟨?_, ?_, ?_, ?_⟩
              · exact (hgr.block R (by have := H4.out.1.lt; simp; omega) (fun e => own_ne HOUT.out H4.out.1 (by decide) e.symm)).trans ((Below.heap_alloc _ _ _ H4.out.1.lt).trans H4.out.1)
              · exact (HB4.out.alloc (by omega) _).grown hgr (by simp; omega) (fun k hk => HOUT.out.lt k hk |>.1)
              · rw [List.length_append]; exact hown'
              · refine RowsOwn.snoc ?_ (HROWS.out.grown HOUT.out (by decide) hgr)
                have hin := H4.out.2.2
                rw [List.length_append] at hin
                refine (hin.lower hsz1).stays fun k c hk => ?_
                rw [hgr.block k (by have := blockLt hk; simp; omega) (fun e => own_ne HOUT.out hk (by decide) e.symm), Below.heap_alloc _ _ _ (blockLt hk)]
            have HFIN := Lib.hid hfin
            clear hfin
            by_cases hend : i' = l.length
            · subst hend
              have t1 : decide ((l.length : Int) ≥ (l.length : Int)) = true := by simp
              have hX : X = .right (n ++ [ps ++ [p]]) := by
                rw [HQ.out, HXX.out, HRS.out, List.drop_length]
              clear HQ HXX HRS HJ
              subst hX
              go_wp2_with (at_builtin; go_loud (refine wpList_append_lies _ (by rfl) _ _ _ (by rfl) w.heap.size 77 i2 (.slice none 0 0) 1 24 Tryz.underlying22 hi2 hz20 hz21 hz22 rfl (by decide) (.slice oo n.length cc) n.length vs (by rfl) hownW ⟨w4.heap.size, 0, none⟩ 1 1 [.slice (some ⟨g', 0, none⟩) (ps.length + 1) cap] (by rfl) rfl hnews h1c (by decide) h64 hby hbase (w4.heap.size + 1) (by simp) ?_))
              intro g2 cap2 w6 hown' hgr hat2 hlt2
              obtain ⟨e1', e2', e3', e4'⟩ := HFIN.out g2 cap2 w6 hown' hgr
              have d2 : w6.cell? ⟨R, 1, none⟩ = some (.int .i64 l.length) := blockCell e1' 1
              have HE := Lib.hid (And.intro e2' (And.intro e3' e4'))
              clear e1' e2' e3' e4' hown' hgr hat2 hownW hnews h1c hby hbase HFIN
              go_wp2_with fail
              go_ret2
              exact ⟨HG.out _ _ ⟨.slice (some ⟨g2, 0, none⟩) (n ++ [ps ++ [p]]).length cap2, by rw [show (n ++ [ps ++ [p]]).length = n.length + 1 by simp]; rfl, _, HE.out.2.1, HE.out.2.2⟩, HE.out.1⟩
            · have hlt : i' < l.length := by omega
              have hlt2 : i' < (Nm.bs l).size := by rw [hsz]; exact hlt
              have t1 : decide ((i' : Int) ≥ (l.length : Int)) = false := by simp; omega
              obtain ⟨c, hc, hget⟩ : ∃ b : UInt8, l[i']? = some b ∧ ((Nm.bs l)[i']'hlt2).toNat = b.toNat := ⟨_, List.getElem?_eq_getElem hlt, by rw [bs_get]⟩
              have i0' : (0 : Int) ≤ (i' : Int) := by omega
              have i1' : (i' : Int) < ((Nm.bs l).size : Int) := by omega
              have hX : X = if c = 43 then Sp.names typB F f (l.drop (i' + 1)) (ps ++ [p]) n else Sp.names typB F f (l.drop (i' + 1)) [] (n ++ [ps ++ [p]]) := by
                rw [HQ.out, HXX.out, HRS.out, hd_drop hc]
              have hfu := HJ.out.fu
              have HXE := Lib.hid hX
              clear hX HQ HXX HRS HJ hc
              by_cases h43 : c = 43
              · have q43 : ((c.toNat : Int) != 43) = false := by rw [h43]; rfl
                have HXX : Hid (X = Sp.names typB F f (l.drop (i' + 1)) (ps ++ [p]) n) := Lib.hid (by rw [HXE.out, if_pos h43])
                have hrs4 := H4.out.1.at (i' + 1)
                have hos4 : Only (· = R) wo (w4.setCell ⟨R, 1, none⟩ (.int .i64 ((i' : Int) + 1))) := H4.out.2.1.setOne 1 _
                have hin4 : (w4.setCell ⟨R, 1, none⟩ (.int .i64 ((i' : Int) + 1))).ownsRow wo.heap.size 78 2 (.slice (some ⟨g', 0, none⟩) (ps ++ [p]).length cap) (ps ++ [p]).length (cellsOf (ps ++ [p])) := owns_stays H4.out.2.2 (fun g hg => set_other (by rintro rfl; exact own_ne H4.out.2.2 H4.out.1 (by decide) hg))
                have HE := Lib.hid (And.intro hrs4 (And.intro hos4 hin4))
                clear hrs4 hos4 hin4 h43 hownW hnews h1c hby hbase HFIN
                go_wp2_with fail
                exact ⟨⟨ps ++ [p], some ⟨g', 0, none⟩, cap, by rw [hpl], Lib.hid ⟨i' + 1, f, by omega, by omega, by omega, HXX.out, by rw [hpl]; omega, HE.out.1, HE.out.2.1, HE.out.2.2⟩⟩, meas HE.out.1 hat (by omega) (by omega)⟩
              · have q43 : ((c.toNat : Int) != 43) = true := by
                  rw [bne_iff_ne]; intro h
                  exact h43 (UInt8.toNat_inj.1 (by have : (43 : UInt8).toNat = 43 := rfl; omega))
                have HXX : Hid (X = Sp.names typB F f (l.drop (i' + 1)) [] (n ++ [ps ++ [p]])) := Lib.hid (by rw [HXE.out, if_neg h43])
                clear h43
                go_wp2_with (at_builtin; go_loud (refine wpList_append_lies _ (by rfl) _ _ _ (by rfl) w.heap.size 77 i2 (.slice none 0 0) 1 24 Tryz.underlying22 hi2 hz20 hz21 hz22 rfl (by decide) (.slice oo n.length cc) n.length vs (by rfl) hownW ⟨w4.heap.size, 0, none⟩ 1 1 [.slice (some ⟨g', 0, none⟩) (ps.length + 1) cap] (by rfl) rfl hnews h1c (by decide) h64 hby hbase (w4.heap.size + 1) (by simp) ?_))
                intro g2 cap2 w6 hown' hgr hat2 hlt2'
                obtain ⟨e1', e2', e3', e4'⟩ := HFIN.out g2 cap2 w6 hown' hgr
                have d2 : w6.cell? ⟨R, 1, none⟩ = some (.int .i64 i') := blockCell e1' 1
                have d3 := blockFrozen e1' 1
                have hne3 : ∀ g, (Value.slice (some ⟨g2, 0, none⟩) (n ++ [ps ++ [p]]).length cap2).ownBlock = some g → g ≠ R := by
                  intro g hg; rintro rfl; exact own_ne e3' e1' (by decide) hg
                have hrs6 := e1'.at (i' + 1)
                have hbs6 : Below w.heap.size w (w6.setCell ⟨R, 1, none⟩ (.int .i64 ((i' : Int) + 1))) := e2'.setCell (p := ⟨R, 1, none⟩) (by simp; omega) _
                have hos6 : (w6.setCell ⟨R, 1, none⟩ (.int .i64 ((i' : Int) + 1))).ownsRow w.heap.size 77 1 (.slice (some ⟨g2, 0, none⟩) (n ++ [ps ++ [p]]).length cap2) (n ++ [ps ++ [p]]).length (vs ++ [.slice (some ⟨g', 0, none⟩) (ps.length + 1) cap]) := owns_stays e3' (fun g hg => set_other (hne3 g hg))
                have hro6 : RowsOwn 78 w.heap.size (w6.setCell ⟨R, 1, none⟩ (.int .i64 ((i' : Int) + 1))) (vs ++ [.slice (some ⟨g', 0, none⟩) (ps.length + 1) cap]) (n ++ [ps ++ [p]]) := e4'.stays (fun g c hg => set_other (by
                  rintro rfl
                  have e := e1'.symm.trans hg
                  injection e with e
                  injection e with _ e _
                  exact absurd e (by decide)))
                have HE := Lib.hid (And.intro hrs6 (And.intro hbs6 (And.intro hos6 hro6)))
                have hnl : (n ++ [ps ++ [p]]).length = n.length + 1 := by simp
                clear e1' e2' e3' e4' hown' hgr hat2 hownW hnews h1c hby hbase HFIN hrs6 hbs6 hos6 hro6 hne3
                go_wp2_with fail
                exact ⟨⟨n ++ [ps ++ [p]], some ⟨g2, 0, none⟩, cap2, by rw [hnl], Lib.hid ⟨i' + 1, f, _, by omega, by omega, HXX.out, by rw [hnl]; omega, HE.out.1, HE.out.2.1, HE.out.2.2.1, HE.out.2.2.2⟩⟩, meas HE.out.1 hat0 (by omega) (by omega)⟩
end Go.Proofs.YtjmahgefijncaaaGreatFmt

/- NameSame, at the same names. -/
namespace Go.Proofs.YtjmahgefijncaaaGreatFmt
open Go Go.RowKit

set_option maxRecDepth 100000 in
set_option maxHeartbeats 8000000 in
theorem name_same (va vb : Value) (n : Nm.Name) (w : World) (hA : NameIn w va n) (hB : NameIn w vb n) (hn : n.length < 1000000000) (hps : ∀ ps ∈ n, ps.length < 1000000000) :
    Calls Tryz.prog 14 #[va, vb] w fun e w' => e = .returned (.bool true) ∧ Below w.heap.size w w' := by
  obtain ⟨oa, ca, rfl, hrA⟩ := hA
  obtain ⟨ob, cb, rfl, hrB⟩ := hB
  have HA := Lib.hid hrA
  have HB := Lib.hid hrB
  clear hrA hrB
  have t0 : ((n.length : Int) != (n.length : Int)) = false := by simp
  go_enter Tryz.func14, Tryz.ntmps14
  go_wp2_with fail
  go_loopw [14] (fun t14 wr => ∃ (i : Nat), t14 = .int .i64 i ∧ i ≤ n.length ∧ Hid (Below w.heap.size w wr)) (fun t14 _ => n.length - (intOf t14).toNat)
  case atStart => exact ⟨0, rfl, Nat.zero_le _, Lib.hid (Below.refl _ _)⟩
  case round =>
    obtain ⟨i, rfl, hi, HL⟩ := hrel
    by_cases hend : i = n.length
    · subst hend
      have t1 : decide ((n.length : Int) < (n.length : Int)) = false := by simp
      go_wp2_with fail
      go_ret
      exact ⟨rfl, HL.out⟩
    · have hlt : i < n.length := by omega
      have t1 : decide ((i : Int) < (n.length : Int)) = true := by simp; omega
      obtain ⟨ps, hp⟩ : ∃ ps, n[i]? = some ps := ⟨_, List.getElem?_eq_getElem hlt⟩
      have hpl : ps.length < 1000000000 := hps ps (List.mem_of_getElem? hp)
      obtain ⟨ga, offa, ua, rfl, cra, hpa⟩ := HA.out i ps hp
      obtain ⟨gb, offb, ub, rfl, crb, hpb⟩ := HB.out i ps hp
      obtain ⟨oua, cua, rfl, hpca⟩ := hpa
      obtain ⟨oub, cub, rfl, hpcb⟩ := hpb
      have t2 : ((ps.length : Int) != (ps.length : Int)) = false := by simp
      have HPA := Lib.hid hpca
      have HPB := Lib.hid hpcb
      have HCA := Lib.hid cra
      have HCB := Lib.hid crb
      have i0 : (0 : Int) ≤ (i : Int) := by omega
      have i1 : (i : Int) < (n.length : Int) := by omega
      have ka : wr.cell? ⟨ga, offa + i, none⟩ = some (.slice oua ps.length cua) := (HL.out.cell (World.block_lt_of_cell? w ⟨ga, offa + i, none⟩ cra)).trans cra
      have kb : wr.cell? ⟨gb, offb + i, none⟩ = some (.slice oub ps.length cub) := (HL.out.cell (World.block_lt_of_cell? w ⟨gb, offb + i, none⟩ crb)).trans crb
      clear cra crb hpca hpcb hp hend
      go_wp2_with fail
      go_quiet (fail)
      go_wp2_with fail
      have HL2 : Hid (Below w.heap.size w (wr.drewN nq)) := Lib.hid ⟨HL.out.os, HL.out.tape, HL.out.output, HL.out.size, HL.out.block⟩
      clear HL ka kb
      generalize wr.drewN nq = wo at *
      go_loopw [33] (fun t33 wr => ∃ (j : Nat), t33 = .int .i64 j ∧ j ≤ ps.length ∧ Hid (Below w.heap.size w wr)) (fun t33 _ => ps.length - (intOf t33).toNat)
      case atStart => exact ⟨0, rfl, Nat.zero_le _, HL2⟩
      case round =>
        clear t1 HL2
        obtain ⟨j, rfl, hj, HL⟩ := hrel
        by_cases hje : j = ps.length
        · subst hje
          have t3 : decide ((ps.length : Int) < (ps.length : Int)) = false := by simp
          go_wp2_with fail
          exact ⟨⟨i + 1, by go_num, by omega, HL⟩, by simp [intOf]; omega⟩
        · have hjl : j < ps.length := by omega
          have t3 : decide ((j : Int) < (ps.length : Int)) = true := by simp; omega
          obtain ⟨p, hp⟩ : ∃ p, ps[j]? = some p := ⟨_, List.getElem?_eq_getElem hjl⟩
          obtain ⟨ha, fa, rfl, ca1, ca2⟩ := HPA.out j p hp
          obtain ⟨hb, fb, rfl, cb1, cb2⟩ := HPB.out j p hp
          have j0 : (0 : Int) ≤ (j : Int) := by omega
          have j1 : (j : Int) < (ps.length : Int) := by omega
          have mv : ∀ {b o : Nat} {u : Value}, w.cell? ⟨b, o, none⟩ = some u → wr.cell? ⟨b, o, none⟩ = some u := fun {b o u} h => (HL.out.cell (World.block_lt_of_cell? w ⟨b, o, none⟩ h)).trans h
          have ka := mv HCA.out
          have kb := mv HCB.out
          have k1 := mv ca1
          have k2 := mv ca2
          have k3 := mv cb1
          have k4 := mv cb2
          clear mv ca1 ca2 cb1 cb2 hp
          go_wp2_with fail
          go_quiet (fail)
          go_wp2_with fail
          exact ⟨⟨j + 1, by go_num, by omega, Lib.hid ⟨HL.out.os, HL.out.tape, HL.out.output, HL.out.size, HL.out.block⟩⟩, by simp [intOf]; omega⟩
end Go.Proofs.YtjmahgefijncaaaGreatFmt

