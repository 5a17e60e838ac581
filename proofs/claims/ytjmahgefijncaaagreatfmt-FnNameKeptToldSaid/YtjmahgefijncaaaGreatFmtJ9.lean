/- Plain: what spec.NameRead makes of values, as the parser's runs. -/
import Derived.Test.YtjmahgefijncaaaGreatFmtJ6
import Derived.Laws.RangeString
import Derived.Laws.RangeAny
set_option linter.unusedVariables false
set_option linter.unusedSimpArgs false
namespace Go.Proofs.YtjmahgefijncaaaGreatFmt.Sp
open Go

theorem enc_high {r : Nat} (hr : OkRune r) (h8 : 128 ≤ r) : ∀ c ∈ Lib.encodeRune (r : Int), 128 ≤ c.toNat := by
  have key : ∀ n : Nat, 128 ≤ n → n < 256 → 128 ≤ n.toUInt8.toNat := fun n h1 h2 => by rw [toNat_u8 h2]; exact h1
  have hm : r ≤ 1114111 := by unfold OkRune at hr; omega
  intro c hc
  by_cases h2 : r < 2048
  · rw [enc_two h8 h2] at hc
    simp only [List.mem_cons, List.not_mem_nil, or_false] at hc
    rcases hc with rfl | rfl
    · exact key _ (by omega) (by omega)
    · exact key _ (by omega) (by omega)
  · by_cases h3 : r < 65536
    · rw [enc_three (by omega) h3 hr] at hc
      simp only [List.mem_cons, List.not_mem_nil, or_false] at hc
      rcases hc with rfl | rfl | rfl
      · exact key _ (by omega) (by omega)
      · exact key _ (by omega) (by omega)
      · exact key _ (by omega) (by omega)
    · rw [enc_four (by omega) hr] at hc
      simp only [List.mem_cons, List.not_mem_nil, or_false] at hc
      rcases hc with rfl | rfl | rfl | rfl
      · exact key _ (by omega) (by omega)
      · exact key _ (by omega) (by omega)
      · exact key _ (by omega) (by omega)
      · exact key _ (by omega) (by omega)

theorem value_byte (f : Nat) (c : UInt8) (s out : List UInt8) (b : Bool) (h : 128 ≤ c.toNat) : value (f + 1) (c :: s) out b = value f s (out ++ [c]) false := by
  have ne : ∀ d : UInt8, d.toNat < 128 → c ≠ d := fun d hd e => by rw [e] at h; omega
  simp only [value]
  rw [if_neg (by rintro (e | e); exact ne 44 (by decide) e; exact ne 43 (by decide) e),
    if_neg (by rintro (e | e | e | e | e); exact ne 59 (by decide) e; exact ne 34 (by decide) e; exact ne 60 (by decide) e; exact ne 62 (by decide) e; exact ne 0 (by decide) e), if_neg (ne 92 (by decide))]
  have : (c == 32) = false := by rw [beq_eq_false_iff_ne]; exact ne 32 (by decide)
  rw [this]
theorem value_high : ∀ (hs : List UInt8) (f : Nat) (s out : List UInt8) (b : Bool), hs ≠ [] → (∀ c ∈ hs, 128 ≤ c.toNat) → value f (hs ++ s) out b = .opn ∨ ∃ f', f' < f ∧ value f (hs ++ s) out b = value f' s (out ++ hs) false
  | [], _, _, _, _, h, _ => absurd rfl h
  | c :: hs, 0, s, out, b, _, _ => Or.inl rfl
  | c :: hs, f + 1, s, out, b, _, h => by
    have e : value (f + 1) (c :: hs ++ s) out b = value f (hs ++ s) (out ++ [c]) false := value_byte f c (hs ++ s) out b (h c (List.mem_cons_self ..))
    rw [e]
    cases hh : hs with
    | nil => exact Or.inr ⟨f, by omega, rfl⟩
    | cons d ds =>
      rcases value_high (d :: ds) f s (out ++ [c]) false (by simp) (fun x hx => h x (by rw [hh]; exact List.mem_cons_of_mem _ hx)) with h1 | ⟨f', h1, h2⟩
      · exact Or.inl h1
      · exact Or.inr ⟨f', by omega, by rw [h2, List.append_assoc]; rfl⟩

/-- An escape that is none. -/
def BadEsc (tl : List Nat) : Prop := tl = [] ∨ ∃ e tl', tl = e :: tl' ∧ Nm.special e = false ∧ (Nm.hexDigit e = none ∨ tl' = [] ∨ ∃ y tl'', tl' = y :: tl'' ∧ Nm.hexDigit y = none)

/-- What has come of a value. -/
def Came (A : List UInt8) (rs : List Nat) : O (List UInt8) → Prop
  | .opn => True
  | .bad => ∃ rs1 A1 out1 b1 tl, Acc rs1 A1 out1 b1 ∧ A ++ encs rs = A1 ++ 92 :: encs tl ∧ (∀ r ∈ tl, OkRune r) ∧ BadEsc tl
  | .ok v rest => ∃ rs1 A1 rs2, Acc rs1 A1 v false ∧ A ++ encs rs = A1 ++ rest ∧ rest = encs rs2 ∧ (∀ r ∈ rs2, OkRune r) ∧ (rest = [] ∨ ∃ s, rest = 44 :: s ∨ rest = 43 :: s)

theorem enc_low {r : Nat} (h : r < 128) : Lib.encodeRune (r : Int) = [r.toUInt8] ∧ r.toUInt8.toNat = r := ⟨enc_one h, toNat_u8 (by omega)⟩
theorem not_special_high {n : Nat} (h : 128 ≤ n) : Nm.special n = false := by
  simp only [Nm.special, Bool.or_eq_false_iff, beq_eq_false_iff_ne]
  refine ⟨⟨⟨⟨⟨⟨⟨⟨⟨?_, ?_⟩, ?_⟩, ?_⟩, ?_⟩, ?_⟩, ?_⟩, ?_⟩, ?_⟩, ?_⟩ <;> omega
theorem not_hex_high {n : Nat} (h : 128 ≤ n) : Nm.hexDigit n = none := by
  unfold Nm.hexDigit
  rw [if_neg (by omega), if_neg (by omega), if_neg (by omega)]
theorem enc_cons_of {r : Nat} (hr : OkRune r) (h8 : 128 ≤ r) (s : List UInt8) : ∃ c T, Lib.encodeRune (r : Int) ++ s = c :: T ∧ 128 ≤ c.toNat := by
  cases hc : Lib.encodeRune (r : Int) with
  | nil => have := (enc_len (r : Int)).1; rw [hc] at this; simp at this
  | cons c T => exact ⟨c, T ++ s, rfl, enc_high hr h8 c (by rw [hc]; simp)⟩

theorem value_came : ∀ (f : Nat) (rs rs0 : List Nat) (A out : List UInt8) (b : Bool), Acc rs0 A out b → (∀ r ∈ rs, OkRune r) → Came A rs (value f (encs rs) out b)
  | 0, _, _, _, _, _, _, _ => trivial
  | f + 1, [], rs0, A, out, b, h, _ => by
    show Came A [] (value (f + 1) [] out b)
    simp only [value]
    cases b with
    | true => exact trivial
    | false => exact ⟨rs0, A, [], h, by simp [encs], rfl, by simp, Or.inl rfl⟩
  | f + 1, r :: rs, rs0, A, out, b, h, hok => by
    have hr := hok r (List.mem_cons_self ..)
    have hrs : ∀ x ∈ rs, OkRune x := fun x hx => hok x (List.mem_cons_of_mem _ hx)
    by_cases h8 : 128 ≤ r
    · have hne : Lib.encodeRune (r : Int) ≠ [] := fun e => by have := (enc_len (r : Int)).1; rw [e] at this; simp at this
      rw [encs_cons]
      rcases value_high (Lib.encodeRune (r : Int)) (f + 1) (encs rs) out b hne (enc_high hr h8) with h1 | ⟨f', hf, h1⟩
      · rw [h1]; trivial
      · rw [h1]
        have hacc := h.high hr h8 (enc_high hr h8)
        have hc := value_came f' rs _ _ _ _ hacc hrs
        have e : A ++ Lib.encodeRune (r : Int) ++ encs rs = A ++ encs (r :: rs) := by rw [encs_cons, List.append_assoc]
        revert hc
        cases value f' (encs rs) (out ++ Lib.encodeRune (r : Int)) false with
        | opn => exact fun _ => trivial
        | bad => rintro ⟨a1, a2, a3, a4, a5, k1, k2, k3⟩; exact ⟨a1, a2, a3, a4, a5, k1, by rw [← e]; exact k2, k3⟩
        | ok v rest => rintro ⟨a1, a2, a3, k1, k2, k3⟩; exact ⟨a1, a2, a3, k1, by rw [← e]; exact k2, k3⟩
    · have hlt : r < 128 := by omega
      obtain ⟨he, hn⟩ := enc_low hlt
      have e0 : encs (r :: rs) = r.toUInt8 :: encs rs := by rw [encs_cons, he]; rfl
      rw [e0]
      generalize r.toUInt8 = c at *
      subst hn
      have onto : ∀ (xs : List Nat) (X : List UInt8) (rs' : List Nat) (out' : List UInt8) (b' : Bool), (∀ x ∈ rs', OkRune x) → Acc (rs0 ++ xs) (A ++ X) out' b' → X ++ encs rs' = encs (c.toNat :: rs) → Came A (c.toNat :: rs) (value f (encs rs') out' b') := by
        intro xs X rs' out' b' hrs' hacc heq
        have hc := value_came f rs' _ _ _ _ hacc hrs'
        have e : A ++ X ++ encs rs' = A ++ encs (c.toNat :: rs) := by rw [List.append_assoc, heq]
        revert hc
        cases value f (encs rs') out' b' with
        | opn => exact fun _ => trivial
        | bad => rintro ⟨a1, a2, a3, a4, a5, k1, k2, k3⟩; exact ⟨a1, a2, a3, a4, a5, k1, by rw [← e]; exact k2, k3⟩
        | ok v rest => rintro ⟨a1, a2, a3, k1, k2, k3⟩; exact ⟨a1, a2, a3, k1, by rw [← e]; exact k2, k3⟩
      by_cases h1 : c = 44 ∨ c = 43
      · simp only [value]
        rw [if_pos h1]
        cases b with
        | true => exact trivial
        | false =>
          refine ⟨rs0, A, c.toNat :: rs, h, by rw [e0], e0.symm, hok, Or.inr ⟨encs rs, ?_⟩⟩
          rcases h1 with rfl | rfl
          · exact Or.inl rfl
          · exact Or.inr rfl
      · by_cases h2 : c = 59 ∨ c = 34 ∨ c = 60 ∨ c = 62 ∨ c = 0
        · simp only [value]
          rw [if_neg h1, if_pos h2]
          trivial
        · by_cases h3 : c = 92
          · subst h3
            have bad : BadEsc rs → Came A ((92 : UInt8).toNat :: rs) .bad := fun hb => ⟨rs0, A, out, b, rs, h, by rw [e0], hrs, hb⟩
            cases rs with
            | nil =>
              show Came A _ (value (f + 1) [92] out b)
              simp only [value]
              rw [if_neg h1, if_neg h2, if_pos trivial]
              exact bad (Or.inl rfl)
            | cons e rs1 =>
              have hre := hrs e (List.mem_cons_self ..)
              have hrs1 : ∀ x ∈ rs1, OkRune x := fun x hx => hrs x (List.mem_cons_of_mem _ hx)
              by_cases h8e : 128 ≤ e
              · obtain ⟨d, T, hT, hd⟩ := enc_cons_of hre h8e (encs rs1)
                rw [encs_cons, hT]
                simp only [value]
                rw [if_neg h1, if_neg h2, if_pos trivial, not_special_high hd, if_neg (by simp)]
                have hp : pair (d :: T) = none := by
                  cases T with
                  | nil => rfl
                  | cons t T => simp only [pair, not_hex_high hd]
                rw [hp]
                exact bad (Or.inr ⟨e, rs1, rfl, not_special_high h8e, Or.inl (not_hex_high h8e)⟩)
              · have hlte : e < 128 := by omega
                obtain ⟨hee, hne⟩ := enc_low hlte
                have e1 : encs (e :: rs1) = e.toUInt8 :: encs rs1 := by rw [encs_cons, hee]; rfl
                rw [e1]
                generalize e.toUInt8 = d at *
                subst hne
                simp only [value]
                rw [if_neg h1, if_neg h2, if_pos trivial]
                by_cases hsp : Nm.special d.toNat = true
                · rw [if_pos hsp]
                  exact onto [92, d.toNat] [92, d] rs1 _ _ hrs1 (h.spec hlte hsp) (by rw [e0, e1]; rfl)
                · have hsp' : Nm.special d.toNat = false := by simpa using hsp
                  rw [if_neg hsp]
                  cases rs1 with
                  | nil =>
                    show Came A _ (match pair [d] with | none => O.bad | some (b, s2) => value f s2 (out ++ [b]) false)
                    exact bad (Or.inr ⟨d.toNat, [], rfl, hsp', Or.inr (Or.inl rfl)⟩)
                  | cons y rs2 =>
                    have hry := hrs1 y (List.mem_cons_self ..)
                    by_cases h8y : 128 ≤ y
                    · obtain ⟨g, T, hT, hg⟩ := enc_cons_of hry h8y (encs rs2)
                      rw [encs_cons, hT]
                      have hp : pair (d :: g :: T) = none := by
                        simp only [pair, not_hex_high hg]
                        cases Nm.hexDigit d.toNat <;> rfl
                      rw [hp]
                      exact bad (Or.inr ⟨d.toNat, y :: rs2, rfl, hsp', Or.inr (Or.inr ⟨y, rs2, rfl, not_hex_high h8y⟩)⟩)
                    · obtain ⟨hey, hny⟩ := enc_low (show y < 128 by omega)
                      have e2 : encs (y :: rs2) = y.toUInt8 :: encs rs2 := by rw [encs_cons, hey]; rfl
                      rw [e2]
                      generalize y.toUInt8 = g at *
                      subst hny
                      cases hpd : Nm.hexDigit d.toNat with
                      | none =>
                        have hp : pair (d :: g :: encs rs2) = none := by simp only [pair, hpd]
                        rw [hp]
                        exact bad (Or.inr ⟨d.toNat, g.toNat :: rs2, rfl, hsp', Or.inl hpd⟩)
                      | some x =>
                        cases hpg : Nm.hexDigit g.toNat with
                        | none =>
                          have hp : pair (d :: g :: encs rs2) = none := by simp only [pair, hpd, hpg]
                          rw [hp]
                          exact bad (Or.inr ⟨d.toNat, g.toNat :: rs2, rfl, hsp', Or.inr (Or.inr ⟨g.toNat, rs2, rfl, hpg⟩)⟩)
                        | some z =>
                          have hp : pair (d :: g :: encs rs2) = some (UInt8.ofNat (x * 16 + z), encs rs2) := by simp only [pair, hpd, hpg]
                          rw [hp]
                          exact onto [92, d.toNat, g.toNat] [92, d, g] rs2 _ _ (fun x hx => hrs1 x (List.mem_cons_of_mem _ hx)) (h.hex hpd hpg) (by rw [e0, e1, e2]; rfl)
          · simp only [value]
            rw [if_neg h1, if_neg h2, if_neg h3]
            have n44 : c ≠ 44 := fun e => h1 (Or.inl e)
            have n43 : c ≠ 43 := fun e => h1 (Or.inr e)
            have n59 : c ≠ 59 := fun e => h2 (Or.inl e)
            have hrf : Nm.refused c.toNat = false := by
              have ne : ∀ d : UInt8, c ≠ d → c.toNat ≠ d.toNat := fun d h e => h (UInt8.toNat_inj.1 e)
              simp only [Nm.refused, Bool.or_eq_false_iff, beq_eq_false_iff_ne]
              exact ⟨⟨⟨⟨ne 34 (fun e => h2 (Or.inr (Or.inl e))), ne 59 n59⟩, ne 60 (fun e => h2 (Or.inr (Or.inr (Or.inl e))))⟩, ne 62 (fun e => h2 (Or.inr (Or.inr (Or.inr (Or.inl e)))))⟩, ne 0 (fun e => h2 (Or.inr (Or.inr (Or.inr (Or.inr e)))))⟩
            exact onto [c.toNat] [c] rs _ _ hrs (h.plain hlt h3 n44 n43 n59 hrf) (by rw [e0]; rfl)
termination_by f => f
end Go.Proofs.YtjmahgefijncaaaGreatFmt.Sp

/- Plain: values that spec.NameRead reads, or refuses, as the parser does. -/
namespace Go.Proofs.YtjmahgefijncaaaGreatFmt.Sp
open Go

theorem runes_ahead : ∀ (rs : List Nat) (pre W : List UInt8) (f : Nat), (∀ r ∈ rs, OkRune r) → rs.length ≤ f → Nm.runes (Nm.bs (pre ++ (encs rs ++ W))) f pre.length = rs ++ Nm.runes (Nm.bs (pre ++ (encs rs ++ W))) (f - rs.length) (pre ++ encs rs).length
  | [], pre, W, f, _, _ => by simp [encs]
  | r :: rs, pre, W, 0, _, h => by simp at h
  | r :: rs, pre, W, f + 1, hv, h => by
    have hd := decode_enc pre (encs rs ++ W) r (hv r (List.mem_cons_self ..))
    have hlen := enc_len (r : Int)
    have ih := runes_ahead rs (pre ++ Lib.encodeRune (r : Int)) W f (fun x hx => hv x (List.mem_cons_of_mem _ hx)) (by simpa using h)
    have e : pre ++ (encs (r :: rs) ++ W) = pre ++ (Lib.encodeRune (r : Int) ++ (encs rs ++ W)) := by rw [encs_cons, List.append_assoc]
    rw [e]
    have hsz : (Nm.bs (pre ++ (Lib.encodeRune (r : Int) ++ (encs rs ++ W)))).size = pre.length + ((Lib.encodeRune (r : Int)).length + (encs rs ++ W).length) := by
      show (List.toArray _).size = _
      simp
    have e3 : (pre ++ encs (r :: rs)).length = ((pre ++ Lib.encodeRune (r : Int)) ++ encs rs).length := by rw [encs_cons]; simp
    have e4 : f + 1 - (r :: rs).length = f - rs.length := by simp
    rw [e3, e4]
    rw [Nm.runes, hsz, if_pos (by omega), hd]
    simp only [List.append_assoc, List.length_append, List.cons_append] at ih ⊢
    rw [ih]

/-- The first rune of bytes. -/
theorem rune_at (l : List UInt8) (i f : Nat) (h : i < l.length) : ∃ e more, Nm.runes (Nm.bs l) (f + 1) i = e :: more ∧ (e = (l[i]).toNat ∨ (128 ≤ (l[i]).toNat ∧ 128 ≤ e)) ∧ ((l[i]).toNat < 128 → more = Nm.runes (Nm.bs l) f (i + 1)) := by
  have hsz : (Nm.bs l).size = l.length := rfl
  have hi : i < (Nm.bs l).size := by rw [hsz]; exact h
  have hg : (Nm.bs l)[i]'hi = l[i] := by first | exact bs_get _ _ _ | (rw [bs_get]; rfl)
  rw [Nm.runes, if_pos hi]
  by_cases ha : ((Nm.bs l)[i]'hi).toNat < 128
  · rw [decode_ascii _ _ hi ha, hg]
    exact ⟨_, _, rfl, Or.inl rfl, fun _ => rfl⟩
  · have hh := decode_high (Nm.bs l) i hi (by omega)
    rw [hg] at ha
    exact ⟨_, _, rfl, Or.inr ⟨by omega, hh.1⟩, fun h => absurd h ha⟩

theorem upTo_le (l : List UInt8) : ∀ n, Nm.upTo l n ≤ n
  | 0 => Nat.le_refl _
  | n + 1 => by unfold Nm.upTo; split; have := upTo_le l n; omega; exact Nat.le_refl _
theorem upTo_keep (l : List UInt8) : ∀ n k c, k < n → l[k]? = some c → c ≠ 32 → k < Nm.upTo l n
  | 0, k, c, h, _, _ => by omega
  | n + 1, k, c, h, h1, h2 => by
    unfold Nm.upTo
    split
    · rename_i hn
      by_cases hk : k = n
      · subst hk; rw [h1] at hn; exact absurd (Option.some.inj hn) h2
      · exact upTo_keep l n k c (by omega) h1 h2
    · omega
theorem upTo_blank (l : List UInt8) : ∀ n, Nm.upTo l n < n → l[Nm.upTo l n]? = some 32
  | 0, h => by omega
  | n + 1, h => by
    unfold Nm.upTo at h ⊢
    split
    · rename_i hn
      rw [if_pos hn] at h
      by_cases h2 : Nm.upTo l n < n
      · exact upTo_blank l n h2
      · have := upTo_le l n
        have e : Nm.upTo l n = n := by omega
        rw [e]; exact hn
    · rename_i hn
      rw [if_neg hn] at h
      omega
theorem strip_take {t : List UInt8} (h0 : t[0]? ≠ some 32) : ∃ n, Nm.strip t = t.take n ∧ ∀ k c, t[k]? = some c → c ≠ 32 → k < n := by
  unfold Nm.strip
  rw [NT.trimL_id h0]
  have keep : ∀ k c, t[k]? = some c → c ≠ 32 → k < Nm.upTo t t.length := fun k c hk hc => upTo_keep t t.length k c (List.getElem?_eq_some_iff.1 hk).1 hk hc
  split
  · rename_i hs
    obtain ⟨hne, hl, -⟩ := hs
    have hlt : Nm.upTo t t.length < t.length := by
      rcases Nat.lt_or_ge (Nm.upTo t t.length) t.length with h | h
      · exact h
      · have hle := upTo_le t t.length
        have e : Nm.upTo t t.length = t.length := by omega
        exfalso
        cases hn : t.length with
        | zero => rw [List.length_eq_zero_iff.1 hn] at hl; simp at hl
        | succ m =>
          rw [hn] at e
          unfold Nm.upTo at e
          have hlast : t[m]? = some 32 := by rw [← hl, List.getLast?_eq_getElem?, hn]; rfl
          rw [if_pos hlast] at e
          have := upTo_le t m
          omega
    refine ⟨Nm.upTo t t.length + 1, ?_, fun k c hk hc => by have := keep k c hk hc; omega⟩
    have hb := upTo_blank t t.length hlt
    unfold Nm.trimR
    rw [List.take_add_one, hb]; rfl
  · exact ⟨Nm.upTo t t.length, rfl, keep⟩

theorem nospecial_unescape {e : Nat} (h : Nm.special e = false) (more : List Nat) (hm : more = [] ∨ Nm.hexDigit e = none ∨ ∃ y r, more = y :: r ∧ Nm.hexDigit y = none) : Nm.unescape (92 :: e :: more) = none := by
  unfold Nm.unescape
  rw [if_pos rfl]
  simp only [h, Bool.false_eq_true, if_false]
  cases more with
  | nil => rfl
  | cons y r =>
    simp only []
    rcases hm with h1 | h1 | ⟨y', r', h1, h2⟩
    · cases h1
    · rw [h1]
    · injection h1 with h1 h3
      subst h1
      rw [h2]
      cases Nm.hexDigit e <;> rfl

/-- An escape that is none is refused, whatever of what follows belongs to it. -/
theorem decode_badEsc {rs : List Nat} {A out : List UInt8} {b : Bool} (h : Acc rs A out b) (h0 : A[0]? ≠ some 32) {tl : List Nat} (htl : ∀ r ∈ tl, OkRune r) (hb : BadEsc tl) (X : List UInt8) (hX : ∃ l', encs tl = X ++ l') : Nm.decode (A ++ 92 :: X) = none := by
  have hh : (A ++ 92 :: X)[0]? ≠ some 32 := by
    cases A with
    | nil => simp
    | cons a A => simpa using h0
  obtain ⟨n, hn, hk⟩ := strip_take hh
  have hn1 : A.length < n := hk A.length 92 (by simp) (by decide)
  obtain ⟨m, rfl⟩ : ∃ m, n = A.length + (m + 1) := ⟨n - A.length - 1, by omega⟩
  have hs : Nm.strip (A ++ 92 :: X) = A ++ 92 :: X.take m := by
    rw [hn, List.take_append, List.take_of_length_le (by omega)]
    congr 1
    rw [show A.length + (m + 1) - A.length = m + 1 by omega]; rfl
  obtain ⟨l', hl'⟩ := hX
  have hY : ∃ l2, encs tl = X.take m ++ l2 := ⟨X.drop m ++ l', by rw [← List.append_assoc, List.take_append_drop]; exact hl'⟩
  unfold Nm.decode
  rw [hs]
  generalize X.take m = Y at *
  obtain ⟨l2, hl2⟩ := hY
  have hrun := runes_ahead rs [] (92 :: Y) (A ++ 92 :: Y).length h.okr (by have := encs_len_ge rs; rw [h.enc, List.length_append]; omega)
  simp only [List.nil_append, List.length_nil] at hrun
  rw [← h.enc] at hrun
  rw [hrun, h.run]
  have hlen : (A ++ 92 :: Y).length - rs.length = (A.length + Y.length - rs.length) + 1 := by
    have := encs_len_ge rs
    rw [← h.enc] at this
    simp only [List.length_append, List.length_cons]; omega
  rw [hlen]
  have hcur : ∀ j, (A ++ 92 :: Y)[A.length + (j + 1)]? = Y[j]? := fun j => by
    rw [List.getElem?_append_right (by omega), show A.length + (j + 1) - A.length = j + 1 by omega]; rfl
  obtain ⟨e0, more0, hr0, hv0, hm0⟩ := rune_at (A ++ 92 :: Y) A.length (A.length + Y.length - rs.length) (by simp)
  have h92 : ((A ++ 92 :: Y)[A.length]'(by simp)).toNat = 92 := by simp
  rw [h92] at hv0 hm0
  have he0 : e0 = 92 := by rcases hv0 with h | ⟨h, _⟩; exact h; omega
  rw [hr0, he0, hm0 (by decide)]
  have hAl := encs_len_ge rs
  rw [← h.enc] at hAl
  cases hYc : Y with
  | nil =>
    have : Nm.runes (Nm.bs (A ++ 92 :: ([] : List UInt8))) (A.length + ([] : List UInt8).length - rs.length) (A.length + 1) = [] := by
      cases hf : A.length + ([] : List UInt8).length - rs.length with
      | zero => rfl
      | succ q =>
        rw [Nm.runes, if_neg]
        show ¬ A.length + 1 < (A ++ 92 :: ([] : List UInt8)).length
        simp
    rw [this]
    simp [Nm.unescape]
  | cons y0 Y1 =>
    rw [← hYc]
    have hyl : Y.length = Y1.length + 1 := by rw [hYc]; rfl
    obtain ⟨q, hq⟩ : ∃ q, A.length + Y.length - rs.length = q + 1 := ⟨A.length + Y.length - rs.length - 1, by omega⟩
    rw [hq]
    have hi1 : A.length + 1 < (A ++ 92 :: Y).length := by simp; omega
    have hy0 : (A ++ 92 :: Y)[A.length + 1]'hi1 = y0 := by
      have h7 : Y[0]? = some y0 := by rw [hYc]; rfl
      exact (List.getElem?_eq_some_iff.1 ((hcur 0).trans h7)).2
    obtain ⟨e1, more1, hr1, hv1, hm1⟩ := rune_at (A ++ 92 :: Y) (A.length + 1) q hi1
    rw [hy0] at hv1 hm1
    rw [hr1]
    -- what the first rune behind the backslash is
    have hfin : Nm.special e1 = false ∧ (more1 = [] ∨ Nm.hexDigit e1 = none ∨ ∃ y r, more1 = y :: r ∧ Nm.hexDigit y = none) := by
      rcases hb with rfl | ⟨e, tl', rfl, hsp, hhex⟩
      · simp [encs, hYc] at hl2
      · by_cases h8 : 128 ≤ e
        · have hy : 128 ≤ y0.toNat := by
            obtain ⟨d, T, hT, hd⟩ := enc_cons_of (htl e (List.mem_cons_self ..)) h8 (encs tl')
            rw [encs_cons, hT, hYc] at hl2
            injection hl2 with h1 _
            rw [← h1]; exact hd
          have h128 : 128 ≤ e1 := by rcases hv1 with h | ⟨_, h⟩; omega; exact h
          exact ⟨not_special_high h128, Or.inr (Or.inl (not_hex_high h128))⟩
        · obtain ⟨hee, hne⟩ := enc_low (show e < 128 by omega)
          rw [encs_cons, hee, hYc] at hl2
          injection hl2 with h1 h2
          have hye : y0.toNat = e := by rw [← h1]; exact hne
          have he1 : e1 = e := by rcases hv1 with h | ⟨h, _⟩; omega; omega
          rw [he1]
          refine ⟨hsp, ?_⟩
          rw [hm1 (by omega)]
          rcases hhex with h3 | rfl | ⟨y, tl'', rfl, h3⟩
          · exact Or.inr (Or.inl h3)
          · left
            have hY1 : Y1 = [] := by
              have h2' : ([] : List UInt8) ++ encs [] = Y1 ++ l2 := h2
              simp [encs] at h2'
              exact h2'.1
            cases q with
            | zero => rfl
            | succ q =>
              rw [Nm.runes, if_neg]
              show ¬ A.length + 1 + 1 < (A ++ 92 :: Y).length
              rw [hYc, hY1]; simp
          · cases hY1 : Y1 with
            | nil =>
              left
              cases q with
              | zero => rfl
              | succ q =>
                rw [Nm.runes, if_neg]
                show ¬ A.length + 1 + 1 < (A ++ 92 :: Y).length
                rw [hYc, hY1]; simp
            | cons y1 Y2 =>
              right; right
              have hq2 : ∃ q', q = q' + 1 := ⟨q - 1, by rw [hY1] at hyl; simp at hyl; omega⟩
              obtain ⟨q', rfl⟩ := hq2
              have hi2 : A.length + 1 + 1 < (A ++ 92 :: Y).length := by rw [hYc, hY1]; simp; omega
              have hy1 : (A ++ 92 :: Y)[A.length + 1 + 1]'hi2 = y1 := by
                have h7 : Y[1]? = some y1 := by rw [hYc, hY1]; rfl
                exact (List.getElem?_eq_some_iff.1 ((hcur 1).trans h7)).2
              obtain ⟨e2, more2, hr2, hv2, _⟩ := rune_at (A ++ 92 :: Y) (A.length + 1 + 1) q' hi2
              rw [hy1] at hv2
              refine ⟨e2, more2, hr2, ?_⟩
              have h2' : ([] : List UInt8) ++ encs (y :: tl'') = Y1 ++ l2 := h2
              rw [List.nil_append, hY1] at h2'
              by_cases h8y : 128 ≤ y
              · have hy : 128 ≤ y1.toNat := by
                  obtain ⟨d, T, hT, hd⟩ := enc_cons_of (htl y (by simp)) h8y (encs tl'')
                  rw [encs_cons, hT] at h2'
                  injection h2' with h6 _
                  rw [← h6]; exact hd
                exact not_hex_high (by rcases hv2 with h | ⟨_, h⟩; omega; exact h)
              · obtain ⟨hey, hny⟩ := enc_low (show y < 128 by omega)
                rw [encs_cons, hey] at h2'
                injection h2' with h6 _
                have : y1.toNat = y := by rw [← h6]; exact hny
                have he2 : e2 = y := by rcases hv2 with h | ⟨h, _⟩; omega; omega
                rw [he2]; exact h3
    rw [nospecial_unescape hfin.1 more1 hfin.2]
    rfl
end Go.Proofs.YtjmahgefijncaaaGreatFmt.Sp

