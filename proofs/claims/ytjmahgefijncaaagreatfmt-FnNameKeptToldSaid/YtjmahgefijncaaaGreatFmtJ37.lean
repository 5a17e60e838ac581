/- Plain: names that spec.NameRead reads: what the parser comes to. -/
import Derived.Test.YtjmahgefijncaaaGreatFmtJ35
set_option linter.unusedVariables false
set_option linter.unusedSimpArgs false
namespace Go.Proofs.YtjmahgefijncaaaGreatFmt.Sp
open Go

def flag (c : UInt8) : Bool := c == 32 || c == 59 || c == 34 || c == 60 || c == 62 || c == 0 || c == 92 || c == 35 || decide (128 ≤ c.toNat)
def ends (c : UInt8) : Bool := c == 61 || c == 44 || c == 43
def mapO (t : List UInt8) : O (List UInt8) → O Nm.Part
  | .opn => .opn
  | .bad => .bad
  | .ok v rest => .ok (t, v) rest
/-- An attribute: T: what NameType says. -/
def part (T : List UInt8 → Bool) (F : Nat) (l : List UInt8) : O Nm.Part :=
  if (l.takeWhile (fun c => !ends c)).any flag then .opn else
  match l.dropWhile (fun c => !ends c) with
  | [] => if l.takeWhile (fun c => !ends c) ≠ [] ∧ T (l.takeWhile (fun c => !ends c)) = false then .opn else .bad
  | c :: s1 =>
    if c = 61 then
      if T (l.takeWhile (fun c => !ends c)) = true then
        if s1[0]? = some 32 then .opn
        else if s1[0]? = some 35 then mapO (l.takeWhile (fun c => !ends c)) (hexs F (s1.drop 1) [])
        else mapO (l.takeWhile (fun c => !ends c)) (value F s1 [] false)
      else .opn
    else if l.takeWhile (fun c => !ends c) ≠ [] ∧ T (l.takeWhile (fun c => !ends c)) = false then .opn else .bad

inductive R where
  | opn
  | bad
  | right (n : Nm.Name)
def names (T : List UInt8 → Bool) (F : Nat) : Nat → List UInt8 → List Nm.Part → Nm.Name → R
  | 0, _, _, _ => .opn
  | f + 1, l, rdn, dn =>
    match part T F l with
    | .opn => .opn
    | .bad => .bad
    | .ok p [] => .right (dn ++ [rdn ++ [p]])
    | .ok p (c :: s) => if c = 43 then names T F f s (rdn ++ [p]) dn else names T F f s [] (dn ++ [rdn ++ [p]])

def UtfOK (l : List UInt8) : Prop := ∃ rs, l = encs rs ∧ ∀ r ∈ rs, OkRune r
theorem utf_tail {c : UInt8} {s : List UInt8} (hc : c.toNat < 128) (h : UtfOK (c :: s)) : UtfOK s := by
  obtain ⟨rs, h1, h2⟩ := h
  cases rs with
  | nil => simp [encs] at h1
  | cons r rs =>
    by_cases h8 : 128 ≤ r
    · obtain ⟨d, T, hT, hd⟩ := enc_cons_of (h2 r (List.mem_cons_self ..)) h8 (encs rs)
      rw [encs_cons, hT] at h1
      injection h1 with h3 _
      rw [h3] at hc; omega
    · obtain ⟨he, _⟩ := enc_low (show r < 128 by omega)
      rw [encs_cons, he] at h1
      injection h1 with _ h4
      exact ⟨rs, h4, fun x hx => h2 x (List.mem_cons_of_mem _ hx)⟩
theorem utf_drop : ∀ {H rest : List UInt8}, (∀ c ∈ H, c.toNat < 128) → UtfOK (H ++ rest) → UtfOK rest
  | [], _, _, h => h
  | c :: H, rest, hc, h => utf_drop (fun d hd => hc d (List.mem_cons_of_mem _ hd)) (utf_tail (hc c (List.mem_cons_self ..)) h)
theorem utf_suffix : ∀ {H rest : List UInt8}, Stop rest → UtfOK (H ++ rest) → UtfOK rest := by
  intro H rest hs h
  obtain ⟨rs, h1, h2⟩ := h
  rcases hs with rfl | ⟨s, hs⟩
  · exact ⟨[], rfl, by simp⟩
  · -- the rest begins with a byte below 128: it begins a rune
    have key : ∀ (rs : List Nat) (H : List UInt8), (∀ r ∈ rs, OkRune r) → H ++ rest = encs rs → UtfOK rest := by
      intro rs
      induction rs with
      | nil =>
        intro H _ e
        simp [encs] at e
        exact ⟨[], by rw [e.2]; rfl, by simp⟩
      | cons r rs ih =>
        intro H hok e
        have hrs : ∀ x ∈ rs, OkRune x := fun x hx => hok x (List.mem_cons_of_mem _ hx)
        by_cases hH : H = []
        · subst hH; exact ⟨r :: rs, e, hok⟩
        · have hlow : ∃ c, rest[0]? = some c ∧ c.toNat < 128 := by
            rcases hs with rfl | rfl
            · exact ⟨44, rfl, by decide⟩
            · exact ⟨43, rfl, by decide⟩
          rw [encs_cons] at e
          by_cases hl : (Lib.encodeRune (r : Int)).length ≤ H.length
          · have e2 : H.drop (Lib.encodeRune (r : Int)).length ++ rest = encs rs := by
              have := congrArg (List.drop (Lib.encodeRune (r : Int)).length) e
              rw [List.drop_append_of_le_length hl, List.drop_left] at this
              exact this
            exact ih _ hrs e2
          · exfalso
            obtain ⟨c, hc, hc8⟩ := hlow
            have h8 : 128 ≤ r := by
              rcases Nat.lt_or_ge r 128 with h | h
              · obtain ⟨he, _⟩ := enc_low h
                rw [he] at hl
                exact absurd (List.length_pos_iff.2 hH) (by simpa using hl)
              · exact h
            have hm : (Lib.encodeRune (r : Int))[H.length]? = some c := by
              have := congrArg (fun x => x[H.length]?) e
              rw [List.getElem?_append_right (Nat.le_refl _), Nat.sub_self, List.getElem?_append_left (by omega)] at this
              rw [← this]; exact hc
            have := enc_high (hok r (List.mem_cons_self ..)) h8 c (List.mem_of_getElem? hm)
            omega
    exact key rs H h2 h1

theorem type_run {VR : List UInt8 → List UInt8 → Prop} {VE : List UInt8 → Prop} : ∀ (t l seg : List UInt8) (rdn : List Nm.Part) (dn : Nm.Name) (r : Option Nm.Name), (∀ c ∈ t, tyByte c.toNat) → (Nm.parseR VR VE (t ++ l) seg false [] rdn dn r ↔ Nm.parseR VR VE l (seg ++ t) false [] rdn dn r)
  | [], l, seg, rdn, dn, r, _ => by simp
  | c :: t, l, seg, rdn, dn, r, h => by
    obtain ⟨a1, a2, a3, a4, a5, a6, _, _⟩ := NT.type_plain (h c (List.mem_cons_self ..)) (UInt8.toNat_lt c)
    have ne : ∀ d : UInt8, c.toNat ≠ d.toNat → c ≠ d := fun d h e => h (by rw [e])
    have ih := type_run (VR := VR) (VE := VE) t l (seg ++ [c]) rdn dn r (fun x hx => h x (List.mem_cons_of_mem _ hx))
    rw [List.append_assoc] at ih
    rw [show seg ++ c :: t = seg ++ ([c] ++ t) from rfl, ← ih]
    show Nm.parseR VR VE (c :: (t ++ l)) seg false [] rdn dn r ↔ _
    conv => lhs; unfold Nm.parseR
    rw [if_neg (by simp), if_neg (ne 92 a2), if_neg (by rintro ⟨e, _⟩; exact ne 61 a6 e), if_neg (by rintro (e | e | e); exact ne 44 a3 e; exact ne 43 a4 e; exact ne 59 a5 e)]

def PartLaw (l : List UInt8) (rdn : List Nm.Part) (dn : Nm.Name) : O Nm.Part → Prop
  | .opn => True
  | .bad => ∀ r, Nm.parseR AnyR AnyE l [] false [] rdn dn r → r = none
  | .ok p rest => UtfOK rest ∧ Stop rest ∧ ∀ r, Nm.parseR AnyR AnyE l [] false [] rdn dn r → Next AnyR AnyE rest (rdn ++ [p]) dn r

theorem part_law (T : List UInt8 → Bool) (hT : ∀ t, T t = true → TypeOK t) (F : Nat) (l : List UInt8) (hu : UtfOK l) (rdn : List Nm.Part) (dn : Nm.Name) : PartLaw l rdn dn (part T F l) := by
  have hspl : l.takeWhile (fun c => !ends c) ++ l.dropWhile (fun c => !ends c) = l := List.takeWhile_append_dropWhile
  unfold part
  generalize htd : l.takeWhile (fun c => !ends c) = t at *
  have hdw : ∀ c s, l.dropWhile (fun c => !ends c) = c :: s → ends c = true := fun c s h => by
    have := List.head?_dropWhile_not (fun c => !ends c) l
    rw [h] at this
    simpa using this
  generalize hsd : l.dropWhile (fun c => !ends c) = s at *
  split
  · trivial
  · rename_i hfl
    have ok : t = [] ∨ T t = true → t = [] ∨ TypeOK t := fun h => h.imp id (hT t)
    have tb : t = [] ∨ TypeOK t → ∀ c ∈ t, tyByte c.toNat := fun h => by
      rcases h with rfl | h
      · simp
      · exact h.2
    cases s with
    | nil =>
      simp only []
      split
      · trivial
      · rename_i hn
        intro r h
        have hto : t = [] ∨ TypeOK t := ok (by
          by_cases h1 : t = []
          · exact Or.inl h1
          · right; cases h2 : T t with
            | true => rfl
            | false => exact absurd ⟨h1, h2⟩ hn)
        rw [← hspl, type_run t [] [] rdn dn r (tb hto)] at h
        unfold Nm.parseR at h
        rw [if_pos rfl] at h
        exact h
    | cons c s1 =>
      have hce := hdw c s1 rfl
      simp only []
      split
      · rename_i hc61
        subst hc61
        split
        · rename_i hTt
          have hto := hT t hTt
          have htb : ∀ c ∈ t, tyByte c.toNat := hto.2
          have hstep : ∀ r, Nm.parseR AnyR AnyE l [] false [] rdn dn r → Nm.parseR AnyR AnyE s1 [] false t rdn dn r := fun r h => by
            rw [← hspl, type_run t (61 :: s1) [] rdn dn r htb] at h
            unfold Nm.parseR at h
            rw [if_neg (by simp), if_neg (by decide), if_pos ⟨rfl, rfl⟩, List.nil_append] at h
            rcases h with ⟨h1, _⟩ | ⟨t', h1, h2⟩
            · rw [NT.decode_type t hto] at h1; cases h1
            · rw [NT.decode_type t hto] at h1
              rw [← Option.some.inj h1] at h2
              exact h2
          have hus : UtfOK s1 := by
            have h1 : UtfOK (61 :: s1) := utf_drop (fun c hc => (NT.type_plain (htb c hc) (UInt8.toNat_lt c)).1) (by rw [hspl]; exact hu)
            exact utf_tail (by decide) h1
          have lift : ∀ o, Law s1 t rdn dn o → PartLaw l rdn dn (mapO t o) := fun o h => by
            cases o with
            | opn => trivial
            | bad => exact fun r hr => h r (hstep r hr)
            | ok v rest => exact ⟨h.1, h.2.1, fun r hr => h.2.2 r (hstep r hr)⟩
          split
          · trivial
          · rename_i h32
            split
            · rename_i h35
              refine lift _ ?_
              cases s1 with
              | nil => simp at h35
              | cons d s2 =>
                simp only [List.getElem?_cons_zero, Option.some.injEq] at h35
                subst h35
                have hus2 : UtfOK s2 := utf_tail (by decide) hus
                exact hash_law F s2 hus2 (fun H rest e hst => utf_suffix hst (by rw [← e]; exact hus2)) t hto.1 rdn dn
            · rename_i h35
              refine lift _ ?_
              obtain ⟨rs, h1, h2⟩ := hus
              rw [h1] at h32 h35 ⊢
              exact value_law F rs h2 h32 h35 t hto.1 rdn dn
        · trivial
      · rename_i hc61
        split
        · trivial
        · rename_i hn
          intro r h
          have hto : t = [] ∨ TypeOK t := ok (by
            by_cases h1 : t = []
            · exact Or.inl h1
            · right; cases h2 : T t with
              | true => rfl
              | false => exact absurd ⟨h1, h2⟩ hn)
          rw [← hspl, type_run t (c :: s1) [] rdn dn r (tb hto)] at h
          have hc : c = 44 ∨ c = 43 := by
            simp only [ends, Bool.or_eq_true, beq_iff_eq] at hce
            rcases hce with (h | h) | h
            · exact absurd h hc61
            · exact Or.inl h
            · exact Or.inr h
          unfold Nm.parseR at h
          rw [if_neg (by simp), if_neg (by rcases hc with rfl | rfl <;> decide), if_neg (by rintro ⟨e, _⟩; exact hc61 e), if_pos (by rcases hc with h | h; exact Or.inl h; exact Or.inr (Or.inl h)), if_pos rfl] at h
          exact h

theorem names_law (T : List UInt8 → Bool) (hT : ∀ t, T t = true → TypeOK t) (F : Nat) : ∀ (f : Nat) (l : List UInt8) (rdn : List Nm.Part) (dn : Nm.Name), UtfOK l →
    match names T F f l rdn dn with
    | .opn => True
    | .bad => ∀ r, Nm.parseR AnyR AnyE l [] false [] rdn dn r → r = none
    | .right n => ∀ r, Nm.parseR AnyR AnyE l [] false [] rdn dn r → r = some n
  | 0, _, _, _, _ => trivial
  | f + 1, l, rdn, dn, hu => by
    have hp := part_law T hT F l hu rdn dn
    simp only [names]
    revert hp
    cases part T F l with
    | opn => exact fun _ => trivial
    | bad => exact fun h => h
    | ok p rest =>
      rintro ⟨h1, h2, h3⟩
      cases rest with
      | nil => exact fun r h => h3 r h
      | cons c s =>
        simp only []
        have hc : c = 44 ∨ c = 43 := by
          rcases h2 with h | ⟨s', h | h⟩
          · cases h
          · injection h with h _; exact Or.inl h
          · injection h with h _; exact Or.inr h
        have hus : UtfOK s := utf_tail (by rcases hc with rfl | rfl <;> decide) h1
        by_cases hc43 : c = 43
        · rw [if_pos hc43]
          have ih := names_law T hT F f s (rdn ++ [p]) dn hus
          revert ih
          cases names T F f s (rdn ++ [p]) dn with
          | opn => exact fun _ => trivial
          | bad => exact fun ih r h => ih r (by have := h3 r h; unfold Next at this; simp only [] at this; rwa [if_pos hc43] at this)
          | right n => exact fun ih r h => ih r (by have := h3 r h; unfold Next at this; simp only [] at this; rwa [if_pos hc43] at this)
        · rw [if_neg hc43]
          have ih := names_law T hT F f s [] (dn ++ [rdn ++ [p]]) hus
          revert ih
          cases names T F f s [] (dn ++ [rdn ++ [p]]) with
          | opn => exact fun _ => trivial
          | bad => exact fun ih r h => ih r (by have := h3 r h; unfold Next at this; simp only [] at this; rwa [if_neg hc43] at this)
          | right n => exact fun ih r h => ih r (by have := h3 r h; unfold Next at this; simp only [] at this; rwa [if_neg hc43] at this)

theorem take_all (p : UInt8 → Bool) : ∀ l : List UInt8, (∀ c ∈ l, p c = true) → l.takeWhile p = l
  | [], _ => rfl
  | c :: l, h => by rw [List.takeWhile_cons, if_pos (h c (List.mem_cons_self ..)), take_all p l (fun d hd => h d (List.mem_cons_of_mem _ hd))]
theorem drop_all (p : UInt8 → Bool) : ∀ l : List UInt8, (∀ c ∈ l, p c = true) → l.dropWhile p = []
  | [], _ => rfl
  | c :: l, h => by rw [List.dropWhile_cons, if_pos (h c (List.mem_cons_self ..)), drop_all p l (fun d hd => h d (List.mem_cons_of_mem _ hd))]
/-- Blanks alone are left open. -/
theorem blank_open (T : List UInt8 → Bool) (hT : ∀ t, T t = true → TypeOK t) (F f : Nat) (l : List UInt8) (hne : l ≠ []) (hb : Nm.blank l = true) (rdn : List Nm.Part) (dn : Nm.Name) : names T F f l rdn dn = .opn := by
  cases f with
  | zero => rfl
  | succ f =>
    have hall : ∀ c ∈ l, c = 32 ∨ (9 ≤ c ∧ c ≤ 13) := fun c hc => by
      unfold Nm.blank at hb
      rw [List.all_eq_true] at hb
      simpa using hb c hc
    have hne2 : ∀ c ∈ l, (!ends c) = true := fun c hc => by
      rcases hall c hc with rfl | ⟨h1, h2⟩
      · decide
      · have g1 := UInt8.le_iff_toNat_le.1 h1
        have g2 := UInt8.le_iff_toNat_le.1 h2
        have ne : ∀ d : UInt8, d.toNat > 13 → c ≠ d := fun d hd e => by rw [e] at g2; have : (13 : UInt8).toNat = 13 := rfl; omega
        simp only [ends, Bool.not_eq_true', Bool.or_eq_false_iff, beq_eq_false_iff_ne]
        exact ⟨⟨ne 61 (by decide), ne 44 (by decide)⟩, ne 43 (by decide)⟩
    have ht : l.takeWhile (fun c => !ends c) = l := take_all _ l hne2
    have hd : l.dropWhile (fun c => !ends c) = [] := by
      exact drop_all _ l hne2
    have hp : part T F l = .opn := by
      unfold part
      rw [ht, hd]
      split
      · rfl
      · rename_i hfl
        simp only []
        have hTf : T l = false := by
          cases h : T l with
          | false => rfl
          | true =>
            exfalso
            cases l with
            | nil => exact hne rfl
            | cons c l =>
              have h1 := (hT _ h).2 c (List.mem_cons_self ..)
              rcases hall c (List.mem_cons_self ..) with rfl | ⟨g1, g2⟩
              · unfold tyByte at h1
                have : (32 : UInt8).toNat = 32 := rfl
                omega
              · have g1 := UInt8.le_iff_toNat_le.1 g1
                have g2 := UInt8.le_iff_toNat_le.1 g2
                have e1 : (9 : UInt8).toNat = 9 := rfl
                have e2 : (13 : UInt8).toNat = 13 := rfl
                unfold tyByte at h1
                omega
        rw [if_pos ⟨hne, hTf⟩]
    simp only [names, hp]

/-- spec.NameRead of UTF-8. -/
def read (T : List UInt8 → Bool) (F : Nat) (l : List UInt8) : R := if l = [] then .right [] else names T F F l [] []
theorem read_law (T : List UInt8 → Bool) (hT : ∀ t, T t = true → TypeOK t) (F : Nat) (l : List UInt8) (hu : UtfOK l) :
    match read T F l with
    | .opn => True
    | .bad => ∀ r, Nm.parseDNR AnyR AnyE l r → r = none
    | .right n => ∀ r, Nm.parseDNR AnyR AnyE l r → r = some n := by
  unfold read
  by_cases h0 : l = []
  · rw [if_pos h0]
    intro r h
    subst h0
    unfold Nm.parseDNR at h
    rw [if_pos (by rfl)] at h
    exact h
  · rw [if_neg h0]
    by_cases hb : Nm.blank l = true
    · rw [blank_open T hT F F l h0 hb]; trivial
    · have hn := names_law T hT F F l [] [] hu
      have e : ∀ r, Nm.parseDNR AnyR AnyE l r → Nm.parseR AnyR AnyE l [] false [] [] [] r := fun r h => by
        unfold Nm.parseDNR at h; rwa [if_neg hb] at h
      revert hn
      cases names T F F l [] [] with
      | opn => exact fun _ => trivial
      | bad => exact fun hn r h => hn r (e r h)
      | right n => exact fun hn r h => hn r (e r h)
end Go.Proofs.YtjmahgefijncaaaGreatFmt.Sp

