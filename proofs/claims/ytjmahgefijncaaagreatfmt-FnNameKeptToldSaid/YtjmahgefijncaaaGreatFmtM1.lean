/- What the comparisons of names say, in plain Lean. -/
import Derived.Test.YtjmahgefijncaaaGreatFmtJ2
import Derived.Test.YtjmahgefijncaaaGreatFmtJ1
import Derived.Test.YtjmahgefijncaaaGreatFmtJ35
import Derived.Test.YtjmahgefijncaaaGreatFmtJ3
import Derived.Lib.AppendStr
import Derived.Lib.OthersKept
set_option linter.unusedVariables false
set_option linter.unusedSimpArgs false
namespace Go.Proofs.YtjmahgefijncaaaGreatFmt.NC
open Go

/-- What is compared of a part. -/
def key (fold : Bool) (p : Nm.Part) : Nm.Part := (low p.1, if fold then low p.2 else p.2)
/-- Each of the first list has one of the second for itself. -/
def hasAll : List Nm.Part → List Nm.Part → Bool
  | [], _ => true
  | a :: r, m => if a ∈ m then hasAll r (m.erase a) else false

theorem hasAll_perm : ∀ (a m : List Nm.Part), a.length = m.length → (hasAll a m = true ↔ a.Perm m)
  | [], m, h => by
    have : m = [] := List.length_eq_zero_iff.1 (by simpa using h.symm)
    subst this; simp [hasAll]
  | x :: a, m, h => by
    rw [hasAll]
    split
    · rename_i hx
      have hl : a.length = (m.erase x).length := by rw [List.length_erase_of_mem hx]; simp at h; omega
      rw [hasAll_perm a _ hl]
      have hp := List.perm_cons_erase hx
      constructor
      · intro h1; exact (h1.cons x).trans hp.symm
      · intro h1; exact (h1.trans hp).cons_inv
    · rename_i hx
      simp only [Bool.false_eq_true, false_iff]
      intro h1
      exact hx (h1.mem_iff.1 (List.mem_cons_self ..))

def rdnEq (fold : Bool) (a b : List Nm.Part) : Bool := a.length == b.length && (hasAll (b.map (key fold)) (a.map (key fold)) && hasAll (a.map (key fold)) (b.map (key fold)))
theorem rdnEq_iff (fold : Bool) (a b : List Nm.Part) : rdnEq fold a b = true ↔ (a.map (key fold)).Perm (b.map (key fold)) := by
  unfold rdnEq
  by_cases h : a.length = b.length
  · have e : (a.length == b.length) = true := by simpa using h
    rw [e, Bool.true_and, Bool.and_eq_true, hasAll_perm _ _ (by simp [h]), hasAll_perm _ _ (by simp [h])]
    exact ⟨fun h => h.2, fun h => ⟨h.symm, h⟩⟩
  · have e : (a.length == b.length) = false := by simpa using h
    rw [e, Bool.false_and]
    simp only [Bool.false_eq_true, false_iff]
    intro hp
    exact h (by simpa using hp.length_eq)

/-- The two names are the same, one relative name after the other. -/
def namesEq (fold : Bool) : Nm.Name → Nm.Name → Bool
  | [], [] => true
  | a :: n, b :: m => rdnEq fold a b && namesEq fold n m
  | _, _ => false
def above (fold : Bool) (n m : Nm.Name) : Bool := decide (n.length < m.length) && namesEq fold n (m.drop (m.length - n.length))

theorem namesEq_len {fold : Bool} : ∀ {n m : Nm.Name}, namesEq fold n m = true → n.length = m.length
  | [], [], _ => rfl
  | [], _ :: _, h => by simp [namesEq] at h
  | _ :: _, [], h => by simp [namesEq] at h
  | a :: n, b :: m, h => by
    rw [namesEq, Bool.and_eq_true] at h
    simp [namesEq_len h.2]
theorem rdnEq_refl (fold : Bool) (a : List Nm.Part) : rdnEq fold a a = true := (rdnEq_iff ..).2 (List.Perm.refl _)
theorem namesEq_refl (fold : Bool) : ∀ n, namesEq fold n n = true
  | [] => rfl
  | a :: n => by rw [namesEq, rdnEq_refl, namesEq_refl fold n]; rfl
/-- Where two names of one length differ. -/
theorem namesEq_ne {fold : Bool} : ∀ {n m : Nm.Name} {i : Nat} {a b : List Nm.Part}, n[i]? = some a → m[i]? = some b → rdnEq fold a b = false → namesEq fold n m = false
  | [], _, i, a, b, h, _, _ => by simp at h
  | _ :: _, [], _, _, _, _, _, _ => rfl
  | x :: n, y :: m, 0, a, b, h1, h2, h3 => by
    simp only [List.getElem?_cons_zero, Option.some.injEq] at h1 h2
    subst h1 h2
    rw [namesEq, h3, Bool.false_and]
  | x :: n, y :: m, i + 1, a, b, h1, h2, h3 => by
    rw [namesEq, namesEq_ne (by simpa using h1) (by simpa using h2) h3, Bool.and_false]
theorem namesEq_false {fold : Bool} {n m : Nm.Name} (h : n.length ≠ m.length) : namesEq fold n m = false := by
  cases hh : namesEq fold n m with
  | false => rfl
  | true => exact absurd (namesEq_len hh) h
/-- As far as i relative names were the same. -/
theorem namesEq_all {fold : Bool} : ∀ {n m : Nm.Name}, n.length = m.length → (∀ (i : Nat) (a b : List Nm.Part), n[i]? = some a → m[i]? = some b → rdnEq fold a b = true) → namesEq fold n m = true
  | [], [], _, _ => rfl
  | [], _ :: _, h, _ => by simp at h
  | _ :: _, [], h, _ => by simp at h
  | x :: n, y :: m, h, hh => by
    rw [namesEq, hh 0 x y rfl rfl, namesEq_all (by simpa using h) (fun i a b h1 h2 => hh (i + 1) a b (by simpa using h1) (by simpa using h2))]; rfl
theorem namesEq_symm {fold : Bool} : ∀ {n m : Nm.Name}, namesEq fold n m = true → namesEq fold m n = true
  | [], [], _ => rfl
  | [], _ :: _, h => by simp [namesEq] at h
  | _ :: _, [], h => by simp [namesEq] at h
  | a :: n, b :: m, h => by
    rw [namesEq, Bool.and_eq_true] at h ⊢
    exact ⟨(rdnEq_iff ..).2 ((rdnEq_iff ..).1 h.1).symm, namesEq_symm h.2⟩
theorem namesEq_trans {fold : Bool} : ∀ {n m o : Nm.Name}, namesEq fold n m = true → namesEq fold m o = true → namesEq fold n o = true
  | [], [], [], _, _ => rfl
  | [], _ :: _, _, h, _ => by simp [namesEq] at h
  | _ :: _, [], _, h, _ => by simp [namesEq] at h
  | _, [], _ :: _, _, h => by simp [namesEq] at h
  | _, _ :: _, [], _, h => by simp [namesEq] at h
  | a :: n, b :: m, c :: o, h, k => by
    rw [namesEq, Bool.and_eq_true] at h k ⊢
    exact ⟨(rdnEq_iff ..).2 (((rdnEq_iff ..).1 h.1).trans ((rdnEq_iff ..).1 k.1)), namesEq_trans h.2 k.2⟩
theorem rdnEq_fold {a b : List Nm.Part} (h : rdnEq false a b = true) : rdnEq true a b = true := by
  rw [rdnEq_iff] at *
  have e : ∀ l : List Nm.Part, l.map (key true) = (l.map (key false)).map (fun p => (p.1, low p.2)) := fun l => by
    rw [List.map_map]; rfl
  rw [e a, e b]
  exact h.map _
theorem namesEq_fold : ∀ {n m : Nm.Name}, namesEq false n m = true → namesEq true n m = true
  | [], [], _ => rfl
  | [], _ :: _, h => by simp [namesEq] at h
  | _ :: _, [], h => by simp [namesEq] at h
  | a :: n, b :: m, h => by
    rw [namesEq, Bool.and_eq_true] at h ⊢
    exact ⟨rdnEq_fold h.1, namesEq_fold h.2⟩
end Go.Proofs.YtjmahgefijncaaaGreatFmt.NC

/- Plain: how DN.String writes a name; the parser reads it as the name itself, its types in small letters, its attributes in order. -/
namespace Go.Proofs.YtjmahgefijncaaaGreatFmt.Kp
open Go

/-- A digit in small letters. -/
def hxl (n : Nat) : UInt8 := if n < 10 then UInt8.ofNat (48 + n) else UInt8.ofNat (87 + n)
/-- A byte of encodeString. -/
def encB (isV first last : Bool) (c : UInt8) : List UInt8 :=
  if first && (c == 32 || c == 35) then [92, c]
  else if last && c == 32 then [92, c]
  else if c == 34 || c == 43 || c == 44 || c == 59 || c == 60 || c == 62 || c == 92 then [92, c]
  else if !isV && c == 61 then [92, c]
  else if decide (c.toNat < 32) || decide (126 < c.toNat) then [92, hxl (c.toNat / 16), hxl (c.toNat % 16)]
  else [c]
def encGo (isV : Bool) : Bool → List UInt8 → List UInt8
  | _, [] => []
  | f, c :: r => encB isV f r.isEmpty c ++ encGo isV false r
/-- Runs of the parser through a type. -/
def RunT (A : List UInt8) : Prop := ∀ (VR : List UInt8 → List UInt8 → Prop) (VE : List UInt8 → Prop) (l seg : List UInt8) (rdn : List Nm.Part) (dn : Nm.Name) (r : Option Nm.Name), (Nm.parseR VR VE (A ++ l) seg false [] rdn dn r ↔ Nm.parseR VR VE l (seg ++ A) false [] rdn dn r)
theorem RunT.nil : RunT [] := fun _ _ l seg _ _ _ => by simp
theorem RunT.app {A B : List UInt8} (h : RunT A) (k : RunT B) : RunT (A ++ B) := fun VR VE l seg rdn dn r => by
  rw [List.append_assoc, h VR VE (B ++ l) seg rdn dn r, k VR VE l (seg ++ A) rdn dn r, List.append_assoc]
theorem RunT.plain {c : UInt8} (h1 : c ≠ 92) (h2 : c ≠ 44) (h3 : c ≠ 43) (h4 : c ≠ 59) (h5 : c ≠ 61) : RunT [c] := fun VR VE l seg rdn dn r => by
  show Nm.parseR VR VE (c :: l) seg false [] rdn dn r ↔ _
  conv => lhs; unfold Nm.parseR
  rw [if_neg (by simp), if_neg h1, if_neg (by rintro ⟨h, _⟩; exact h5 h), if_neg (by rintro (h | h | h); exact h2 h; exact h3 h; exact h4 h)]
theorem RunT.slash (c : UInt8) : RunT [92, c] := fun VR VE l seg rdn dn r => by
  show Nm.parseR VR VE (92 :: c :: l) seg false [] rdn dn r ↔ _
  conv => lhs; unfold Nm.parseR
  rw [if_neg (by simp), if_pos rfl]
  conv => lhs; unfold Nm.parseR
  rw [if_pos rfl, List.append_assoc]
  rfl

theorem hxl_digit : ∀ n, n < 16 → Nm.hexDigit (hxl n).toNat = some n := by decide +kernel
theorem split16 (c : UInt8) : UInt8.ofNat (c.toNat / 16 * 16 + c.toNat % 16) = c := by
  rw [show c.toNat / 16 * 16 + c.toNat % 16 = c.toNat by omega, UInt8.ofNat_toNat]
theorem eqn (c : UInt8) (n : Nat) (hn : n < 256) : c = UInt8.ofNat n ↔ c.toNat = n := by
  constructor
  · intro h; rw [h]; simp; omega
  · intro h; rw [← h, UInt8.ofNat_toNat]

/-- What a byte is written as: three ways. -/
theorem encB_cases (isV f l : Bool) (c : UInt8) :
    (encB isV f l c = [92, c] ∧ Nm.special c.toNat = true ∧ c.toNat < 128) ∨
    (encB isV f l c = [92, hxl (c.toNat / 16), hxl (c.toNat % 16)]) ∨
    (encB isV f l c = [c] ∧ c.toNat < 128 ∧ c ≠ 92 ∧ c ≠ 44 ∧ c ≠ 43 ∧ c ≠ 59 ∧ (isV = false → c ≠ 61) ∧ Nm.refused c.toNat = false ∧ (c = 32 → f = false ∧ l = false) ∧ (c = 35 → f = false)) := by
  have h : ∀ (isV f l : Bool) (n : Nat), n < 256 →
    (decide ((encB isV f l (UInt8.ofNat n) = [92, UInt8.ofNat n] ∧ Nm.special n = true ∧ n < 128) ∨
    (encB isV f l (UInt8.ofNat n) = [92, hxl (n / 16), hxl (n % 16)]) ∨
    (encB isV f l (UInt8.ofNat n) = [UInt8.ofNat n] ∧ n < 128 ∧ UInt8.ofNat n ≠ 92 ∧ UInt8.ofNat n ≠ 44 ∧ UInt8.ofNat n ≠ 43 ∧ UInt8.ofNat n ≠ 59 ∧ (isV = false → UInt8.ofNat n ≠ 61) ∧ Nm.refused n = false ∧ (UInt8.ofNat n = 32 → f = false ∧ l = false) ∧ (UInt8.ofNat n = 35 → f = false)))) = true := by
    intro isV f l
    cases isV <;> cases f <;> cases l <;> decide +kernel
  have := h isV f l c.toNat c.toNat_lt
  rw [decide_eq_true_eq, UInt8.ofNat_toNat] at this
  exact this

theorem encB_runT (f l : Bool) (c : UInt8) : RunT (encB false f l c) := by
  rcases encB_cases false f l c with ⟨h, _⟩ | h | ⟨h, _, h1, h2, h3, h4, h5, _⟩
  · rw [h]; exact RunT.slash c
  · rw [h]
    obtain ⟨q1, q2, q3, q4, q5, q6, q7⟩ := Sp.hex_low (hxl_digit (c.toNat % 16) (Nat.mod_lt _ (by decide)))
    have ne : ∀ {d : UInt8}, (hxl (c.toNat % 16)).toNat ≠ d.toNat → hxl (c.toNat % 16) ≠ d := fun h e => h (by rw [e])
    refine RunT.app (A := [92, hxl (c.toNat / 16)]) (RunT.slash _) (RunT.plain (ne (by simpa using q2)) (ne (by simpa using q4)) (ne (by simpa using q5)) (ne (by simpa using q6)) ?_)
    intro e
    rw [e] at q7
    exact absurd q7 (by decide)
  · rw [h]; exact RunT.plain h1 h2 h3 h4 (h5 rfl)
theorem encGo_runT : ∀ (f : Bool) (v : List UInt8), RunT (encGo false f v)
  | _, [] => RunT.nil
  | f, c :: r => (encB_runT f r.isEmpty c).app (encGo_runT false r)

/-- What is written is read. -/
theorem encGo_acc (isV : Bool) : ∀ (v : List UInt8) (f : Bool) (rs0 : List Nat) (A out : List UInt8) (b : Bool), Sp.Acc rs0 A out b → ∃ rs b', Sp.Acc (rs0 ++ rs) (A ++ encGo isV f v) (out ++ v) b' ∧ (b' = false ∨ (v = [] ∧ b' = b))
  | [], f, rs0, A, out, b, h => ⟨[], b, by simpa [encGo] using h, Or.inr ⟨rfl, rfl⟩⟩
  | c :: r, f, rs0, A, out, b, h => by
    have step : ∃ rs1 b1, Sp.Acc (rs0 ++ rs1) (A ++ encB isV f r.isEmpty c) (out ++ [c]) b1 ∧ (r = [] → b1 = false) := by
      rcases encB_cases isV f r.isEmpty c with ⟨e, h1, h2⟩ | e | ⟨e, h0, h1, h2, h3, h4, _, h6, h7, _⟩
      · rw [e]; exact ⟨_, _, h.spec h2 h1, fun _ => rfl⟩
      · rw [e]
        have := h.hex (hxl_digit (c.toNat / 16) (by have := c.toNat_lt; omega)) (hxl_digit (c.toNat % 16) (Nat.mod_lt _ (by decide)))
        rw [split16] at this
        exact ⟨_, _, this, fun _ => rfl⟩
      · rw [e]
        refine ⟨_, _, h.plain h0 h1 h2 h3 h4 h6, fun hr => ?_⟩
        rw [beq_eq_false_iff_ne]
        intro h32
        obtain ⟨_, h9⟩ := h7 h32
        rw [hr] at h9
        cases h9
    obtain ⟨rs1, b1, hA, hb1⟩ := step
    obtain ⟨rs2, b2, hB, hb2⟩ := encGo_acc isV r false _ _ _ _ hA
    refine ⟨rs1 ++ rs2, b2, ?_, ?_⟩
    · have e1 : A ++ encGo isV f (c :: r) = (A ++ encB isV f r.isEmpty c) ++ encGo isV false r := by rw [encGo, List.append_assoc]
      have e2 : out ++ c :: r = (out ++ [c]) ++ r := by simp
      rw [e1, e2, ← List.append_assoc]
      exact hB
    · rcases hb2 with h2 | ⟨h2, h3⟩
      · exact Or.inl h2
      · left; rw [h3]; exact hb1 h2
theorem encGo_head (isV : Bool) (v : List UInt8) : (encGo isV true v)[0]? ≠ some 32 ∧ (encGo isV true v)[0]? ≠ some 35 := by
  cases v with
  | nil => simp [encGo]
  | cons c r =>
    rw [encGo]
    rcases encB_cases isV true r.isEmpty c with ⟨e, _⟩ | e | ⟨e, _, _, _, _, _, _, _, h7, h8⟩
    · rw [e]; simp
    · rw [e]; simp
    · rw [e]
      refine ⟨?_, ?_⟩
      · simp only [List.cons_append, List.getElem?_cons_zero, Option.some.injEq, ne_eq]
        intro h; exact absurd (h7 h).1 (by simp)
      · simp only [List.cons_append, List.getElem?_cons_zero, Option.some.injEq, ne_eq]
        intro h; exact absurd (h8 h) (by simp)
theorem encGo_decode (isV : Bool) (v : List UInt8) : Nm.decode (encGo isV true v) = some v := by
  obtain ⟨rs, b, hA, hb⟩ := encGo_acc isV v true [] [] [] false Sp.Acc.nil
  have hbf : b = false := by rcases hb with h | ⟨_, h⟩ <;> exact h
  subst hbf
  exact Sp.decode_acc hA (encGo_head isV v).1
theorem encGo_run (v : List UInt8) : Sp.Run (encGo true true v) := by
  obtain ⟨rs, b, hA, _⟩ := encGo_acc true v true [] [] [] false Sp.Acc.nil
  exact hA.sep

def partText (p : Nm.Part) : List UInt8 := encGo false true (low p.1) ++ 61 :: encGo true true p.2
def nrm (p : Nm.Part) : Nm.Part := (low p.1, p.2)
theorem low_low (t : List UInt8) : low (low t) = low t := by
  have h : ∀ n : Nat, n < 256 → lowB (lowB (UInt8.ofNat n)) = lowB (UInt8.ofNat n) := by decide +kernel
  unfold low
  rw [List.map_map]
  refine List.map_congr_left fun c _ => ?_
  have := h c.toNat c.toNat_lt
  rw [UInt8.ofNat_toNat] at this
  exact this
theorem partText_nrm (p : Nm.Part) : partText (nrm p) = partText p := by unfold partText nrm; rw [low_low]
theorem low_ne {t : List UInt8} (h : t ≠ []) : low t ≠ [] := by unfold low; simpa using h

/-- The parser behind an attribute that was written. -/
theorem part_reads {p : Nm.Part} (hp : p.1 ≠ []) {rest : List UInt8} (hr : rest = [] ∨ ∃ s, rest = 44 :: s ∨ rest = 43 :: s) {rdn : List Nm.Part} {dn : Nm.Name} {r : Option Nm.Name} (h : Nm.parseR AnyR AnyE (partText p ++ rest) [] false [] rdn dn r) : Sp.Next AnyR AnyE rest (rdn ++ [nrm p]) dn r := by
  unfold partText at h
  rw [List.append_assoc, encGo_runT true (low p.1) AnyR AnyE _ [] rdn dn r, List.nil_append, List.cons_append] at h
  unfold Nm.parseR at h
  rw [if_neg (by simp), if_neg (by decide), if_pos ⟨rfl, rfl⟩, encGo_decode] at h
  rcases h with ⟨h, _⟩ | ⟨t, ht, h⟩
  · cases h
  · have ht := Option.some.inj ht
    subst ht
    rw [encGo_run p.2 AnyR AnyE rest [] (low p.1) rdn dn r (low_ne hp), List.nil_append] at h
    have hd := encGo_decode true p.2
    have h35 := (encGo_head true p.2).2
    refine Sp.stop_reads (low_ne hp) hr (fun u hu => ?_) (fun hE => ?_) h
    · unfold AnyR at hu
      rw [if_neg h35, hd] at hu
      exact (Option.some.inj hu).symm
    · unfold AnyE at hE
      rw [if_neg h35, hd] at hE
      cases hE

/-- Texts with a byte between them. -/
def join (s : UInt8) : List (List UInt8) → List UInt8
  | [] => []
  | [x] => x
  | x :: y :: l => x ++ s :: join s (y :: l)

theorem parts_reads : ∀ (ps : List Nm.Part) (rest : List UInt8) (rdn : List Nm.Part) (dn : Nm.Name) (r : Option Nm.Name), ps ≠ [] → (∀ p ∈ ps, p.1 ≠ []) → (rest = [] ∨ ∃ s, rest = 44 :: s) →
    Nm.parseR AnyR AnyE (join 43 (ps.map partText) ++ rest) [] false [] rdn dn r → Sp.Next AnyR AnyE rest (rdn ++ ps.map nrm) dn r
  | [], _, _, _, _, h, _, _, _ => absurd rfl h
  | [p], rest, rdn, dn, r, _, hp, hr, h => part_reads (hp p (List.mem_cons_self ..)) (by rcases hr with h | ⟨s, h⟩; exact Or.inl h; exact Or.inr ⟨s, Or.inl h⟩) h
  | p :: q :: ps, rest, rdn, dn, r, _, hp, hr, h => by
    have e : join 43 ((p :: q :: ps).map partText) ++ rest = partText p ++ (43 :: (join 43 ((q :: ps).map partText) ++ rest)) := by
      simp [join]
    rw [e] at h
    have h2 := part_reads (hp p (List.mem_cons_self ..)) (Or.inr ⟨_, Or.inr rfl⟩) h
    unfold Sp.Next at h2
    simp only [if_true] at h2
    have := parts_reads (q :: ps) rest (rdn ++ [nrm p]) dn r (by simp) (fun x hx => hp x (List.mem_cons_of_mem _ hx)) hr h2
    rw [List.append_assoc] at this
    exact this

def Full (n : Nm.Name) : Prop := ∀ ps ∈ n, ps ≠ [] ∧ ∀ p ∈ ps, p.1 ≠ []
theorem name_reads : ∀ (n : Nm.Name) (dn : Nm.Name) (r : Option Nm.Name), n ≠ [] → Full n →
    Nm.parseR AnyR AnyE (join 44 (n.map fun ps => join 43 (ps.map partText))) [] false [] [] dn r → r = some (dn ++ n.map fun ps => ps.map nrm)
  | [], _, _, h, _, _ => absurd rfl h
  | [ps], dn, r, _, hf, h => by
    obtain ⟨h1, h2⟩ := hf ps (List.mem_cons_self ..)
    have := parts_reads ps [] [] dn r h1 h2 (Or.inl rfl) (by simpa [join] using h)
    simpa [Sp.Next] using this
  | ps :: qs :: n, dn, r, _, hf, h => by
    obtain ⟨h1, h2⟩ := hf ps (List.mem_cons_self ..)
    have e : join 44 ((ps :: qs :: n).map fun ps => join 43 (ps.map partText)) = join 43 (ps.map partText) ++ (44 :: join 44 ((qs :: n).map fun ps => join 43 (ps.map partText))) := by
      simp [join]
    rw [e] at h
    have h3 := parts_reads ps _ [] dn r h1 h2 (Or.inr ⟨_, rfl⟩) h
    unfold Sp.Next at h3
    simp only [List.nil_append] at h3
    rw [if_neg (by decide)] at h3
    have := name_reads (qs :: n) (dn ++ [ps.map nrm]) r (by simp) (fun x hx => hf x (List.mem_cons_of_mem _ hx)) h3
    rw [this]; simp

theorem mem_join_self (s : UInt8) : ∀ (l : List (List UInt8)) (x : List UInt8) (c : UInt8), x ∈ l → c ∈ x → c ∈ join s l
  | [x], y, c, hy, hc => by simp only [List.mem_singleton] at hy; subst hy; exact hc
  | x :: z :: l, y, c, hy, hc => by
    rw [join]
    rcases List.mem_cons.1 hy with rfl | hy
    · exact List.mem_append_left _ hc
    · exact List.mem_append_right _ (List.mem_cons_of_mem _ (mem_join_self s (z :: l) y c hy hc))
/-- The text of a name that is written attribute by attribute in order is read as it. -/
theorem name_law (n : Nm.Name) (hf : Full n) (r : Option Nm.Name) (h : Nm.parseDNR AnyR AnyE (join 44 (n.map fun ps => join 43 (ps.map partText))) r) : r = some (n.map fun ps => ps.map nrm) := by
  cases n with
  | nil =>
    unfold Nm.parseDNR at h
    rw [if_pos (by rfl)] at h
    exact h
  | cons ps n =>
    unfold Nm.parseDNR at h
    rw [if_neg ?_] at h
    · exact name_reads (ps :: n) [] r (by simp) hf h
    · intro hb
      unfold Nm.blank at hb
      rw [List.all_eq_true] at hb
      obtain ⟨h1, h2⟩ := hf ps (List.mem_cons_self ..)
      obtain ⟨p, hp⟩ := List.exists_mem_of_ne_nil _ h1
      have hm : (61 : UInt8) ∈ join 44 ((ps :: n).map fun ps => join 43 (ps.map partText)) := by
        refine mem_join_self 44 _ (join 43 (ps.map partText)) 61 (List.mem_map.2 ⟨ps, List.mem_cons_self .., rfl⟩) ?_
        refine mem_join_self 43 _ (partText p) 61 (List.mem_map.2 ⟨p, hp, rfl⟩) ?_
        unfold partText
        simp
      have := hb 61 hm
      exact absurd this (by decide)
end Go.Proofs.YtjmahgefijncaaaGreatFmt.Kp

/- strings.Builder's WriteString. -/
namespace Go.Proofs.YtjmahgefijncaaaGreatFmt
open Go Go.RowKit

theorem strCells_bs (s : List UInt8) : Lib.strCells (Nm.bs s) = Lib.byteCells s := by
  simp [Lib.strCells, Lib.byteCells, Nm.bs]

set_option maxRecDepth 100000 in
set_option maxHeartbeats 4000000 in
theorem str_bld (B b : Nat) (l : List Value) (s : List UInt8) (hs0 : s ≠ []) (hsl : s.length < 1000000000) (w : World) (h : Bld B b l w) (hlen : l.length < 1000000000) (hBw : B ≤ w.heap.size) :
    Calls Tryz.prog 73 #[.pointer (some ⟨b, 0, none⟩), .string (Nm.bs s)] w fun e w' => (∃ n, e = .returned (.tuple #[.int .i64 n, .nilIface])) ∧ Bld B b (l ++ Lib.byteCells s) w' ∧ Below B w w' := by
  obtain ⟨i0, hi, hz0, hz1, hz2⟩ := info_byte
  have hssz := bs_size s
  have hspos : 0 < s.length := by cases s with | nil => exact absurd rfl hs0 | cons _ _ => simp
  go_enter Tryz.func73, Tryz.ntmps73
  go_wp2_with fail
  refine (check_bld B b l _ h).mono ?_
  rintro e w1 ⟨rfl, h1, hb1⟩
  have hsz1 := hb1.size
  obtain ⟨hB, v, hbk, hown, hne⟩ := h1
  have hlt := blockLt hbk
  have c0 : w1.cell? ⟨b, 0, none⟩ = some (.pointer (some ⟨b, 0, none⟩)) := blockCell hbk 0
  have c1 : w1.cell? ⟨b, 1, none⟩ = some v := blockCell hbk 1
  have HK := Lib.hid hbk
  clear hbk
  go_wp2_with (at_builtin; refine Lib.wpList_append_own_string _ rfl _ _ 51 9 rfl B 5 i0 Tryz.underlying51 Tryz.underlying9 hi hz0 hz1 hz2 _ _ _ rfl hown (Nm.bs s) rfl ?c3 ?c4 ?c5 ?_)
  case c3 => unfold maxLen; omega
  case c4 => omega
  case c5 => omega
  intro v' w2 hown' hgrow _
  rw [strCells_bs] at hown'
  try rw [hssz] at hown'
  have hb2 : w2.heap[b]? = some (.cells #[.pointer (some ⟨b, 0, none⟩), v] 130 (0, 0)) :=
    (hgrow.block b hlt (fun e => hne e.symm)).trans HK.out
  have d0 : w2.cell? ⟨b, 0, none⟩ = some (.pointer (some ⟨b, 0, none⟩)) := blockCell hb2 0
  have d1 : w2.cell? ⟨b, 1, none⟩ = some v := blockCell hb2 1
  have f1 : w2.frozen? ⟨b, 1, none⟩ = false := blockFrozen hb2 1
  obtain ⟨g, cap, rfl⟩ : ∃ g cap, v' = .slice (some ⟨g, 0, none⟩) (l.length + s.length) cap := by
    rcases hown'.2 with ⟨_, h0⟩ | ⟨g, cap, cur, hv, _⟩
    · omega
    · exact ⟨g, cap, hv⟩
  have hbl : (Lib.byteCells s).length = s.length := by simp [Lib.byteCells]
  have hend : Bld B b (l ++ Lib.byteCells s) (w2.setCell ⟨b, 1, none⟩ (.slice (some ⟨g, 0, none⟩) (l.length + s.length) cap)) := Or.inr (Lib.BuilderAt.put hB hb2 (by rw [List.length_append, hbl]; exact hown') (by decide))
  have hbel : Below B w (w2.setCell ⟨b, 1, none⟩ (.slice (some ⟨g, 0, none⟩) (l.length + s.length) cap)) :=
    (hb1.grown hgrow (by omega) (fun k hk => (hown.lt k hk).1)).setCell (p := ⟨b, 1, none⟩) hB _
  have HE := Lib.hid (And.intro hend hbel)
  clear hend hbel hb2 hgrow hown' hown hb1
  go_wp2_with fail
  go_ret2
  exact ⟨⟨_, rfl⟩, HE.out⟩
end Go.Proofs.YtjmahgefijncaaaGreatFmt

/- strings.Builder's writes leave iterators alone. -/
namespace Go.Proofs.YtjmahgefijncaaaGreatFmt
open Go Go.RowKit

def IterKept (w w' : World) : Prop := ∀ (k : Nat) (s : ByteArray) (pos : Nat), w.heap[k]? = some (.stringIter s pos) → w'.heap[k]? = some (.stringIter s pos)
theorem IterKept.refl (w : World) : IterKept w w := fun _ _ _ h => h
theorem IterKept.trans {a b c : World} (h : IterKept a b) (k : IterKept b c) : IterKept a c := fun i s p e => k i s p (h i s p e)
theorem IterKept.alloc {a w : World} (h : IterKept a w) (o : Obj) : IterKept a (w.alloc o) := fun i s p e => (Below.heap_alloc _ _ _ (Array.getElem?_eq_some_iff.1 (h i s p e)).1).trans (h i s p e)
theorem IterKept.setCell {a w : World} (h : IterKept a w) {b o : Nat} {cs : Array Value} {t : TypeId} {f : Nat × Nat} (hb : w.heap[b]? = some (.cells cs t f)) (u : Value) : IterKept a (w.setCell ⟨b, o, none⟩ u) := fun i s p e => by
  have e2 := h i s p e
  rw [Below.heap_setCell _ _ _ _ (fun e3 => by
    have e4 : i = b := e3
    rw [e4, hb] at e2; cases e2)]
  exact e2
theorem IterKept.grown {a w w' : World} (h : IterKept a w) {B : Nat} {e : TypeId} {sz n : Nat} {v : Value} {xs : List Value} (ho : w.ownsRow B e sz v n xs) (hg : w.grownBy w' v.ownBlock) : IterKept a w' := fun i s p e1 => by
  have e2 := h i s p e1
  rw [hg.block i (Array.getElem?_eq_some_iff.1 e2).1 (fun e3 => by
    rcases ho.2 with ⟨hv, _⟩ | ⟨g, cap, cur, hv, _, hc, _⟩
    · rw [hv] at e3; cases e3
    · rw [hv] at e3
      have e4 : i = g := Option.some.inj e3
      rw [e4, hc] at e2; cases e2)]
  exact e2

set_option maxRecDepth 100000 in
set_option maxHeartbeats 2000000 in
theorem check_k (B b : Nat) (l : List Value) (w : World) (h : Bld B b l w) :
    Calls Tryz.prog 87 #[.pointer (some ⟨b, 0, none⟩)] w fun e w' => e = .returned (.tuple #[]) ∧ Lib.BuilderAt 130 5 B b (.pointer (some ⟨b, 0, none⟩)) l w' ∧ Below B w w' ∧ IterKept w w' := by
  obtain ⟨j, hj, hjs⟩ := info_bld
  rcases h with h | h
  · have h0 := h.cell0
    have hsh := h.shape
    have hfz := h.frozen0
    have hto := Lib.run_to_unsafe w ⟨b, 0, none⟩ Tryz.underlying128 Tryz.underlying172 hj (by rw [hjs]; decide) hsh (Nat.zero_lt_succ 1)
    have hfrom := Lib.run_from_unsafe w ⟨b, 0, none⟩ Tryz.underlying172 Tryz.underlying128 hj hsh bld_lies
    have hesc := escape_call (.pointer (some ⟨b, 0, none⟩)) w
    go_enter Tryz.func87, Tryz.ntmps87
    go_wp2_with fail
    go_end0
    exact ⟨rfl, h.used _, (Below.refl B w).setCell (p := ⟨b, 0, none⟩) h.1 _, by obtain ⟨_, v, hv, _⟩ := id h; exact (IterKept.refl w).setCell hv _⟩
  · have h0 := h.cell0
    have hne := Lib.run_neq_ptr_same w ⟨b, 0, none⟩ Tryz.underlying128 hj
    go_enter Tryz.func87, Tryz.ntmps87
    go_wp2_with fail
    go_end0
    exact ⟨rfl, h, Below.refl _ _, IterKept.refl _⟩

set_option maxRecDepth 100000 in
set_option maxHeartbeats 4000000 in
theorem rune_k (B b : Nat) (l : List Value) (r : Int) (hr0 : -2147483648 ≤ r) (hr1 : r ≤ 2147483647) (w : World) (h : Bld B b l w) (hlen : l.length < 1000000000) (hBw : B ≤ w.heap.size) :
    Calls Tryz.prog 74 #[.pointer (some ⟨b, 0, none⟩), .int .i32 r] w fun e w' => (∃ n, e = .returned (.tuple #[.int .i64 n, .nilIface])) ∧ Bld B b (l ++ Lib.runeCells r) w' ∧ Below B w w' ∧ IterKept w w' := by
  go_enter Tryz.func74, Tryz.ntmps74
  go_wp2_with fail
  refine (check_k B b l _ h).mono ?_
  rintro e w1 ⟨rfl, h1, hb1, hk1⟩
  have HK1 := Lib.hid hk1
  clear hk1
  have hsz1 := hb1.size
  obtain ⟨hB, v, hbk, hown, hne⟩ := h1
  have hlt := blockLt hbk
  have c0 : w1.cell? ⟨b, 0, none⟩ = some (.pointer (some ⟨b, 0, none⟩)) := blockCell hbk 0
  have c1 : w1.cell? ⟨b, 1, none⟩ = some v := blockCell hbk 1
  have HK := Lib.hid hbk
  clear hbk
  obtain ⟨o, cap, hv⟩ : ∃ o cap, v = .slice o l.length cap := by
    rcases hown.2 with ⟨hv, h0⟩ | ⟨g, cap, cur, hv, _⟩
    · exact ⟨none, 0, by rw [hv, h0]⟩
    · exact ⟨_, _, hv⟩
  have HO := Lib.hid hown
  have hr := Tryz.utf8_AppendRune_plain B v l.length l r hr0 hr1 w1 hown (by omega) (by omega)
  rw [hv] at hr c1
  have HR := Lib.hid hr
  have HB1 := Lib.hid hb1
  clear hr hown hb1
  go_wp2_with fail
  refine HR.out.mono ?_
  rintro e w2 ⟨v', rfl, hown', ob, hgrow⟩
  have hb2 : w2.heap[b]? = some (.cells #[.pointer (some ⟨b, 0, none⟩), v] 130 (0, 0)) :=
    (hgrow.block b (by simp; omega) (by rw [← hv]; exact fun e => hne e.symm)).trans ((Below.heap_alloc _ _ _ hlt).trans HK.out)
  have d0 : w2.cell? ⟨b, 0, none⟩ = some (.pointer (some ⟨b, 0, none⟩)) := blockCell hb2 0
  have d1 : w2.cell? ⟨b, 1, none⟩ = some v := blockCell hb2 1
  have f1 : w2.frozen? ⟨b, 1, none⟩ = false := blockFrozen hb2 1
  have hrl := Lib.runeCells_le r
  obtain ⟨g, cap', hv'⟩ : ∃ g cap, v' = .slice (some ⟨g, 0, none⟩) (l.length + (Lib.runeCells r).length) cap := by
    rcases hown'.2 with ⟨_, h0⟩ | ⟨g, cap, cur, hv, _⟩
    · omega
    · exact ⟨g, cap, hv⟩
  have hend : Bld B b (l ++ Lib.runeCells r) (w2.setCell ⟨b, 1, none⟩ v') := Or.inr (Lib.BuilderAt.put hB hb2 (by rw [List.length_append]; exact hown') (by decide))
  have hbel : Below B w (w2.setCell ⟨b, 1, none⟩ v') :=
    ((HB1.out.alloc (by omega) ob).grown hgrow (by simp; omega) (fun k hk => (HO.out.lt k (by rw [hv]; exact hk)).1)).setCell (p := ⟨b, 1, none⟩) hB _
  have hit : IterKept w (w2.setCell ⟨b, 1, none⟩ v') := ((HK1.out.alloc ob).grown (HO.out.alloc ob) (by rw [hv]; exact hgrow)).setCell hb2 _
  rw [hv'] at hend hbel hit
  subst hv'
  rw [hv] at d1
  have HE := Lib.hid (And.intro hend (And.intro hbel hit))
  clear hit hend hbel hb2 hgrow hown'
  go_wp2_with fail
  go_ret2
  exact ⟨⟨_, rfl⟩, HE.out⟩
set_option maxRecDepth 100000 in
set_option maxHeartbeats 4000000 in
theorem str_k (B b : Nat) (l : List Value) (s : List UInt8) (hs0 : s ≠ []) (hsl : s.length < 1000000000) (w : World) (h : Bld B b l w) (hlen : l.length < 1000000000) (hBw : B ≤ w.heap.size) :
    Calls Tryz.prog 73 #[.pointer (some ⟨b, 0, none⟩), .string (Nm.bs s)] w fun e w' => (∃ n, e = .returned (.tuple #[.int .i64 n, .nilIface])) ∧ Bld B b (l ++ Lib.byteCells s) w' ∧ Below B w w' ∧ IterKept w w' := by
  obtain ⟨i0, hi, hz0, hz1, hz2⟩ := info_byte
  have hssz := bs_size s
  have hspos : 0 < s.length := by cases s with | nil => exact absurd rfl hs0 | cons _ _ => simp
  go_enter Tryz.func73, Tryz.ntmps73
  go_wp2_with fail
  refine (check_k B b l _ h).mono ?_
  rintro e w1 ⟨rfl, h1, hb1, hk1⟩
  have HK1 := Lib.hid hk1
  clear hk1
  have hsz1 := hb1.size
  obtain ⟨hB, v, hbk, hown, hne⟩ := h1
  have hlt := blockLt hbk
  have c0 : w1.cell? ⟨b, 0, none⟩ = some (.pointer (some ⟨b, 0, none⟩)) := blockCell hbk 0
  have c1 : w1.cell? ⟨b, 1, none⟩ = some v := blockCell hbk 1
  have HK := Lib.hid hbk
  clear hbk
  go_wp2_with (at_builtin; refine Lib.wpList_append_own_string _ rfl _ _ 51 9 rfl B 5 i0 Tryz.underlying51 Tryz.underlying9 hi hz0 hz1 hz2 _ _ _ rfl hown (Nm.bs s) rfl ?c3 ?c4 ?c5 ?_)
  case c3 => unfold maxLen; omega
  case c4 => omega
  case c5 => omega
  intro v' w2 hown' hgrow _
  rw [strCells_bs] at hown'
  try rw [hssz] at hown'
  have hb2 : w2.heap[b]? = some (.cells #[.pointer (some ⟨b, 0, none⟩), v] 130 (0, 0)) :=
    (hgrow.block b hlt (fun e => hne e.symm)).trans HK.out
  have d0 : w2.cell? ⟨b, 0, none⟩ = some (.pointer (some ⟨b, 0, none⟩)) := blockCell hb2 0
  have d1 : w2.cell? ⟨b, 1, none⟩ = some v := blockCell hb2 1
  have f1 : w2.frozen? ⟨b, 1, none⟩ = false := blockFrozen hb2 1
  obtain ⟨g, cap, rfl⟩ : ∃ g cap, v' = .slice (some ⟨g, 0, none⟩) (l.length + s.length) cap := by
    rcases hown'.2 with ⟨_, h0⟩ | ⟨g, cap, cur, hv, _⟩
    · omega
    · exact ⟨g, cap, hv⟩
  have hbl : (Lib.byteCells s).length = s.length := by simp [Lib.byteCells]
  have hend : Bld B b (l ++ Lib.byteCells s) (w2.setCell ⟨b, 1, none⟩ (.slice (some ⟨g, 0, none⟩) (l.length + s.length) cap)) := Or.inr (Lib.BuilderAt.put hB hb2 (by rw [List.length_append, hbl]; exact hown') (by decide))
  have hbel : Below B w (w2.setCell ⟨b, 1, none⟩ (.slice (some ⟨g, 0, none⟩) (l.length + s.length) cap)) :=
    (hb1.grown hgrow (by omega) (fun k hk => (hown.lt k hk).1)).setCell (p := ⟨b, 1, none⟩) hB _
  have hit : IterKept w (w2.setCell ⟨b, 1, none⟩ (.slice (some ⟨g, 0, none⟩) (l.length + s.length) cap)) := (HK1.out.grown hown hgrow).setCell hb2 _
  have HE := Lib.hid (And.intro hend (And.intro hbel hit))
  clear hit hend hbel hb2 hgrow hown' hown hb1
  go_wp2_with fail
  go_ret2
  exact ⟨⟨_, rfl⟩, HE.out⟩
end Go.Proofs.YtjmahgefijncaaaGreatFmt

/- encodeString's parts: hex.EncodeToString of one byte, the closures. -/
namespace Go.Proofs.YtjmahgefijncaaaGreatFmt
open Go Go.RowKit

theorem hexTab_get : ∀ (n : Nat) (hn : n < 16), ((⟨#[48, 49, 50, 51, 52, 53, 54, 55, 56, 57, 97, 98, 99, 100, 101, 102]⟩ : ByteArray)[n]'hn).toNat = (Kp.hxl n).toNat := by decide +kernel

set_option maxRecDepth 100000 in
set_option maxHeartbeats 8000000 in
theorem hex_enc1 (c : UInt8) (g d : Nat) (x0 x1 : Value) (w : World) (hc : w.cell? ⟨g, 0, none⟩ = some (.int .u8 (c.toNat : Int))) (hd : w.heap[d]? = some (.cells #[x0, x1] 5 (0, 0))) (hne : g ≠ d) :
    Calls Tryz.prog 132 #[.slice (some ⟨d, 0, none⟩) 2 2, .slice (some ⟨g, 0, none⟩) 1 1] w fun e w' => e = .returned (.int .i64 2) ∧ w'.heap[d]? = some (.cells #[.int .u8 ((Kp.hxl (c.toNat / 16)).toNat : Int), .int .u8 ((Kp.hxl (c.toNat % 16)).toNat : Int)] 5 (0, 0)) ∧ Keep w.heap.size d w w' := by
  have hcl := UInt8.toNat_lt c
  obtain ⟨a, ha⟩ : ∃ a : Nat, a = c.toNat / 16 := ⟨_, rfl⟩
  obtain ⟨b, hb⟩ : ∃ b : Nat, b = c.toNat % 16 := ⟨_, rfl⟩
  have h1 : (c.toNat : Int) / 16 = (a : Int) := by omega
  have h2 : (c.toNat : Int) % 16 = (b : Int) := by omega
  have ha16 : a < 16 := by omega
  have hb16 : b < 16 := by omega
  rw [← ha, ← hb]
  have g1 := hexTab_get a ha16
  have g2 := hexTab_get b hb16
  have i1 : (0 : Int) ≤ (a : Int) := by omega
  have i2 : (a : Int) < 16 := by omega
  have i3 : (0 : Int) ≤ (b : Int) := by omega
  have i4 : (b : Int) < 16 := by omega
  clear ha hb
  have HD := Lib.hid hd
  go_enter Tryz.func132, Tryz.ntmps132
  go_wp2_with fail
  go_loopw [10, 5] (fun t10 t5 wr => (t10 = .int .i64 0 ∧ t5 = .int .i64 0 ∧ wr = w) ∨ (t10 = .int .i64 1 ∧ t5 = .int .i64 2 ∧ wr = (w.setCell ⟨d, 0, none⟩ (.int .u8 ((Kp.hxl a).toNat : Int))).setCell ⟨d, 1, none⟩ (.int .u8 ((Kp.hxl b).toNat : Int)))) (fun t10 _ _ => 1 - (intOf t10).toNat)
  case atStart => exact Or.inl ⟨rfl, rfl, rfl⟩
  case round =>
    rcases hrel with ⟨rfl, rfl, rfl⟩ | ⟨rfl, rfl, rfl⟩
    · have d0 : wr.cell? ⟨d, 0, none⟩ = some x0 := blockCell HD.out 0
      have d1 : wr.cell? ⟨d, 1, none⟩ = some x1 := blockCell HD.out 1
      have f0 : wr.frozen? ⟨d, 0, none⟩ = false := blockFrozen HD.out 0
      have f1 : wr.frozen? ⟨d, 1, none⟩ = false := blockFrozen HD.out 1
      go_wp2_with fail
      exact ⟨Or.inr ⟨rfl, rfl, by first | trivial | rfl⟩, by simp [intOf]⟩
    · have hfin := blockSet (blockSet HD.out 0 (.int .u8 ((Kp.hxl a).toNat : Int))) 1 (.int .u8 ((Kp.hxl b).toNat : Int))
      have HF := Lib.hid (And.intro (by simpa using hfin) (((Keep.refl w.heap.size d w).setCell (p := ⟨d, 0, none⟩) (Or.inr rfl) (.int .u8 ((Kp.hxl a).toNat : Int))).setCell (p := ⟨d, 1, none⟩) (Or.inr rfl) (.int .u8 ((Kp.hxl b).toNat : Int))))
      clear hfin
      go_wp2_with fail
      go_ret
      exact ⟨rfl, HF.out.1, HF.out.2⟩

theorem encLen1 (w : World) : Calls Tryz.prog 131 #[.int .i64 1] w fun e w' => e = .returned (.int .i64 2) ∧ w' = w := by
  go_enter Tryz.func131, Tryz.ntmps131
  go_wp2_with fail
  go_ret
  exact ⟨rfl, rfl⟩

set_option maxRecDepth 100000 in
set_option maxHeartbeats 8000000 in
theorem hex_str1 (c : UInt8) (g : Nat) (w : World) (hc : w.cell? ⟨g, 0, none⟩ = some (.int .u8 (c.toNat : Int))) :
    Calls Tryz.prog 113 #[.slice (some ⟨g, 0, none⟩) 1 1] w fun e w' => e = .returned (.string (Nm.bs [Kp.hxl (c.toNat / 16), Kp.hxl (c.toNat % 16)])) ∧ Below w.heap.size w w' := by
  obtain ⟨i0, hi, hz0, hz1, hz2⟩ := info_byte
  have hgl := World.block_lt_of_cell? w ⟨g, 0, none⟩ hc
  have hgl : g < w.heap.size := hgl
  have hmade : madeCells #[Value.int .u8 0] 2 = #[.int .u8 0, .int .u8 0] := by first | kernel_rfl | simp [madeCells]
  have HE := Lib.hid (encLen1 w)
  have hnew : (w.alloc (.cells #[.int .u8 0, .int .u8 0] 5 (0, 0))).heap[w.heap.size]? = some (.cells #[.int .u8 0, .int .u8 0] 5 (0, 0)) := heap_alloc_new w _
  have HX := Lib.hid (hex_enc1 c g w.heap.size _ _ (w.alloc (.cells #[.int .u8 0, .int .u8 0] 5 (0, 0))) (cell_alloc hc _) hnew (by omega))
  clear hnew
  go_enter Tryz.func113, Tryz.ntmps113
  go_wp2_with fail
  refine HE.out.mono ?_
  rintro e w1 ⟨rfl, rfl⟩
  go_wp2_with (refine wpList_make_row _ rfl _ _ 51 rfl 5 i0 (.int .u8 0) Tryz.underlying51 hi hz0 hz1 rfl .i64 .i64 2 rfl rfl ?b1 ?b2 ?_)
  case b1 => rw [hz2]; omega
  case b2 => omega
  refine HX.out.mono ?_
  rintro e w2 ⟨rfl, h2, hk⟩
  have hcv : (convert 51 9 (.slice (some ⟨w1.heap.size, 0, none⟩) 2 2)).run Tryz.prog w2 = .ok (.string (Nm.bs [Kp.hxl (c.toNat / 16), Kp.hxl (c.toNat % 16)])) w2 := run_convert_bytes_back w2 51 9 5 ⟨w1.heap.size, 0, none⟩ 2 [Kp.hxl (c.toNat / 16), Kp.hxl (c.toNat % 16)] Tryz.underlying51 Tryz.underlying5 Tryz.underlying9 (by
      intro j hj
      match j, hj with
      | 0, _ => exact blockCell h2 0
      | 1, _ => exact blockCell h2 1)
  have hb : Below w1.heap.size w1 w2 := ((Below.refl w1.heap.size w1).alloc (Nat.le_refl _) _).trans ((hk.mono (by simp)).toBelow (Nat.le_refl _))
  have HB := Lib.hid hb
  clear hb hk h2 HX HE
  go_wp2_with fail
  go_ret
  exact ⟨rfl, HB.out⟩

set_option maxRecDepth 100000 in
set_option maxHeartbeats 8000000 in
/-- A backslash and the byte. -/
theorem esc_char (B b : Nat) (l : List UInt8) (c : UInt8) (w : World) (h : Bld B b (Lib.byteCells l) w) (hlen : l.length < 100000000) (hBw : B ≤ w.heap.size) :
    Calls Tryz.prog 111 #[.int .u8 (c.toNat : Int), .pointer (some ⟨b, 0, none⟩)] w fun e w' => (∃ v, e = .returned v) ∧ Bld B b (Lib.byteCells (l ++ [92, c])) w' ∧ Below B w w' := by
  have hl : (Lib.byteCells l).length = l.length := by simp [Lib.byteCells]
  have HW := Lib.hid (byte_bld B b (Lib.byteCells l) 92 w h (by omega) hBw)
  clear h
  go_enter Tryz.func111, Tryz.ntmps111
  go_wp2_with fail
  refine HW.out.mono ?_
  rintro e w1 ⟨rfl, h1, hb1⟩
  have HW2 := Lib.hid (byte_bld B b _ (c.toNat : Int) w1 h1 (by simp; omega) (Nat.le_trans hBw hb1.size))
  have HB := Lib.hid hb1
  clear h1 hb1 HW
  go_wp2_with fail
  refine HW2.out.mono ?_
  rintro e w2 ⟨rfl, h2, hb2⟩
  have HF := Lib.hid (And.intro h2 (HB.out.trans hb2))
  clear h2 hb2 HW2
  go_wp2_with fail
  go_end0
  refine ⟨⟨_, rfl⟩, ?_, HF.out.2⟩
  have := HF.out.1
  rw [show Lib.byteCells (l ++ [92, c]) = Lib.byteCells l ++ [.int .u8 92] ++ [.int .u8 (c.toNat : Int)] by simp [Lib.byteCells]]
  exact this

set_option maxRecDepth 100000 in
set_option maxHeartbeats 8000000 in
/-- A backslash and two digits. -/
theorem esc_hex (B b : Nat) (l : List UInt8) (c : UInt8) (w : World) (h : Bld B b (Lib.byteCells l) w) (hlen : l.length < 100000000) (hBw : B ≤ w.heap.size) :
    Calls Tryz.prog 112 #[.int .u8 (c.toNat : Int), .pointer (some ⟨b, 0, none⟩)] w fun e w' => (∃ v, e = .returned v) ∧ Bld B b (Lib.byteCells (l ++ [92, Kp.hxl (c.toNat / 16), Kp.hxl (c.toNat % 16)])) w' ∧ Below B w w' := by
  have hl : (Lib.byteCells l).length = l.length := by simp [Lib.byteCells]
  have HW := Lib.hid (byte_bld B b (Lib.byteCells l) 92 w h (by omega) hBw)
  have hcl := UInt8.toNat_lt c
  clear h
  go_enter Tryz.func112, Tryz.ntmps112
  go_wp2_with fail
  refine HW.out.mono ?_
  rintro e w1 ⟨rfl, h1, hb1⟩
  have hs1 := hb1.size
  have HX := Lib.hid (hex_str1 c w1.heap.size (w1.alloc (.cells #[.int .u8 (c.toNat : Int)] 5)) (blockCell (heap_alloc_new w1 _) 0))
  have h2 := h1.alloc (.cells #[.int .u8 (c.toNat : Int)] 5 (0, 0))
  have HB := Lib.hid (And.intro h2 (hb1.alloc (by omega) (.cells #[.int .u8 (c.toNat : Int)] 5 (0, 0))))
  clear h1 h2 hb1 HW
  go_wp2_with fail
  refine HX.out.mono ?_
  rintro e w2 ⟨rfl, hb2⟩
  have hs2 : B ≤ w2.heap.size := by have := HB.out.2.size; have := hb2.size; omega
  have hbl := HB.out.1.lt
  have h3 : Bld B b (Lib.byteCells l ++ [.int .u8 92]) w2 := by
    have := HB.out.1
    rcases (show Lib.IsBuilder 130 5 B b _ _ from this) with ⟨x1, v, x2, x3, x4⟩ | ⟨x1, v, x2, x3, x4⟩
    · exact Or.inl ⟨x1, v, (hb2.block b hbl).trans x2, owns_stays x3 (fun g hg => hb2.block g (owns_lt x3 g hg)), x4⟩
    · exact Or.inr ⟨x1, v, (hb2.block b hbl).trans x2, owns_stays x3 (fun g hg => hb2.block g (owns_lt x3 g hg)), x4⟩
  have HS := Lib.hid (str_bld B b _ [Kp.hxl (c.toNat / 16), Kp.hxl (c.toNat % 16)] (by simp) (by simp) w2 h3 (by simp; omega) hs2)
  have HB2 := Lib.hid (HB.out.2.trans (hb2.mono (by have := HB.out.2.size; omega)))
  clear h3 hb2 HX HB
  go_wp2_with fail
  refine HS.out.mono ?_
  rintro e w3 ⟨he, h4, hb4⟩
  have HF := Lib.hid (And.intro h4 (HB2.out.trans hb4))
  clear h4 hb4 HS
  obtain ⟨n, rfl⟩ := he
  go_wp2_with fail
  go_end0
  refine ⟨⟨_, rfl⟩, ?_, HF.out.2⟩
  have := HF.out.1
  rw [show Lib.byteCells (l ++ [92, Kp.hxl (c.toNat / 16), Kp.hxl (c.toNat % 16)]) = (Lib.byteCells l ++ [.int .u8 92]) ++ Lib.byteCells [Kp.hxl (c.toNat / 16), Kp.hxl (c.toNat % 16)] by simp [Lib.byteCells]]
  exact this
end Go.Proofs.YtjmahgefijncaaaGreatFmt

