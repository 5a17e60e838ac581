/- Plain: names in the order in which DN.String writes them. -/
import Derived.Test.YtjmahgefijncaaaGreatFmtM1
import Derived.Test.YtjmahgefijncaaaGreatFmtM4
import Derived.Test.YtjmahgefijncaaaGreatFmtJ37
import Derived.Test.YtjmahgefijncaaaGreatFmtJ2
import Derived.Test.YtjmahgefijncaaaGreatFmtJ3
import Derived.Test.YtjmahgefijncaaaGreatFmtJ9
import Derived.Test.YtjmahgefijncaaaGreatFmtM2
import Derived.Deep.RegionWith
import Derived.Test.YtjmahgefijncaaaGreatFmtJ4
import Derived.BigQuiet
import Derived.BigRegion
import Derived.Laws.OwnMore
import Derived.Test.YtjmahgefijncaaaGreatFmtM5
import Derived.Test.YtjmahgefijncaaaGreatFmtM3
set_option linter.unusedVariables false
set_option linter.unusedSimpArgs false
namespace Go.Proofs.YtjmahgefijncaaaGreatFmt.Kp
open Go

abbrev less := Go.Op.bytesLess
theorem less_antisymm : ∀ (a b : List UInt8), less a b = false → less b a = false → a = b
  | [], [], _, _ => rfl
  | [], b :: y, h, _ => by simp [less, Go.Op.bytesLess] at h
  | a :: x, [], _, h => by simp [less, Go.Op.bytesLess] at h
  | a :: x, b :: y, h, k => by
    simp only [less, Go.Op.bytesLess, Bool.or_eq_false_iff, decide_eq_false_iff_not, Bool.and_eq_false_iff, beq_eq_false_iff_ne] at h k
    obtain ⟨h1, h2⟩ := h
    obtain ⟨k1, k2⟩ := k
    have e : a = b := by
      have g1 : ¬ a.toNat < b.toNat := h1
      have g2 : ¬ b.toNat < a.toNat := k1
      exact UInt8.toNat_inj.1 (by omega)
    subst e
    have h2 := h2.resolve_left (fun h => h rfl)
    have k2 := k2.resolve_left (fun h => h rfl)
    rw [less_antisymm x y h2 k2]
theorem less_trans : ∀ (a b c : List UInt8), less b a = false → less c b = false → less c a = false
  | [], b, c, h, k => by
    cases b with
    | nil => exact k
    | cons b y =>
      cases c with
      | nil => simp [less, Go.Op.bytesLess]
      | cons c z => simp [less, Go.Op.bytesLess]
  | a :: x, [], c, h, k => by simp [less, Go.Op.bytesLess] at h
  | a :: x, b :: y, [], h, k => by simp [less, Go.Op.bytesLess] at k
  | a :: x, b :: y, c :: z, h, k => by
    simp only [less, Go.Op.bytesLess, Bool.or_eq_false_iff, decide_eq_false_iff_not, Bool.and_eq_false_iff, beq_eq_false_iff_ne] at h k ⊢
    obtain ⟨h1, h2⟩ := h
    obtain ⟨k1, k2⟩ := k
    have g1 : ¬ b.toNat < a.toNat := h1
    have g2 : ¬ c.toNat < b.toNat := k1
    refine ⟨fun h : c.toNat < a.toNat => by omega, ?_⟩
    by_cases e : c = a
    · right
      have e1 : b = a := UInt8.toNat_inj.1 (by rw [e] at g2; omega)
      have e2 : c = b := e.trans e1.symm
      exact less_trans x y z (h2.resolve_left (fun h => h e1)) (k2.resolve_left (fun h => h e2))
    · exact Or.inl e
theorem less_asymm : ∀ (a b : List UInt8), less a b = true → less b a = false
  | [], [], h => by simp [less, Go.Op.bytesLess] at h
  | [], b :: y, _ => by simp [less, Go.Op.bytesLess]
  | a :: x, [], h => by simp [less, Go.Op.bytesLess] at h
  | a :: x, b :: y, h => by
    simp only [less, Go.Op.bytesLess, Bool.or_eq_true, decide_eq_true_eq, Bool.and_eq_true, beq_iff_eq, Bool.or_eq_false_iff, decide_eq_false_iff_not, Bool.and_eq_false_iff, beq_eq_false_iff_ne] at h ⊢
    rcases h with h | ⟨h, h2⟩
    · have h : a.toNat < b.toNat := h
      exact ⟨fun k : b.toNat < a.toNat => by omega, Or.inl (fun e => by rw [e] at h; omega)⟩
    · subst h
      exact ⟨fun k : a.toNat < a.toNat => by omega, Or.inr (less_asymm x y h2)⟩
/-- In order. -/
def Srt (l : List (List UInt8)) : Prop := l.Pairwise fun a b => less b a = false
theorem srt_unique {l m : List (List UInt8)} (h1 : Srt l) (h2 : Srt m) (h : l.Perm m) : l = m :=
  List.Perm.eq_of_pairwise (le := fun a b => less b a = false) (fun a b _ _ h k => less_antisymm a b k h) h1 h2 h

theorem perm_back {α β : Type} (f : α → β) : ∀ {s t : List β}, s.Perm t → ∀ {ps : List α}, t = ps.map f → ∃ qs : List α, qs.Perm ps ∧ s = qs.map f := by
  intro s t h
  induction h with
  | nil =>
    intro ps e
    cases ps with
    | nil => exact ⟨[], List.Perm.refl _, rfl⟩
    | cons p ps => cases e
  | cons x h ih =>
    intro ps e
    cases ps with
    | nil => cases e
    | cons p ps =>
      simp only [List.map_cons, List.cons.injEq] at e
      obtain ⟨qs, h1, h2⟩ := ih e.2
      exact ⟨p :: qs, h1.cons _, by rw [List.map_cons, e.1, h2]⟩
  | swap x y l =>
    intro ps e
    match ps, e with
    | p :: q :: ps, e =>
      simp only [List.map_cons, List.cons.injEq] at e
      exact ⟨q :: p :: ps, List.Perm.swap .., by simp [e.1, e.2.1, e.2.2]⟩
  | trans h1 h2 ih1 ih2 =>
    intro ps e
    obtain ⟨qs, g1, g2⟩ := ih2 e
    obtain ⟨rs, k1, k2⟩ := ih1 g2
    exact ⟨rs, k1.trans g1, k2⟩

/-- The text of a relative name: its attributes' texts in order. -/
def RText (ps : List Nm.Part) (t : List UInt8) : Prop := ∃ s, s.Perm (ps.map partText) ∧ Srt s ∧ t = join 43 s
/-- The text of a name. -/
inductive TT : Nm.Name → List (List UInt8) → Prop where
  | nil : TT [] []
  | cons {ps : List Nm.Part} {t : List UInt8} {n : Nm.Name} {ts : List (List UInt8)} : RText ps t → TT n ts → TT (ps :: n) (t :: ts)
theorem TT.snoc {ps : List Nm.Part} {t : List UInt8} (h : RText ps t) : ∀ {n : Nm.Name} {ts : List (List UInt8)}, TT n ts → TT (n ++ [ps]) (ts ++ [t])
  | _, _, .nil => .cons h .nil
  | _, _, .cons a b => .cons a (TT.snoc h b)

theorem perm_sumN {a b : List Nat} (h : a.Perm b) : a.sum = b.sum := by
  induction h with
  | nil => rfl
  | cons x _ ih => simp [ih]
  | swap x y l => simp; omega
  | trans _ _ h1 h2 => exact h1.trans h2

theorem tt_order : ∀ {n : Nm.Name} {ts : List (List UInt8)}, TT n ts → Full n → ∃ m : Nm.Name, ts = m.map (fun ps => join 43 (ps.map partText)) ∧ Full m ∧ NC.namesEq false n (m.map fun ps => ps.map nrm) = true ∧ (∀ {ts2 : List (List UInt8)}, TT (m.map fun ps => ps.map nrm) ts2 → ts2 = ts) ∧ (∀ f : Nm.Part → Nat, (m.map fun ps => (ps.map f).sum).sum = (n.map fun ps => (ps.map f).sum).sum) ∧ ∀ ps ∈ m, ∀ p ∈ ps, ∃ qs ∈ n, p ∈ qs
  | [], _, .nil, _ => ⟨[], rfl, by simp [Full], rfl, fun h => by cases h; rfl, fun _ => rfl, by simp⟩
  | ps :: n, _, .cons (t := t) (ts := ts) ⟨s, h1, h2, h3⟩ k, hf => by
    obtain ⟨m, g1, g2, g3, g4, g5, g6⟩ := tt_order k (fun x hx => hf x (List.mem_cons_of_mem _ hx))
    obtain ⟨qs, q1, q2⟩ := perm_back partText h1 rfl
    obtain ⟨f1, f2⟩ := hf ps (List.mem_cons_self ..)
    refine ⟨qs :: m, by rw [List.map_cons, h3, q2, g1], ?_, ?_, ?_, fun f => ?_, ?_⟩
    · intro x hx
      rcases List.mem_cons.1 hx with rfl | hx
      · refine ⟨fun e => f1 ?_, fun p hp => f2 p (q1.subset hp)⟩
        rw [e] at q1
        exact q1.symm.eq_nil
      · exact g2 x hx
    · have hl := NC.namesEq_len g3
      refine NC.namesEq_all (by simp at hl ⊢; omega) (fun i a b ha hb => ?_)
      cases i with
      | zero =>
        simp only [List.getElem?_cons_zero, Option.some.injEq, List.map_cons] at ha hb
        subst ha; subst hb
        rw [NC.rdnEq_iff, List.map_map]
        have e : (NC.key false ∘ nrm) = NC.key false := by
          funext p
          show (low (low p.1), p.2) = (low p.1, p.2)
          rw [low_low]
        rw [e]
        exact (q1.map _).symm
      | succ i =>
        simp only [List.getElem?_cons_succ, List.map_cons] at ha hb
        cases hr : NC.rdnEq false a b with
        | true => rfl
        | false => rw [NC.namesEq_ne ha hb hr] at g3; cases g3
    · intro ts2 h
      rw [List.map_cons] at h
      cases h with
      | cons hr hk =>
        obtain ⟨s2, r1, r2, r3⟩ := hr
        have e : (qs.map nrm).map partText = qs.map partText := by
          rw [List.map_map]
          exact List.map_congr_left fun p _ => partText_nrm p
        rw [e, ← q2] at r1
        have := srt_unique r2 h2 r1
        rw [r3, this, ← h3, g4 hk]
    · rw [List.map_cons, List.map_cons, List.sum_cons, List.sum_cons, g5 f, perm_sumN (q1.map f)]
    · intro x hx p hp
      rcases List.mem_cons.1 hx with rfl | hx
      · exact ⟨ps, List.mem_cons_self .., q1.subset hp⟩
      · obtain ⟨y, hy, hpy⟩ := g6 x hx p hp
        exact ⟨y, List.mem_cons_of_mem _ hy, hpy⟩

/-- What is written of a name, read again: equal, and written as it is. -/
theorem kept (n : Nm.Name) (ts : List (List UInt8)) (h : TT n ts) (hf : Full n) : ∃ m : Nm.Name, (∀ r, Nm.parseDNR AnyR AnyE (join 44 ts) r → r = some m) ∧ NC.namesEq false n m = true ∧ (∀ ts2, TT m ts2 → ts2 = ts) ∧ Full m ∧
    (m.map fun ps => (ps.map fun p => p.1.length + p.2.length + 2).sum).sum = (n.map fun ps => (ps.map fun p => p.1.length + p.2.length + 2).sum).sum ∧ ∀ ps ∈ m, ∀ p ∈ ps, ∃ qs ∈ n, ∃ q ∈ qs, p = nrm q := by
  obtain ⟨m, h1, h2, h3, h4, h5, h6⟩ := tt_order h hf
  refine ⟨_, fun r hr => name_law m h2 r (by rw [← h1]; exact hr), h3, fun ts2 h => h4 h, ?_, ?_, ?_⟩
  · intro x hx
    obtain ⟨y, hy, rfl⟩ := List.mem_map.1 hx
    obtain ⟨f1, f2⟩ := h2 y hy
    refine ⟨by simpa using f1, fun p hp => ?_⟩
    obtain ⟨q, hq, rfl⟩ := List.mem_map.1 hp
    exact low_ne (f2 q hq)
  · rw [← h5 fun p => p.1.length + p.2.length + 2, List.map_map]
    congr 1
    refine List.map_congr_left fun ps _ => ?_
    show ((ps.map nrm).map _).sum = _
    rw [List.map_map]
    congr 1
    refine List.map_congr_left fun p _ => ?_
    show (low p.1).length + p.2.length + 2 = _
    simp [low]
  · intro x hx p hp
    obtain ⟨y, hy, rfl⟩ := List.mem_map.1 hx
    obtain ⟨q, hq, rfl⟩ := List.mem_map.1 hp
    obtain ⟨qs, g1, g2⟩ := h6 y hy q hq
    exact ⟨qs, g1, q, g2, rfl⟩
end Go.Proofs.YtjmahgefijncaaaGreatFmt.Kp

/- Plain: sorting by insertion, joining. -/
namespace Go.Proofs.YtjmahgefijncaaaGreatFmt.Kp
open Go

/-- Within the inner loop: x on its way down. -/
def Ins (ls : List (List UInt8)) (i j : Nat) (cur : List (List UInt8)) : Prop :=
  cur.Perm ls ∧ ∃ A x B C, cur = A ++ x :: (B ++ C) ∧ A.length = j ∧ A.length + B.length = i ∧ Srt (A ++ B) ∧ ∀ b ∈ B, less b x = false
def Out (ls : List (List UInt8)) (i : Nat) (cur : List (List UInt8)) : Prop := cur.Perm ls ∧ Srt (cur.take i)
theorem out_start (ls : List (List UInt8)) : Out ls 1 ls := ⟨List.Perm.refl _, by cases ls with
  | nil => exact List.Pairwise.nil
  | cons a l => simp only [List.take_succ_cons, List.take_zero]; exact List.pairwise_singleton _ _⟩
theorem out_end {ls cur : List (List UInt8)} {i : Nat} (h : Out ls i cur) (hi : ls.length ≤ i) : cur.Perm ls ∧ Srt cur := ⟨h.1, by
  have := h.2
  rwa [List.take_of_length_le (by rw [h.1.length_eq]; exact hi)] at this⟩
theorem ins_start {ls cur : List (List UInt8)} {i : Nat} (h : Out ls i cur) (hi : i < ls.length) : Ins ls i i cur := by
  have hl := h.1.length_eq
  have hi2 : i < cur.length := by omega
  refine ⟨h.1, cur.take i, cur[i], [], cur.drop (i + 1), ?_, by rw [List.length_take]; omega, by rw [List.length_take]; simp; omega, by rw [List.append_nil]; exact h.2, by simp⟩
  rw [List.nil_append, ← List.drop_eq_getElem_cons hi2, List.take_append_drop]
theorem srt_insert {A B : List (List UInt8)} {x : List UInt8} (h : Srt (A ++ B)) (hA : ∀ a ∈ A, less x a = false) (hB : ∀ b ∈ B, less b x = false) : Srt (A ++ x :: B) := by
  unfold Srt at *
  rw [List.pairwise_append] at h ⊢
  refine ⟨h.1, List.pairwise_cons.2 ⟨hB, h.2.1⟩, fun a ha b hb => ?_⟩
  rcases List.mem_cons.1 hb with rfl | hb
  · exact hA a ha
  · exact h.2.2 a ha b hb
theorem ins_end {ls cur : List (List UInt8)} {i j : Nat} (h : Ins ls i j cur) (hx : j = 0 ∨ ∃ k a x, j = k + 1 ∧ cur[k]? = some a ∧ cur[k + 1]? = some x ∧ less x a = false) : Out ls (i + 1) cur := by
  obtain ⟨hp, A, x, B, C, hc, hA, hB, hs, hxB⟩ := h
  refine ⟨hp, ?_⟩
  have htk : cur.take (i + 1) = A ++ x :: B := by
    rw [hc, show A ++ x :: (B ++ C) = (A ++ x :: B) ++ C by simp, List.take_left' (by simp; omega)]
  rw [htk]
  refine srt_insert hs (fun a ha => ?_) hxB
  rcases hx with h0 | ⟨k, a', x', hk, h1, h2, h3⟩
  · have : A = [] := List.length_eq_zero_iff.1 (by omega)
    rw [this] at ha; cases ha
  · have e1 : x' = x := by
      rw [hc, List.getElem?_append_right (by omega), show k + 1 - A.length = 0 by omega] at h2
      simpa using h2.symm
    subst e1
    have hkA : k < A.length := by omega
    have e2 : A[k] = a' := by
      rw [hc, List.getElem?_append_left hkA, List.getElem?_eq_getElem hkA] at h1
      exact Option.some.inj h1
    obtain ⟨m, hm, rfl⟩ := List.getElem_of_mem ha
    rcases Nat.lt_or_ge m k with hmk | hmk
    · have hpA := (List.pairwise_append.1 hs).1
      have := List.pairwise_iff_getElem.1 hpA m k hm hkA hmk
      rw [e2] at this
      exact less_trans _ _ _ this h3
    · have : m = k := by omega
      subst this
      rw [e2]; exact h3
theorem ins_at {ls cur : List (List UInt8)} {i j : Nat} (h : Ins ls i j cur) : i < cur.length ∧ j ≤ i := by
  obtain ⟨_, A, x, B, C, hc, hA, hB, _⟩ := h
  rw [hc]; simp; omega
theorem ins_step {ls cur : List (List UInt8)} {i k : Nat} {a x : List UInt8} (h : Ins ls i (k + 1) cur) (h1 : cur[k]? = some a) (h2 : cur[k + 1]? = some x) (hl : less x a = true) : Ins ls i k ((cur.set (k + 1) a).set k x) := by
  obtain ⟨hp, A, x', B, C, hc, hA, hB, hs, hxB⟩ := h
  have e1 : x' = x := by
    rw [hc, List.getElem?_append_right (by omega), show k + 1 - A.length = 0 by omega] at h2
    simpa using h2
  subst e1
  have hne : A ≠ [] := by intro e; rw [e] at hA; simp at hA
  obtain ⟨A', a', hAA⟩ : ∃ A' a', A = A' ++ [a'] := ⟨_, _, (List.dropLast_concat_getLast hne).symm⟩
  have hA'l : A'.length = k := by rw [hAA] at hA; simp at hA; omega
  have e2 : a' = a := by
    rw [hc, hAA, List.append_assoc, List.getElem?_append_right (by omega), show k - A'.length = 0 by omega] at h1
    simpa using h1
  subst e2
  have hset : (cur.set (k + 1) a').set k x' = A' ++ x' :: ((a' :: B) ++ C) := by
    rw [hc, hAA]
    rw [show (A' ++ [a']) ++ x' :: (B ++ C) = A' ++ (a' :: x' :: (B ++ C)) by simp]
    rw [List.set_append_right _ _ (by omega), show k + 1 - A'.length = 1 by omega, List.set_append_right _ _ (by omega), show k - A'.length = 0 by omega]
    rfl
  refine ⟨?_, A', x', a' :: B, C, hset, hA'l, by rw [hAA] at hB; simp at hB ⊢; omega, by rw [hAA] at hs; simpa using hs, ?_⟩
  · rw [hset]
    refine List.Perm.trans ?_ hp
    rw [hc, hAA]
    have : (A' ++ x' :: ((a' :: B) ++ C)).Perm (A' ++ (a' :: x' :: (B ++ C))) := List.Perm.append_left _ (List.Perm.swap ..)
    simpa using this
  · intro b hb
    rcases List.mem_cons.1 hb with rfl | hb
    · exact less_asymm _ _ hl
    · exact hxB b hb

theorem join_snoc (s : UInt8) : ∀ (l : List (List UInt8)) (x : List UInt8), join s (l ++ [x]) = if l = [] then x else join s l ++ s :: x
  | [], x => by simp [join]
  | [y], x => by simp [join]
  | y :: z :: l, x => by
    have := join_snoc s (z :: l) x
    rw [if_neg (by simp)] at this ⊢
    show y ++ s :: join s ((z :: l) ++ [x]) = _
    rw [this]; simp [join]
theorem join_take_le (s : UInt8) (l : List (List UInt8)) : ∀ i, (join s (l.take i)).length ≤ (join s l).length := by
  intro i
  have key : ∀ (m a : List (List UInt8)), (join s a).length ≤ (join s (a ++ m)).length := by
    intro m
    induction m with
    | nil => intro a; simp
    | cons x m ih =>
      intro a
      have h1 := ih (a ++ [x])
      rw [List.append_assoc] at h1
      refine Nat.le_trans ?_ h1
      rw [join_snoc]
      split
      · rename_i h; rw [h]; simp [join]
      · rw [List.length_append]; omega
  have := key (l.drop i) (l.take i)
  rwa [List.take_append_drop] at this
theorem join_len (s : UInt8) : ∀ l : List (List UInt8), (join s l).length ≤ (l.map fun x => x.length + 1).sum
  | [] => by simp [join]
  | [x] => by simp [join]
  | x :: y :: l => by
    have := join_len s (y :: l)
    simp only [join, List.length_append, List.length_cons, List.map_cons, List.sum_cons] at this ⊢
    omega
end Go.Proofs.YtjmahgefijncaaaGreatFmt.Kp

/- Plain: bounds of names that ParseDN reads of UTF-8, and of what is written of them. -/
namespace Go.Proofs.YtjmahgefijncaaaGreatFmt.Ber

theorem tagMore_pow : ∀ (f n j : Nat), n < 128 ^ j → (tagMore f n).length ≤ j
  | 0, _, _, _ => by simp [tagMore]
  | f + 1, n, 0, h => by
    have : n = 0 := by simpa using h
    simp [tagMore, this]
  | f + 1, n, j + 1, h => by
    simp only [tagMore]
    split
    · simp
    · have := tagMore_pow f (n / 128) j (by rw [Nat.pow_succ] at h; omega)
      simp; omega
theorem tagBytes_pow (t m : Nat) (h : t < 128 ^ (m + 1)) : (tagBytes t).length ≤ m + 1 := by
  unfold tagBytes
  split
  · simp
  · have := tagMore_pow 10 (t / 128) m (by rw [Nat.pow_succ] at h; omega)
    simp; omega
theorem high_pow : ∀ (s : List UInt8) (acc k t : Nat) (r : List UInt8), high s acc k = some (t, r) → ∃ m, r = s.drop (m + 1) ∧ m + 1 ≤ s.length ∧ t < (acc + 1) * 128 ^ (m + 1)
  | [], _, _, _, _, h => by simp [high] at h
  | b :: s, acc, k, t, r, h => by
    have hb : b.toNat % 128 < 128 := Nat.mod_lt _ (by decide)
    unfold high at h
    split at h
    · cases h
    · split at h
      · cases h
      · split at h
        · injection h with h
          injection h with h1 h2
          exact ⟨0, by rw [← h2]; rfl, by simp, by rw [← h1]; simp; omega⟩
        · obtain ⟨m, h1, h2, h3⟩ := high_pow s _ _ t r h
          refine ⟨m + 1, by rw [h1]; rfl, by simp; omega, ?_⟩
          have : (acc * 128 + b.toNat % 128 + 1) * 128 ^ (m + 1) ≤ ((acc + 1) * 128) * 128 ^ (m + 1) := Nat.mul_le_mul_right _ (by omega)
          rw [Nat.pow_succ 128 (m + 1), Nat.mul_comm (128 ^ (m + 1)) 128, ← Nat.mul_assoc]
          omega
theorem ident_size {s s1 : List UInt8} {c t : Nat} {b : Bool} (h : ident s = some (c, b, t, s1)) : ∃ k, s1 = s.drop k ∧ 1 ≤ k ∧ k ≤ s.length ∧ (identBytes c b t).length ≤ k ∧ 1 ≤ (identBytes c b t).length := by
  have h1 : 1 ≤ (identBytes c b t).length := by unfold identBytes; split <;> simp
  cases s with
  | nil => simp [ident] at h
  | cons x s =>
    simp only [ident] at h
    split at h
    · simp only [Option.map_eq_some_iff] at h
      obtain ⟨⟨t', r'⟩, hh, he⟩ := h
      simp only [Prod.mk.injEq] at he
      obtain ⟨_, _, rfl, rfl⟩ := he
      obtain ⟨m, e1, e2, e3⟩ := high_pow s 0 0 _ _ hh
      refine ⟨m + 2, by rw [e1]; rfl, by omega, by simp; omega, ?_, h1⟩
      unfold identBytes
      split
      · simp
      · have := tagBytes_pow t' m (by simpa using e3)
        simp; omega
    · injection h with h
      simp only [Prod.mk.injEq] at h
      obtain ⟨_, _, rfl, rfl⟩ := h
      refine ⟨1, rfl, Nat.le_refl _, by simp, ?_, h1⟩
      unfold identBytes
      rw [if_pos (by have : x.toNat % 32 < 32 := Nat.mod_lt _ (by decide); omega)]
      simp
theorem header_size {s r : List UInt8} {c t : Nat} {b : Bool} {len : Option Nat} (h : header s = some (c, b, t, len, r)) : ∃ m, r = s.drop m ∧ 2 ≤ m ∧ m ≤ s.length ∧ (identBytes c b t).length + 1 ≤ m ∧ 1 ≤ (identBytes c b t).length := by
  simp only [header] at h
  split at h
  · cases h
  · rename_i c' b' t' s1 h1
    split at h
    · cases h
    · rename_i len' s2 h2
      split at h
      · cases h
      · injection h with h
        simp only [Prod.mk.injEq] at h
        obtain ⟨rfl, rfl, rfl, rfl, rfl⟩ := h
        obtain ⟨k, k1, k2, k3, k4, k5⟩ := ident_size h1
        obtain ⟨_, m2, j2, j3, j4⟩ := lenOf_bound h2
        rw [k1, List.length_drop] at j4
        exact ⟨k + m2, by rw [j3, k1, List.drop_drop], by omega, by omega, by omega, k5⟩
theorem lenBytes_small (n : Nat) (h : n < 65536) : (lenBytes n).length ≤ 3 := by
  unfold lenBytes
  split
  · simp
  · have : (digits 8 n).length ≤ 2 := by
      simp only [digits]
      split
      · simp
      · have h2 : n / 256 < 256 := by omega
        rw [if_pos h2]; simp
    simp; omega

structure Fits2 (s : List UInt8) (p : Pk) (rest : List UInt8) : Prop where
  drop : ∃ m, rest = s.drop m ∧ 2 ≤ m ∧ m ≤ s.length
  size : (enc p).length + 2 * rest.length ≤ 2 * s.length
theorem enc_small (p : Pk) (h : (body p).length < 65536) : ∀ c b t data items, p = .mk c b t data items → (enc p).length ≤ (identBytes c b t).length + 3 + (body p).length := by
  intro c b t data items e
  subst e
  have := lenBytes_small _ h
  simp only [enc, List.length_append]
  omega
mutual
theorem readR_fits2 : ∀ (f d : Nat) (s : List UInt8) (p : Pk) (rest : List UInt8), s.length ≤ 30000 → readR f d s (.ok p rest) → Fits2 s p rest
  | 0, d, s, p, rest, _, h => by simp [readR] at h
  | f + 1, d, s, p, rest, hs, h => by
    simp only [readR] at h
    split at h
    · cases h
    · split at h
      · cases h
      · cases h
      · rename_i c t s1 hh
        obtain ⟨m, h1, h2, h3, h4, h5⟩ := header_size hh
        exact kidsR_fits2 f d c t none 0 [] s1 p rest s hs ⟨m, h1, h2, h3⟩ (by simp [bodies]; rw [h1, List.length_drop]; omega) h
      · rename_i c b t n s1 hh
        obtain ⟨m, h1, h2, h3, h4, h5⟩ := header_size hh
        split at h
        · cases h
        · split at h
          · rename_i hb
            subst hb
            exact kidsR_fits2 f d c t (some n) 0 [] s1 p rest s hs ⟨m, h1, h2, h3⟩ (by simp [bodies]; rw [h1, List.length_drop]; omega) h
          · rename_i hb
            have hb : b = false := by simpa using hb
            subst hb
            unfold primR at h
            split at h
            · cases h
            · rename_i hn
              rcases h with h | ⟨-, h⟩
              · injection h with e1 e2
                subst e1 e2
                have hbd : body (.mk c false t (s1.take n) []) = s1.take n := rfl
                have hl1 : s1.length ≤ s.length := by rw [h1, List.length_drop]; omega
                have he := enc_small (.mk c false t (s1.take n) []) (by rw [hbd, List.length_take]; omega) c false t _ _ rfl
                rw [hbd, List.length_take] at he
                have hl : s1.length = s.length - m := by rw [h1, List.length_drop]
                refine ⟨⟨m + n, by rw [h1, List.drop_drop], by omega, by omega⟩, ?_⟩
                rw [List.length_drop]
                omega
              · cases h
theorem kidsR_fits2 : ∀ (f d c t : Nat) (len : Option Nat) (got : Nat) (items : List Pk) (s : List UInt8) (p : Pk) (rest s0 : List UInt8), s0.length ≤ 30000 → (∃ m, s = s0.drop m ∧ 2 ≤ m ∧ m ≤ s0.length) → (identBytes c true t).length + 3 + (bodies items).length + 2 * s.length ≤ 2 * s0.length →
    kidsR f d c t len got items s (.ok p rest) → Fits2 s0 p rest
  | 0, d, c, t, len, got, items, s, p, rest, s0, _, h0, hs, h => by simp [kidsR] at h
  | f + 1, d, c, t, len, got, items, s, p, rest, s0, h30, h0, hs, h => by
    have key : ∀ r : List UInt8, (∃ m, r = s0.drop m ∧ 2 ≤ m ∧ m ≤ s0.length) → r.length ≤ s.length → Fits2 s0 (.mk c true t [] items) r := by
      intro r hr hl
      have hb : body (.mk c true t [] items) = bodies items := rfl
      have he := enc_small (.mk c true t [] items) (by rw [hb]; omega) c true t _ _ rfl
      rw [hb] at he
      exact ⟨hr, by omega⟩
    simp only [kidsR] at h
    split at h
    · injection h with h1 h2
      subst h1 h2
      exact key _ h0 (Nat.le_refl _)
    · split at h
      · cases h
      · rcases h with ⟨-, h⟩ | ⟨q, r, hq, h⟩
        · cases h
        · have hsl : s.length ≤ s0.length := by obtain ⟨m, hm, _, _⟩ := h0; rw [hm, List.length_drop]; omega
          have hf := readR_fits2 f (d + 1) s q r (by omega) hq
          obtain ⟨m, hm1, hm2, hm3⟩ := h0
          obtain ⟨j, hj1, hj2, hj3⟩ := hf.drop
          have hr : ∃ m, r = s0.drop m ∧ 2 ≤ m ∧ m ≤ s0.length := ⟨m + j, by rw [hj1, hm1, List.drop_drop], by omega, by rw [hm1, List.length_drop] at hj3; omega⟩
          have hrl : r.length ≤ s.length := by rw [hj1, List.length_drop]; omega
          split at h
          · split at h
            · injection h with h1 h2
              subst h1 h2
              exact key _ hr hrl
            · cases h
          · refine kidsR_fits2 f d c t len _ _ r p rest s0 h30 hr ?_ h
            have := hf.size
            rw [bodies_append, List.length_append]
            omega
end
theorem body_le (p : Pk) : (body p).length ≤ (enc p).length := by
  cases p
  simp only [enc, List.length_append]
  omega
end Go.Proofs.YtjmahgefijncaaaGreatFmt.Ber

/- foldString of UTF-8. -/
namespace Go.Proofs.YtjmahgefijncaaaGreatFmt
open Go Go.RowKit

def foldR (r : Nat) : Nat := if 65 ≤ r ∧ r ≤ 90 then r + 32 else r
theorem fold_low : ∀ rs : List Nat, (∀ r ∈ rs, OkRune r) → encs (rs.map foldR) = low (encs rs)
  | [], _ => rfl
  | r :: rs, h => by
    have ih := fold_low rs (fun x hx => h x (List.mem_cons_of_mem _ hx))
    have hr := h r (List.mem_cons_self ..)
    have e : Lib.encodeRune ((foldR r : Nat) : Int) = low (Lib.encodeRune (r : Int)) := by
      by_cases h8 : r < 128
      · obtain ⟨he, hn⟩ := Sp.enc_low h8
        have h9 : foldR r < 128 := by unfold foldR; split <;> omega
        obtain ⟨he2, _⟩ := Sp.enc_low h9
        rw [he, he2]
        have key : ∀ n, n < 128 → [(foldR n).toUInt8] = low [n.toUInt8] := by decide +kernel
        exact key r h8
      · have h9 : foldR r = r := by unfold foldR; rw [if_neg (by omega)]
        rw [h9]
        have hall := Sp.enc_high hr (by omega)
        unfold low
        refine ((List.map_congr_left (g := id) (fun c hc => ?_)).trans (List.map_id _)).symm
        show lowB c = c
        have := hall c hc
        unfold lowB
        rw [if_neg]
        rintro ⟨_, h2⟩
        have h2 : c.toNat ≤ 90 := h2
        omega
    rw [List.map_cons, Sp.encs_cons, Sp.encs_cons, e, ih]
    unfold low
    rw [List.map_append]

theorem fold_rune (r : Nat) (w : World) : Calls Tryz.prog 114 #[.int .i32 (r : Int)] w fun e w' => e = .returned (.int .i32 (r : Int)) ∧ w' = w := by
  go_enter Tryz.func114, Tryz.ntmps114
  go_wp2_with fail
  go_ret
  exact ⟨rfl, rfl⟩

theorem Bld.iterK {B b : Nat} {l : List Value} {w : World} (h : Bld B b l w) {it : Nat} {s : ByteArray} {pos pos' : Nat} (hk : w.heap[it]? = some (.stringIter s pos)) : Bld B b l (w.iterAt it s pos') := by
  have hne : ∀ {i : Nat} {cs : Array Value} {t : TypeId} {f : Nat × Nat}, w.heap[i]? = some (.cells cs t f) → (w.iterAt it s pos').heap[i]? = some (.cells cs t f) := fun {i cs t f} hi =>
    (Lib.iterAt_other w it i s pos' (fun e => by rw [e, hk] at hi; cases hi)).trans hi
  have ho : ∀ v, w.ownsRow B 5 1 v l.length l → (w.iterAt it s pos').ownsRow B 5 1 v l.length l := by
    intro v hv
    refine ⟨hv.1, hv.2.imp id ?_⟩
    rintro ⟨g, cap, cur, e1, e2, e3, e4⟩
    exact ⟨g, cap, cur, e1, e2, hne e3, e4⟩
  have hb : Lib.IsBuilder 130 5 B b l w := h
  rcases hb with ⟨h1, v, h2, h3, h4⟩ | ⟨h1, v, h2, h3, h4⟩
  · exact Or.inl ⟨h1, v, hne h2, ho v h3, h4⟩
  · exact Or.inr ⟨h1, v, hne h2, ho v h3, h4⟩

/-- m runes are done. -/
structure FoI (rs : List Nat) (w : World) (it m : Nat) (acc : List UInt8) (wr : World) : Prop where
  le : m ≤ rs.length
  text : acc = encs ((rs.take m).map foldR)
  iter : wr.heap[it]? = some (.stringIter (Nm.bs (encs rs)) (encs (rs.take m)).length)
  bld : Bld w.heap.size w.heap.size (Lib.byteCells acc) wr
  bel : Below w.heap.size w wr

theorem drop_atK {α : Type} {l : List α} {i : Nat} {x : α} (h : l[i]? = some x) : l.drop i = x :: l.drop (i + 1) := by
  obtain ⟨hi, rfl⟩ := List.getElem?_eq_some_iff.1 h
  exact List.drop_eq_getElem_cons hi

set_option maxRecDepth 100000 in
set_option maxHeartbeats 16000000 in
theorem foldS_any (rs : List Nat) (hrs : ∀ r ∈ rs, OkRune r) (hl : rs.length < 10000000) (w : World) :
    Calls Tryz.prog 107 #[.string (Nm.bs (encs rs))] w fun e w' => e = .returned (.string (Nm.bs (low (encs rs)))) ∧ Below w.heap.size w w' := by
  obtain ⟨w0, hw0⟩ : ∃ w0, w0 = w.alloc (.cells #[.pointer none, .slice none 0 0] 130 (0, 0)) := ⟨_, rfl⟩
  have hbld : Bld w.heap.size w.heap.size (Lib.byteCells []) w0 := by rw [hw0]; exact Lib.fresh_isBuilder 130 5 w
  have hb0 : Below w.heap.size w w0 := by rw [hw0]; exact (Below.refl _ w).alloc (Nat.le_refl _) _
  have hz0 : w0.heap.size = w.heap.size + 1 := by rw [hw0]; simp
  have hsz := bs_size (encs rs)
  have hitn := heap_alloc_new w0 (.stringIter (Nm.bs (encs rs)) 0)
  have H1 : Hid (FoI rs w w0.heap.size 0 [] (w0.alloc (.stringIter (Nm.bs (encs rs)) 0))) := Lib.hid ⟨Nat.zero_le _, by simp, by simpa using hitn, hbld.alloc _, hb0.alloc (by omega) _⟩
  have HRS := Lib.hid hrs
  have hlow := fold_low rs hrs
  have HLOW := Lib.hid hlow
  clear hbld hitn hrs hlow
  rw [hz0] at H1
  rw [hw0] at H1
  clear hw0 hb0 hz0
  go_enter Tryz.func107, Tryz.ntmps107
  go_wp2_with fail
  generalize hit : w.heap.size + 1 = it at *
  have hitw : w.heap.size < it := by omega
  go_loopw [] (fun wr => ∃ (m : Nat) (acc : List UInt8), Hid (FoI rs w it m acc wr)) (fun wr => (encs rs).length - wr.iterPos it)
  case atStart => exact ⟨0, [], H1⟩
  case round =>
    clear H1
    obtain ⟨m, acc, HJ⟩ := hrel
    have hmle := HJ.out.le
    have hjz := HJ.out.bel.size
    have hiter := HJ.out.iter
    have hal2 : acc.length ≤ 4 * rs.length := by
      rw [HJ.out.text]
      have h4 : ∀ l : List Nat, (encs l).length ≤ 4 * l.length := by
        intro l
        induction l with
        | nil => simp
        | cons r l ih => rw [Sp.encs_cons, List.length_append, List.length_cons]; have := (enc_len (r : Int)).2; omega
      have := h4 ((rs.take m).map foldR)
      rw [List.length_map, List.length_take] at this
      omega
    by_cases hme : m = rs.length
    · have hacc : acc = low (encs rs) := by rw [HJ.out.text, hme, List.take_length, HLOW.out]
      have hpe : ¬ (encs (rs.take m)).length < (Nm.bs (encs rs)).size := by rw [hme, List.take_length, hsz]; omega
      have hnx : ∀ ty, (Instr.next (.pointer (some ⟨it, 0, none⟩)) true ty).run Tryz.prog wr = .ok (.tuple #[.bool false]) wr := fun ty => Lib.run_next_end_at wr it (Nm.bs (encs rs)) _ ty hiter hpe
      have HS := Lib.hid (Tryz.Builder_String_any w.heap.size w.heap.size acc wr HJ.out.bld (by omega))
      have HACC := Lib.hid hacc
      have HB := Lib.hid HJ.out.bel
      clear hacc hpe HJ hiter
      go_wp2_with fail
      refine HS.out.mono ?_
      rintro e w5 ⟨rfl, hb5⟩
      have HB5 := Lib.hid (HB.out.trans (hb5.mono (by omega)))
      clear hb5 HS
      go_wp2_with fail
      go_ret
      exact ⟨by rw [← HACC.out]; rfl, HB5.out⟩
    · have hml : m < rs.length := by omega
      obtain ⟨r, hr⟩ : ∃ r, rs[m]? = some r := ⟨_, List.getElem?_eq_getElem hml⟩
      have hrok := HRS.out r (List.mem_of_getElem? hr)
      have hspl : encs rs = encs (rs.take m) ++ (Lib.encodeRune (r : Int) ++ encs (rs.drop (m + 1))) := by
        conv => lhs; rw [← List.take_append_drop m rs, drop_atK hr]
        rw [encs_append, encs_cons]
      have hdec := decode_enc (encs (rs.take m)) (encs (rs.drop (m + 1))) r hrok
      rw [← hspl] at hdec
      have hel := (enc_len (r : Int)).1
      have hposl : (encs (rs.take m)).length < (encs rs).length := by rw [hspl]; simp only [List.length_append]; omega
      have hpos : (encs (rs.take m)).length < (Nm.bs (encs rs)).size := by rw [hsz]; exact hposl
      have htk : rs.take (m + 1) = rs.take m ++ [r] := take_snoc hr
      have hpos2 : (encs (rs.take (m + 1))).length = (encs (rs.take m)).length + (Lib.encodeRune (r : Int)).length := by rw [htk, encs_append]; simp
      have hnx0 := fun ty => Lib.run_next_any_at (P := Tryz.prog) wr it (Nm.bs (encs rs)) _ ty hiter hpos
      rw [hdec] at hnx0
      obtain ⟨W2, hW2⟩ : ∃ W2, W2 = wr.iterAt it (Nm.bs (encs rs)) ((encs (rs.take m)).length + (Lib.encodeRune (r : Int)).length) := ⟨_, rfl⟩
      have hnx : ∀ ty, (Instr.next (.pointer (some ⟨it, 0, none⟩)) true ty).run Tryz.prog wr = .ok (.tuple #[.bool true, .int .i64 ((encs (rs.take m)).length : Nat), .int .i32 (r : Int)]) W2 := fun ty => by rw [hnx0 ty, hW2]
      have hit2 : W2.heap[it]? = some (.stringIter (Nm.bs (encs rs)) (encs (rs.take (m + 1))).length) := by rw [hW2, hpos2]; exact Lib.iterAt_heap wr it _ _ _ hiter
      have hbld2 : Bld w.heap.size w.heap.size (Lib.byteCells acc) W2 := by rw [hW2]; exact HJ.out.bld.iterK hiter
      have hbel2 : Below w.heap.size w W2 := by rw [hW2]; exact Lib.below_iterAt HJ.out.bel (by omega) _ _
      have hz2 := hbel2.size
      have hbl2 : (Lib.byteCells acc).length < 1000000000 := by simp [Lib.byteCells]; omega
      have hstep : ∀ w5, Bld w.heap.size w.heap.size (Lib.byteCells acc ++ Lib.byteCells (Lib.encodeRune ((foldR r : Nat) : Int))) w5 → Below w.heap.size W2 w5 → IterKept W2 w5 → FoI rs w it (m + 1) (acc ++ Lib.encodeRune ((foldR r : Nat) : Int)) w5 := fun w5 h1 h2 h3 =>
        ⟨hml, by rw [htk, HJ.out.text, List.map_append, encs_append]; simp, h3 it _ _ hit2, by rw [show Lib.byteCells (acc ++ Lib.encodeRune ((foldR r : Nat) : Int)) = Lib.byteCells acc ++ Lib.byteCells (Lib.encodeRune ((foldR r : Nat) : Int)) by simp [Lib.byteCells]]; exact h1, hbel2.trans h2⟩
      have hdn : ∀ a w5, FoI rs w it (m + 1) a w5 → (encs rs).length - w5.iterPos it < (encs rs).length - wr.iterPos it := fun a w5 h => by
        simp only [World.iterPos, h.iter, hiter]
        rw [hpos2]; omega
      have HST := Lib.hid hstep
      have HDN := Lib.hid hdn
      have hr0 : (r : Int) ≤ 2147483647 := by unfold OkRune at hrok; omega
      have hfr0 : ((foldR r : Nat) : Int) ≤ 2147483647 := by unfold foldR; unfold OkRune at hrok; split <;> omega
      have HW0 := Lib.hid (rune_k w.heap.size w.heap.size (Lib.byteCells acc) ((foldR r : Nat) : Int) (by omega) hfr0 W2 hbld2 hbl2 hz2)
      rw [← Lib.byteCells_encodeRune] at HW0
      have HFR := Lib.hid (fun w9 => fold_rune r w9)
      clear hnx0 hspl hdec hposl hpos hpos2 htk hit2 hbld2 hbel2 hstep hdn hiter hW2 hr hrok hme HJ
      rcases (show (r < 65 ∧ foldR r = r) ∨ (65 ≤ r ∧ r ≤ 90 ∧ foldR r = r + 32) ∨ (90 < r ∧ r < 128 ∧ foldR r = r) ∨ (128 ≤ r ∧ foldR r = r) by unfold foldR; split <;> omega) with ⟨h1, hf⟩ | ⟨h1, h2, hf⟩ | ⟨h1, h2, hf⟩ | ⟨h1, hf⟩
      · rw [hf] at HST HW0
        have z1 : decide ((r : Int) < 128) = true := decide_eq_true (by omega)
        have z2 : decide ((65 : Int) ≤ (r : Int)) = false := decide_eq_false (by omega)
        clear hf
        go_wp2_with fail
        refine HW0.out.mono ?_
        rintro e w5 ⟨⟨nn, rfl⟩, hb5, hbe5, hk5⟩
        have HN := Lib.hid (HST.out w5 hb5 hbe5 hk5)
        clear hb5 hbe5 hk5
        go_wp2_with fail
        exact ⟨⟨m + 1, _, HN⟩, HDN.out _ w5 HN.out⟩
      · rw [hf] at HST HW0
        have z1 : decide ((r : Int) < 128) = true := decide_eq_true (by omega)
        have z2 : decide ((65 : Int) ≤ (r : Int)) = true := decide_eq_true (by omega)
        have z3 : decide ((r : Int) ≤ 90) = true := decide_eq_true (by omega)
        clear hf
        go_wp2_with fail
        refine HW0.out.mono ?_
        rintro e w5 ⟨⟨nn, rfl⟩, hb5, hbe5, hk5⟩
        have HN := Lib.hid (HST.out w5 hb5 hbe5 hk5)
        clear hb5 hbe5 hk5
        go_wp2_with fail
        exact ⟨⟨m + 1, _, HN⟩, HDN.out _ w5 HN.out⟩
      · rw [hf] at HST HW0
        have z1 : decide ((r : Int) < 128) = true := decide_eq_true (by omega)
        have z2 : decide ((65 : Int) ≤ (r : Int)) = true := decide_eq_true (by omega)
        have z3 : decide ((r : Int) ≤ 90) = false := decide_eq_false (by omega)
        clear hf
        go_wp2_with fail
        refine HW0.out.mono ?_
        rintro e w5 ⟨⟨nn, rfl⟩, hb5, hbe5, hk5⟩
        have HN := Lib.hid (HST.out w5 hb5 hbe5 hk5)
        clear hb5 hbe5 hk5
        go_wp2_with fail
        exact ⟨⟨m + 1, _, HN⟩, HDN.out _ w5 HN.out⟩
      · rw [hf] at HST HW0
        have z1 : decide ((r : Int) < 128) = false := decide_eq_false (by omega)
        clear hf
        go_wp2_with fail
        refine (HFR.out _).mono ?_
        rintro e w4 ⟨rfl, rfl⟩
        go_wp2_with fail
        refine HW0.out.mono ?_
        rintro e w5 ⟨⟨nn, rfl⟩, hb5, hbe5, hk5⟩
        have HN := Lib.hid (HST.out w5 hb5 hbe5 hk5)
        clear hb5 hbe5 hk5
        go_wp2_with fail
        exact ⟨⟨m + 1, _, HN⟩, HDN.out _ w5 HN.out⟩
end Go.Proofs.YtjmahgefijncaaaGreatFmt

/- AttributeTypeAndValue.String. -/
namespace Go.Proofs.YtjmahgefijncaaaGreatFmt
open Go Go.RowKit

theorem encGo_len (isV : Bool) : ∀ (f : Bool) (v : List UInt8), (Kp.encGo isV f v).length ≤ 3 * v.length
  | _, [] => by simp [Kp.encGo]
  | f, c :: r => by
    have h1 := encGo_len isV false r
    have h2 := encB_len isV f r.isEmpty c
    rw [Kp.encGo, List.length_append, List.length_cons]; omega

set_option maxRecDepth 100000 in
set_option maxHeartbeats 16000000 in
theorem atv_run (a : Nat) (s1 s2 l1 e1 e2 : ByteArray) (w : World) (hA : w.heap[a]? = some (.cells #[.string s1, .string s2] 120 (0, 0)))
    (HF : Hid (∀ w2, Calls Tryz.prog 107 #[.string s1] w2 fun e w' => e = .returned (.string l1) ∧ Below w2.heap.size w2 w'))
    (HE1 : Hid (∀ w2, Calls Tryz.prog 106 #[.string l1, .bool false] w2 fun e w' => e = .returned (.string e1) ∧ Below w2.heap.size w2 w'))
    (HE2 : Hid (∀ w2, Calls Tryz.prog 106 #[.string s2, .bool true] w2 fun e w' => e = .returned (.string e2) ∧ Below w2.heap.size w2 w'))
    (hz1 : ¬ 9223372036854775807 < e1.size + 1) (hz2 : ¬ 9223372036854775807 < e1.size + 1 + e2.size) :
    Calls Tryz.prog 92 #[.pointer (some ⟨a, 0, none⟩)] w fun e w' => e = .returned (.string ((e1 ++ Nm.bs [61]) ++ e2)) ∧ Below w.heap.size w w' := by
  have HC : Hid (∀ w2, Below w.heap.size w w2 → w2.cell? ⟨a, 0, none⟩ = some (.string s1) ∧ w2.cell? ⟨a, 1, none⟩ = some (.string s2)) := Lib.hid (fun w2 h => by
    have := (h.block a (blockLt hA)).trans hA
    exact ⟨blockCell this 0, blockCell this 1⟩)
  have hz3 : (e1 ++ Nm.bs [61]).size = e1.size + 1 := by rw [ByteArray.size_append]; rfl
  go_enter Tryz.func92, Tryz.ntmps92
  go_wp2_with fail
  have HB : Hid (Below w.heap.size w w.drew) := Lib.hid (Below.drew (Below.refl _ w))
  obtain ⟨c0, c1⟩ := HC.out w (Below.refl _ w)
  obtain ⟨d0, d1⟩ := HC.out w.drew HB.out
  clear hA
  go_region_with (first
    | (go_at_call_of 107 s1; refine (HF.out _).mono ?_; rintro e wn ⟨rfl, hbn⟩; replace HB := Lib.hid (HB.out.trans (hbn.mono HB.out.size)); clear hbn; obtain ⟨c0, c1⟩ := HC.out wn HB.out)
    | (go_at_call_of 106 l1; refine (HE1.out _).mono ?_; rintro e wn ⟨rfl, hbn⟩; replace HB := Lib.hid (HB.out.trans (hbn.mono HB.out.size)); clear hbn; obtain ⟨c0, c1⟩ := HC.out wn HB.out)
    | (go_at_call_of 106 s2; refine (HE2.out _).mono ?_; rintro e wn ⟨rfl, hbn⟩; replace HB := Lib.hid (HB.out.trans (hbn.mono HB.out.size)); clear hbn; obtain ⟨c0, c1⟩ := HC.out wn HB.out))
  all_goals
    go_wp2_with fail
    go_ret
    exact ⟨rfl, HB.out⟩

theorem atv_text (a : Nat) (p : Nm.Part) (w : World) (hA : PartAt w a p) (hu : Utf p.1) (h1 : p.1.length < 1000000) (h2 : p.2.length < 1000000) :
    Calls Tryz.prog 92 #[.pointer (some ⟨a, 0, none⟩)] w fun e w' => e = .returned (.string (Nm.bs (Kp.partText p))) ∧ Below w.heap.size w w' := by
  obtain ⟨rs, hrs, hr⟩ := hu
  have hrl : rs.length < 10000000 := by
    have : ∀ l : List Nat, l.length ≤ (encs l).length := by
      intro l
      induction l with
      | nil => simp
      | cons r l ih => rw [Sp.encs_cons, List.length_append, List.length_cons]; have := (enc_len (r : Int)).1; omega
    have := this rs
    rw [← hr] at this; omega
  have hll : (low p.1).length = p.1.length := by simp [low]
  have g1 := encGo_len false true (low p.1)
  have g2 := encGo_len true true p.2
  have hz1 := bs_size (Kp.encGo false true (low p.1))
  have hz2 := bs_size (Kp.encGo true true p.2)
  have := atv_run a (Nm.bs p.1) (Nm.bs p.2) (Nm.bs (low p.1)) (Nm.bs (Kp.encGo false true (low p.1))) (Nm.bs (Kp.encGo true true p.2)) w hA
    (Lib.hid (fun w2 => by rw [hr]; exact foldS_any rs hrs hrl w2)) (Lib.hid (fun w2 => encode_any false (low p.1) (by omega) w2)) (Lib.hid (fun w2 => encode_any true p.2 (by omega) w2)) (by omega) (by omega)
  refine this.mono fun e w' ⟨h, k⟩ => ⟨?_, k⟩
  rw [h, bs_app, bs_app]
  unfold Kp.partText
  rw [List.append_assoc]; rfl
end Go.Proofs.YtjmahgefijncaaaGreatFmt

/- zzJoin. -/
namespace Go.Proofs.YtjmahgefijncaaaGreatFmt
open Go Go.RowKit

set_option maxRecDepth 100000 in
set_option maxHeartbeats 16000000 in
theorem join_any (v : Value) (ls : List (List UInt8)) (s : UInt8) (w : World) (hv : StrsIn w v ls) (hn : ls.length < 1000000000) (hl : (Kp.join s ls).length < 1000000000) :
    Calls Tryz.prog 83 #[v, .string (Nm.bs [s])] w fun e w' => e = .returned (.string (Nm.bs (Kp.join s ls))) ∧ Below w.heap.size w w' := by
  have HV := Lib.hid hv
  obtain ⟨o, cap, rfl, _⟩ := hv
  have hzs : (Nm.bs [s]).size = 1 := rfl
  have hle := Kp.join_take_le s ls
  have HLE := Lib.hid hle
  clear hle
  go_enter Tryz.func83, Tryz.ntmps83
  go_wp2_with fail
  go_loopw [5, 10] (fun t5 t10 wr => ∃ i : Nat, t10 = .int .i64 i ∧ t5 = .string (Nm.bs (Kp.join s (ls.take i))) ∧ i ≤ ls.length ∧ Hid (Below w.heap.size w wr)) (fun _ t10 _ => ls.length - (intOf t10).toNat)
  case atStart => exact ⟨0, rfl, by simp [Kp.join]; rfl, Nat.zero_le _, Lib.hid (Below.refl _ _)⟩
  case round =>
    obtain ⟨i, rfl, rfl, hi, HB⟩ := hrel
    by_cases hend : i = ls.length
    · subst hend
      have t1 : decide ((ls.length : Int) < (ls.length : Int)) = false := by simp
      have he : Kp.join s (ls.take ls.length) = Kp.join s ls := by rw [List.take_length]
      rw [he]
      go_wp2_with fail
      go_ret
      exact ⟨rfl, HB.out⟩
    · have hlt : i < ls.length := by omega
      have t1 : decide ((i : Int) < (ls.length : Int)) = true := by simp; omega
      obtain ⟨x, hx⟩ : ∃ x, ls[i]? = some x := ⟨_, List.getElem?_eq_getElem hlt⟩
      have hT := take_snoc hx
      obtain ⟨b, off, rfl, hcell⟩ : ∃ b off, o = some ⟨b, off, none⟩ ∧ wr.cell? ⟨b, off + i, none⟩ = some (.string (Nm.bs x)) := by
        obtain ⟨o', c', hv', hc⟩ := HV.out
        injection hv' with e1 _ _
        obtain ⟨b, off, e2, e3⟩ := hc i x hx
        exact ⟨b, off, e1.trans e2, (HB.out.cell (World.block_lt_of_cell? w ⟨b, off + i, none⟩ e3)).trans e3⟩
      have hj1 := HLE.out (i + 1)
      have hjs := Kp.join_snoc s (ls.take i) x
      rw [← hT] at hjs
      rw [hjs] at hj1
      have hz1 := bs_size (Kp.join s (ls.take i))
      have hz2 := bs_size x
      by_cases h0 : i = 0
      · subst h0
        rw [Nat.add_zero] at hcell
        rw [if_pos (by simp)] at hjs hj1
        have z1 : decide (((0 : Nat) : Int) > 0) = false := by decide
        have e1 : Nm.bs (Kp.join s (ls.take 0)) ++ Nm.bs x = Nm.bs (Kp.join s (ls.take (0 + 1))) := by rw [hjs, bs_app]; rfl
        have E1 := Lib.hid e1
        have b1 : ¬ 9223372036854775807 < (Kp.join s (ls.take 0)).length + x.length := by simp [Kp.join]; omega
        clear hjs hT hx e1 hj1
        generalize Kp.join s (ls.take 0) = acc at *
        go_wp2_with fail
        exact ⟨⟨1, by go_num, congrArg Value.string E1.out, by omega, HB⟩, by simp [intOf]; omega⟩
      · have hne : ls.take i ≠ [] := by
          intro e
          have := congrArg List.length e
          rw [List.length_take, List.length_nil] at this
          omega
        rw [if_neg hne] at hjs hj1
        rw [List.length_append, List.length_cons] at hj1
        have z1 : decide ((i : Int) > 0) = true := by simp; omega
        have e1 : (Nm.bs (Kp.join s (ls.take i)) ++ Nm.bs [s]) ++ Nm.bs x = Nm.bs (Kp.join s (ls.take (i + 1))) := by rw [hjs, bs_app, bs_app, List.append_assoc]; rfl
        have E1 := Lib.hid e1
        have b1 : ¬ 9223372036854775807 < (Kp.join s (ls.take i)).length + 1 := by omega
        have b2 : ¬ 9223372036854775807 < (Kp.join s (ls.take i)).length + 1 + x.length := by omega
        have hz3 : (Nm.bs (Kp.join s (ls.take i)) ++ Nm.bs [s]).size = (Kp.join s (ls.take i)).length + 1 := by rw [ByteArray.size_append, hz1]; rfl
        clear hjs hT hx e1 hj1 hne
        generalize Kp.join s (ls.take i) = acc at *
        go_wp2_with fail
        exact ⟨⟨i + 1, by go_num, congrArg Value.string E1.out, by omega, HB⟩, by simp [intOf]; omega⟩
end Go.Proofs.YtjmahgefijncaaaGreatFmt

/- zzSort. -/
namespace Go.Proofs.YtjmahgefijncaaaGreatFmt
open Go Go.RowKit

def strV (l : List (List UInt8)) : List Value := l.map fun x => Value.string (Nm.bs x)
/-- Block g is a row of texts. -/
def SRow (w : World) (g : Nat) (l : List (List UInt8)) : Prop := w.heap[g]? = some (.cells (strV l).toArray 9 (0, 0))
theorem SRow.cell {w : World} {g : Nat} {l : List (List UInt8)} (h : SRow w g l) {j : Nat} {x : List UInt8} (hj : l[j]? = some x) : w.cell? ⟨g, j, none⟩ = some (.string (Nm.bs x)) := by
  rw [blockCell h j]; simp [strV, hj]
theorem SRow.set {w : World} {g : Nat} {l : List (List UInt8)} (h : SRow w g l) (j : Nat) (x : List UInt8) : SRow (w.setCell ⟨g, j, none⟩ (.string (Nm.bs x))) g (l.set j x) := by
  have := blockSet h j (.string (Nm.bs x))
  unfold SRow
  rw [this]
  simp [strV, List.map_set]
theorem SRow.lt {w : World} {g : Nat} {l : List (List UInt8)} (h : SRow w g l) : g < w.heap.size := blockLt h

structure SoI (ls : List (List UInt8)) (g : Nat) (w : World) (cur : List (List UInt8)) (wr : World) : Prop where
  row : SRow wr g cur
  keep : Keep w.heap.size g w wr
theorem SoI.drewN {ls : List (List UInt8)} {g : Nat} {w : World} {cur : List (List UInt8)} {wr : World} (h : SoI ls g w cur wr) (n : Nat) : SoI ls g w cur (wr.drewN n) := ⟨h.row, h.keep.drewN n⟩

set_option maxRecDepth 100000 in
set_option maxHeartbeats 16000000 in
theorem sort_any (g cap : Nat) (ls : List (List UInt8)) (w : World) (hg : SRow w g ls) (hn : ls.length < 1000000000) :
    Calls Tryz.prog 93 #[.slice (some ⟨g, 0, none⟩) ls.length cap] w fun e w' => (∃ v, e = .returned v) ∧ ∃ s, s.Perm ls ∧ Kp.Srt s ∧ SRow w' g s ∧ Keep w.heap.size g w w' := by
  have H0 : Hid (Kp.Out ls 1 ls ∧ SoI ls g w ls w) := Lib.hid ⟨Kp.out_start ls, hg, Keep.refl _ _ _⟩
  clear hg
  go_enter Tryz.func93, Tryz.ntmps93
  go_wp2_with fail
  go_loopw [2] (fun t2 wr => ∃ (i : Nat) (cur : List (List UInt8)), t2 = .int .i64 i ∧ i ≤ ls.length + 1 ∧ Hid (Kp.Out ls i cur ∧ SoI ls g w cur wr)) (fun t2 _ => ls.length + 1 - (intOf t2).toNat)
  case atStart => exact ⟨1, ls, rfl, by omega, H0⟩
  case round =>
    clear H0
    obtain ⟨i, cur, rfl, hi, HI⟩ := hrel
    by_cases hend : ls.length ≤ i
    · have t1 : decide ((i : Int) < (ls.length : Int)) = false := by simp; omega
      have HF := Lib.hid (And.intro (Kp.out_end HI.out.1 hend) HI.out.2)
      clear HI
      go_wp2_with fail
      go_end0
      exact ⟨⟨_, rfl⟩, cur, HF.out.1.1, HF.out.1.2, HF.out.2.row, HF.out.2.keep⟩
    · have hlt : i < ls.length := by omega
      have t1 : decide ((i : Int) < (ls.length : Int)) = true := decide_eq_true (by omega)
      have H1 : Hid (Kp.Ins ls i i cur ∧ SoI ls g w cur wr) := Lib.hid ⟨Kp.ins_start HI.out.1 hlt, HI.out.2⟩
      clear HI hend
      go_wp2_with fail
      obtain ⟨cur0, rfl⟩ : ∃ c, c = cur := ⟨_, rfl⟩
      go_loopw [3] (fun t3 wr => ∃ (j : Nat) (cur : List (List UInt8)), t3 = .int .i64 j ∧ Hid (Kp.Ins ls i j cur ∧ SoI ls g w cur wr)) (fun t3 _ => (intOf t3).toNat)
      case atStart => exact ⟨i, cur0, rfl, H1⟩
      case round =>
        clear H1 t1
        obtain ⟨j, cur, rfl, HJ⟩ := hrel
        have hat := Kp.ins_at HJ.out.1
        have hcl := HJ.out.1.1.length_eq
        cases j with
        | zero =>
          have HN := Lib.hid (And.intro (Kp.ins_end HJ.out.1 (Or.inl rfl)) HJ.out.2)
          have z1 : decide (((0 : Nat) : Int) > 0) = false := by decide
          clear HJ hat hcl
          go_wp2_with fail
          go_quiet (fail)
          go_wp2_with fail
          exact ⟨⟨i + 1, cur, by go_num, by omega, Lib.hid ⟨HN.out.1, HN.out.2.drewN _⟩⟩, by simp [intOf]; omega⟩
        | succ k =>
          have hk1 : k + 1 < cur.length := by omega
          obtain ⟨a, ha⟩ : ∃ a, cur[k]? = some a := ⟨_, List.getElem?_eq_getElem (by omega)⟩
          obtain ⟨x, hx⟩ : ∃ x, cur[k + 1]? = some x := ⟨_, List.getElem?_eq_getElem hk1⟩
          have ca : wr.cell? ⟨g, k, none⟩ = some (.string (Nm.bs a)) := HJ.out.2.row.cell ha
          have cx : wr.cell? ⟨g, k + 1, none⟩ = some (.string (Nm.bs x)) := HJ.out.2.row.cell hx
          have z1 : decide (((k + 1 : Nat) : Int) > 0) = true := decide_eq_true (by omega)
          have z2 : (0 : Int) ≤ (k : Int) := by omega
          have z3 : (k : Int) < (ls.length : Int) := by omega
          have z4 : (0 : Int) ≤ (k : Int) + 1 := by omega
          have z5 : (k : Int) + 1 < (ls.length : Int) := by omega
          have z6 : ((k : Int) + 1).toNat = k + 1 := by omega
          cases hl : Kp.less x a with
          | false =>
            have hcmp : Go.Op.bytesLess (Nm.bs x).toList (Nm.bs a).toList = false := by rw [bs_toList, bs_toList]; exact hl
            have HN := Lib.hid (And.intro (Kp.ins_end HJ.out.1 (Or.inr ⟨k, a, x, rfl, ha, hx, hl⟩)) HJ.out.2)
            clear HJ hat hcl ha hx hk1 hl
            go_wp2_with fail
            go_quiet (fail)
            go_wp2_with fail
            exact ⟨⟨i + 1, cur, by go_num, by omega, Lib.hid ⟨HN.out.1, HN.out.2.drewN _⟩⟩, by simp [intOf]; omega⟩
          | true =>
            have hcmp : Go.Op.bytesLess (Nm.bs x).toList (Nm.bs a).toList = true := by rw [bs_toList, bs_toList]; exact hl
            have hins := Kp.ins_step HJ.out.1 ha hx hl
            have hkeep := HJ.out.2.keep
            have hrow := HJ.out.2.row
            have HW1 : Hid (∀ n, SoI ls g w ((cur.set (k + 1) a).set k x) (((wr.drewN n).setCell ⟨g, k + 1, none⟩ (.string (Nm.bs a))).setCell ⟨g, k, none⟩ (.string (Nm.bs x)))) :=
              Lib.hid (fun n => ⟨((show SRow (wr.drewN n) g cur from hrow).set (k + 1) a).set k x, ((hkeep.drewN n).setCell (p := ⟨g, k + 1, none⟩) (Or.inr rfl) _).setCell (p := ⟨g, k, none⟩) (Or.inr rfl) _⟩)
            have HINS := Lib.hid hins
            have hf : ∀ j, wr.frozen? ⟨g, j, none⟩ = false := fun j => blockFrozen hrow j
            have hf0 := hf k
            have hf1 := hf (k + 1)
            have s1 : ∀ n, ((wr.drewN n).setCell ⟨g, k + 1, none⟩ (.string (Nm.bs a))).cell? ⟨g, k, none⟩ = some (.string (Nm.bs a)) := fun n => (((show SRow (wr.drewN n) g cur from hrow).set (k + 1) a)).cell (by rw [List.getElem?_set_ne (by omega)]; exact ha)
            have s2 : ∀ n, ((wr.drewN n).setCell ⟨g, k + 1, none⟩ (.string (Nm.bs a))).frozen? ⟨g, k, none⟩ = false := fun n => blockFrozen (((show SRow (wr.drewN n) g cur from hrow).set (k + 1) a)) k
            have s3 : ∀ n, ((wr.drewN n).setCell ⟨g, k, none⟩ (.string (Nm.bs x))).cell? ⟨g, k + 1, none⟩ = some (.string (Nm.bs x)) := fun n => (((show SRow (wr.drewN n) g cur from hrow).set k x)).cell (by rw [List.getElem?_set_ne (by omega)]; exact hx)
            have s4 : ∀ n, ((wr.drewN n).setCell ⟨g, k, none⟩ (.string (Nm.bs x))).frozen? ⟨g, k + 1, none⟩ = false := fun n => blockFrozen (((show SRow (wr.drewN n) g cur from hrow).set k x)) (k + 1)
            clear HJ hat hcl ha hx hk1 hl hins hkeep hrow hf
            go_wp2_with fail
            go_quiet (fail)
            go_wp2_with fail
            go_region
            all_goals
              go_wp2_with fail
              exact ⟨⟨k, _, by go_num, Lib.hid ⟨HINS.out, HW1.out _⟩⟩, by simp [intOf]⟩
end Go.Proofs.YtjmahgefijncaaaGreatFmt

/- RelativeDN.String. -/
namespace Go.Proofs.YtjmahgefijncaaaGreatFmt
open Go Go.RowKit

theorem info_strK : ∃ i, Tryz.prog.info? 9 = some i ∧ i.zero = some (.string ⟨#[]⟩) ∧ i.size = 1 ∧ i.bytes = 16 := info_parts (by kernel_rfl)
theorem SRow.made (w : World) (n : Nat) : SRow (w.alloc (.cells (madeCells #[.string ⟨#[]⟩] n) 9 (0, 0))) w.heap.size (List.replicate n []) := by
  unfold SRow
  rw [heap_alloc_new]
  have h := toList_madeCells_one (.string ⟨#[]⟩) n
  have e : madeCells #[Value.string ⟨#[]⟩] n = (strV (List.replicate n [])).toArray := by
    apply Array.toList_inj.1
    rw [h]
    simp [strV, Nm.bs]
  rw [e]
theorem SRow.strs {w : World} {g : Nat} {l : List (List UInt8)} (h : SRow w g l) (cap : Nat) : StrsIn w (.slice (some ⟨g, 0, none⟩) l.length cap) l :=
  ⟨_, _, rfl, fun j x hj => ⟨g, 0, rfl, by rw [Nat.zero_add]; exact h.cell hj⟩⟩
/-- i texts are laid. -/
def partly (ts : List (List UInt8)) (i : Nat) : List (List UInt8) := ts.take i ++ List.replicate (ts.length - i) []
theorem partly_zero (ts : List (List UInt8)) : partly ts 0 = List.replicate ts.length [] := by simp [partly]
theorem partly_all (ts : List (List UInt8)) : partly ts ts.length = ts := by simp [partly]
theorem partly_len (ts : List (List UInt8)) {i : Nat} (hi : i ≤ ts.length) : (partly ts i).length = ts.length := by simp [partly]; omega
theorem partly_set {ts : List (List UInt8)} {i : Nat} {x : List UInt8} (hx : ts[i]? = some x) : (partly ts i).set i x = partly ts (i + 1) := by
  have hi := (List.getElem?_eq_some_iff.1 hx).1
  unfold partly
  have h1 : (ts.take i).length = i := by rw [List.length_take]; omega
  rw [List.set_append_right _ _ (by omega), h1, Nat.sub_self, take_snoc hx, List.append_assoc]
  congr 1
  rw [show ts.length - i = (ts.length - (i + 1)) + 1 by omega, List.replicate_succ]
  rfl

structure RdI (r : Nat) (ts : List (List UInt8)) (w : World) (i : Nat) (wr : World) : Prop where
  le : i ≤ ts.length
  row : SRow wr w.heap.size (partly ts i)
  bel : Below w.heap.size w wr

def PartGood (p : Nm.Part) : Prop := Utf p.1 ∧ p.1.length < 1000000 ∧ p.2.length < 1000000
theorem ptr_parts {w : World} {v : Value} {ps : List Nm.Part} (h : PtrParts w v ps) : ∃ o cap, v = .slice o ps.length cap := by obtain ⟨o, c, e, _⟩ := h; exact ⟨o, c, e⟩

set_option maxRecDepth 100000 in
set_option maxHeartbeats 16000000 in
theorem rdn_text (r : Nat) (ps : List Nm.Part) (w : World) (hR : RdnIn w r ps) (hg : ∀ p ∈ ps, PartGood p) (hn : ps.length < 100000) (hb : ∀ s : List (List UInt8), s.Perm (ps.map Kp.partText) → (Kp.join 43 s).length < 1000000000) :
    Calls Tryz.prog 82 #[.pointer (some ⟨r, 0, none⟩)] w fun e w' => (∃ t, Kp.RText ps t ∧ e = .returned (.string (Nm.bs t))) ∧ Below w.heap.size w w' := by
  obtain ⟨v, hrv, hpp⟩ := hR
  have HP := Lib.hid hpp
  obtain ⟨op, cp, rfl⟩ := ptr_parts hpp
  have cR : w.cell? ⟨r, 0, none⟩ = some (.slice op ps.length cp) := blockCell hrv 0
  have hrlt := blockLt hrv
  obtain ⟨i0, hi, hz0, hz1, hz2⟩ := info_strK
  have HG := Lib.hid hg
  have HBB := Lib.hid hb
  obtain ⟨ts, hts⟩ : ∃ ts, ts = ps.map Kp.partText := ⟨_, rfl⟩
  have htl : ts.length = ps.length := by rw [hts, List.length_map]
  have HTS := Lib.hid hts
  clear hrv hpp hg hb hts
  go_enter Tryz.func82, Tryz.ntmps82
  go_wp2_with (refine wpList_make_row _ rfl _ _ 34 rfl 9 i0 (.string ⟨#[]⟩) Tryz.underlying34 hi hz0 hz1 rfl .i64 .i64 ps.length rfl rfl ?b1 ?b2 ?_)
  case b1 => rw [hz2]; omega
  case b2 => omega
  have hrow := SRow.made w ps.length
  have hbel : Below w.heap.size w (w.alloc (.cells (madeCells #[.string ⟨#[]⟩] ps.length) 9 (0, 0))) := (Below.refl _ w).alloc (Nat.le_refl _) _
  rw [← htl, ← partly_zero, htl] at hrow
  have H0 : Hid (RdI r ts w 0 (w.alloc (.cells (madeCells #[.string ⟨#[]⟩] ps.length) 9 (0, 0)))) := Lib.hid ⟨Nat.zero_le _, hrow, hbel⟩
  have cR1 : (w.alloc (.cells (madeCells #[.string ⟨#[]⟩] ps.length) 9 (0, 0))).cell? ⟨r, 0, none⟩ = some (.slice op ps.length cp) := (hbel.cell (p := ⟨r, 0, none⟩) hrlt).trans cR
  clear hrow hbel
  generalize (w.alloc (.cells (madeCells #[.string ⟨#[]⟩] ps.length) 9 (0, 0))) = W at *
  go_wp2_with fail
  go_loopw [16] (fun t16 wr => ∃ (i : Nat), t16 = .int .i64 i ∧ Hid (RdI r ts w i wr)) (fun t16 _ => ps.length - (intOf t16).toNat)
  case atStart => exact ⟨0, rfl, H0⟩
  case round =>
    clear H0 cR1
    obtain ⟨i, rfl, HI⟩ := hrel
    have hle := HI.out.le
    have hbz := HI.out.bel.size
    have kR : wr.cell? ⟨r, 0, none⟩ = some (.slice op ps.length cp) := (HI.out.bel.cell (p := ⟨r, 0, none⟩) hrlt).trans cR
    by_cases hend : i = ps.length
    · have t1 : decide ((i : Int) < (ps.length : Int)) = false := by simp; omega
      have hrow : SRow wr w.heap.size ts := by
        have := HI.out.row
        rwa [hend, ← htl, partly_all] at this
      have HSO := Lib.hid (sort_any w.heap.size ps.length ts wr hrow (by omega))
      rw [htl] at HSO
      have HB := Lib.hid HI.out.bel
      clear hrow HI kR
      go_wp2_with fail
      refine HSO.out.mono ?_
      rintro e w2 ⟨⟨x, rfl⟩, s, hs1, hs2, hs3, hk⟩
      have hb2 : Below w.heap.size w w2 := HB.out.trans ((hk.mono hbz).toBelow (Nat.le_refl _))
      have hsl : s.length = ps.length := by rw [hs1.length_eq, htl]
      have hst := hs3.strs ps.length
      rw [hsl] at hst
      have HJ := Lib.hid (join_any _ s 43 w2 hst (by omega) (HBB.out s (by rw [← HTS.out]; exact hs1)))
      have HF : Hid (Kp.RText ps (Kp.join 43 s) ∧ Below w.heap.size w w2) := Lib.hid ⟨⟨s, by rw [← HTS.out]; exact hs1, hs2, rfl⟩, hb2⟩
      have hs2z := hb2.size
      clear hs1 hs2 hs3 hk hst hb2 HSO
      go_wp2_with fail
      refine HJ.out.mono ?_
      rintro e w3 ⟨rfl, hb3⟩
      have HB3 := Lib.hid (HF.out.2.trans (hb3.mono hs2z))
      clear hb3
      go_wp2_with fail
      go_ret
      exact ⟨⟨_, HF.out.1, rfl⟩, HB3.out⟩
    · have hlt : i < ps.length := by omega
      have t1 : decide ((i : Int) < (ps.length : Int)) = true := by simp; omega
      obtain ⟨p, hp⟩ : ∃ p, ps[i]? = some p := ⟨_, List.getElem?_eq_getElem hlt⟩
      obtain ⟨b, off, a, rfl, kp, hpa⟩ : ∃ b off a, op = some ⟨b, off, none⟩ ∧ wr.cell? ⟨b, off + i, none⟩ = some (.pointer (some ⟨a, 0, none⟩)) ∧ PartAt wr a p := by
        obtain ⟨o', c', hv', hc⟩ := HP.out
        injection hv' with e1 _ _
        obtain ⟨b, off, a, e2, e3, e4⟩ := hc i p hp
        exact ⟨b, off, a, e1.trans e2, (HI.out.bel.cell (World.block_lt_of_cell? w ⟨b, off + i, none⟩ e3)).trans e3, partAt_stays e4 HI.out.bel⟩
      obtain ⟨g1, g2, g3⟩ := HG.out p (List.mem_of_getElem? hp)
      have HA := Lib.hid (atv_text a p wr hpa g1 g2 g3)
      have htsi : ts[i]? = some (Kp.partText p) := by rw [HTS.out]; simp [hp]
      have hset := partly_set htsi
      have hpl := partly_len ts hle
      have hglt := HI.out.row.lt
      have hnx : ∀ w2, Below wr.heap.size wr w2 → RdI r ts w (i + 1) (w2.setCell ⟨w.heap.size, i, none⟩ (.string (Nm.bs (Kp.partText p)))) ∧ (∃ z, w2.cell? ⟨w.heap.size, i, none⟩ = some z) ∧ w2.frozen? ⟨w.heap.size, i, none⟩ = false := fun w2 hb => by
        have hr2 : SRow w2 w.heap.size (partly ts i) := (hb.block _ hglt).trans HI.out.row
        refine ⟨⟨by omega, by have := hr2.set i (Kp.partText p); rwa [hset] at this, (HI.out.bel.trans (hb.mono hbz)).setCell (p := ⟨w.heap.size, i, none⟩) (Nat.le_refl _) _⟩, ?_, blockFrozen hr2 i⟩
        have hi2 : i < (partly ts i).length := by omega
        exact ⟨_, hr2.cell (List.getElem?_eq_getElem hi2)⟩
      have HNX := Lib.hid hnx
      clear hnx hset hpl htsi hp hpa HI
      go_wp2_with fail
      refine HA.out.mono ?_
      rintro e w2 ⟨rfl, hb2⟩
      obtain ⟨hn1, ⟨z, hn2⟩, hn3⟩ := HNX.out w2 hb2
      have HN := Lib.hid hn1
      clear hn1 hb2 HNX HA
      go_wp2_with fail
      exact ⟨⟨i + 1, by go_num, HN⟩, by simp [intOf]; omega⟩
end Go.Proofs.YtjmahgefijncaaaGreatFmt

/- DN.String, impl.NameText. -/
namespace Go.Proofs.YtjmahgefijncaaaGreatFmt
open Go Go.RowKit

theorem tt_len : ∀ {n : Nm.Name} {ts : List (List UInt8)}, Kp.TT n ts → ts.length = n.length
  | _, _, .nil => rfl
  | _, _, .cons _ h => by rw [List.length_cons, List.length_cons, tt_len h]

structure DsI (n : Nm.Name) (w : World) (i : Nat) (ts : List (List UInt8)) (wr : World) : Prop where
  le : i ≤ n.length
  txt : Kp.TT (n.take i) ts
  row : SRow wr w.heap.size (ts ++ List.replicate (n.length - i) [])
  bel : Below w.heap.size w wr
theorem ptr_rdns {w : World} {v : Value} {n : Nm.Name} (h : PtrRdns w v n) : ∃ o cap, v = .slice o n.length cap := by obtain ⟨o, c, e, _⟩ := h; exact ⟨o, c, e⟩
/-- What is asked of a name that is written. -/
structure NameGood (n : Nm.Name) : Prop where
  len : n.length < 100000
  rdn : ∀ ps ∈ n, (∀ p ∈ ps, PartGood p) ∧ ps.length < 100000 ∧ ∀ s : List (List UInt8), s.Perm (ps.map Kp.partText) → (Kp.join 43 s).length < 1000000000
  all : ∀ ts, Kp.TT n ts → (Kp.join 44 ts).length < 1000000000

set_option maxRecDepth 100000 in
set_option maxHeartbeats 16000000 in
theorem dn_text (d : Nat) (n : Nm.Name) (w : World) (hD : DnIn w d n) (hg : NameGood n) :
    Calls Tryz.prog 62 #[.pointer (some ⟨d, 0, none⟩)] w fun e w' => (∃ ts, Kp.TT n ts ∧ e = .returned (.string (Nm.bs (Kp.join 44 ts)))) ∧ Below w.heap.size w w' := by
  obtain ⟨v, hrv, hpp⟩ := hD
  have HP := Lib.hid hpp
  obtain ⟨op, cp, rfl⟩ := ptr_rdns hpp
  have cR : w.cell? ⟨d, 0, none⟩ = some (.slice op n.length cp) := blockCell hrv 0
  have hrlt := blockLt hrv
  obtain ⟨i0, hi, hz0, hz1, hz2⟩ := info_strK
  have hnl := hg.len
  have HG := Lib.hid hg
  clear hrv hpp hg
  go_enter Tryz.func62, Tryz.ntmps62
  go_wp2_with (refine wpList_make_row _ rfl _ _ 34 rfl 9 i0 (.string ⟨#[]⟩) Tryz.underlying34 hi hz0 hz1 rfl .i64 .i64 n.length rfl rfl ?b1 ?b2 ?_)
  case b1 => rw [hz2]; omega
  case b2 => omega
  have hrow := SRow.made w n.length
  have hbel : Below w.heap.size w (w.alloc (.cells (madeCells #[.string ⟨#[]⟩] n.length) 9 (0, 0))) := (Below.refl _ w).alloc (Nat.le_refl _) _
  have H0 : Hid (DsI n w 0 [] (w.alloc (.cells (madeCells #[.string ⟨#[]⟩] n.length) 9 (0, 0)))) := Lib.hid ⟨Nat.zero_le _, .nil, by simpa using hrow, hbel⟩
  have cR1 : (w.alloc (.cells (madeCells #[.string ⟨#[]⟩] n.length) 9 (0, 0))).cell? ⟨d, 0, none⟩ = some (.slice op n.length cp) := (hbel.cell (p := ⟨d, 0, none⟩) hrlt).trans cR
  clear hrow hbel
  generalize (w.alloc (.cells (madeCells #[.string ⟨#[]⟩] n.length) 9 (0, 0))) = W at *
  go_wp2_with fail
  go_loopw [16] (fun t16 wr => ∃ (i : Nat), t16 = .int .i64 i ∧ Hid (∃ ts, DsI n w i ts wr)) (fun t16 _ => n.length - (intOf t16).toNat)
  case atStart => exact ⟨0, rfl, Lib.hid ⟨[], H0.out⟩⟩
  case round =>
    clear H0 cR1
    obtain ⟨i, rfl, HE⟩ := hrel
    obtain ⟨ts, hds⟩ := HE.out
    have HI := Lib.hid hds
    have hle := hds.le
    have hbz := hds.bel.size
    have htl : ts.length = i := by rw [tt_len hds.txt, List.length_take]; omega
    have kR : wr.cell? ⟨d, 0, none⟩ = some (.slice op n.length cp) := (hds.bel.cell (p := ⟨d, 0, none⟩) hrlt).trans cR
    clear hds HE
    by_cases hend : i = n.length
    · have t1 : decide ((i : Int) < (n.length : Int)) = false := by simp; omega
      have hrow : SRow wr w.heap.size ts := by
        have := HI.out.row
        rw [hend, Nat.sub_self] at this
        simpa using this
      have htt : Kp.TT n ts := by
        have := HI.out.txt
        rwa [hend, List.take_length] at this
      have hst := hrow.strs n.length
      rw [htl, hend] at hst
      have HJ := Lib.hid (join_any _ ts 44 wr hst (by omega) (HG.out.all ts htt))
      have HF := Lib.hid (And.intro htt HI.out.bel)
      clear hrow HI kR hst htt
      go_wp2_with fail
      refine HJ.out.mono ?_
      rintro e w3 ⟨rfl, hb3⟩
      have HB3 := Lib.hid (HF.out.2.trans (hb3.mono hbz))
      clear hb3
      go_wp2_with fail
      go_ret
      exact ⟨⟨_, HF.out.1, rfl⟩, HB3.out⟩
    · have hlt : i < n.length := by omega
      have t1 : decide ((i : Int) < (n.length : Int)) = true := by simp; omega
      obtain ⟨ps, hp⟩ : ∃ p, n[i]? = some p := ⟨_, List.getElem?_eq_getElem hlt⟩
      obtain ⟨b, off, a, rfl, kp, hpa⟩ : ∃ b off a, op = some ⟨b, off, none⟩ ∧ wr.cell? ⟨b, off + i, none⟩ = some (.pointer (some ⟨a, 0, none⟩)) ∧ RdnIn wr a ps := by
        obtain ⟨o', c', hv', _, hc⟩ := HP.out
        injection hv' with e1 _ _
        obtain ⟨b, off, a, e2, e3, e4⟩ := hc i ps hp
        exact ⟨b, off, a, e1.trans e2, (HI.out.bel.cell (World.block_lt_of_cell? w ⟨b, off + i, none⟩ e3)).trans e3, e4.stays HI.out.bel⟩
      obtain ⟨g1, g2, g3⟩ := HG.out.rdn ps (List.mem_of_getElem? hp)
      have HA := Lib.hid (rdn_text a ps wr hpa g1 g2 g3)
      have hglt := HI.out.row.lt
      have hnx : ∀ w2 t, Kp.RText ps t → Below wr.heap.size wr w2 → DsI n w (i + 1) (ts ++ [t]) (w2.setCell ⟨w.heap.size, i, none⟩ (.string (Nm.bs t))) ∧ (∃ z, w2.cell? ⟨w.heap.size, i, none⟩ = some z) ∧ w2.frozen? ⟨w.heap.size, i, none⟩ = false := fun w2 t ht hb => by
        have hr2 : SRow w2 w.heap.size (ts ++ List.replicate (n.length - i) []) := (hb.block _ hglt).trans HI.out.row
        refine ⟨⟨by omega, by rw [take_snoc hp]; exact Kp.TT.snoc ht HI.out.txt, ?_, (HI.out.bel.trans (hb.mono hbz)).setCell (p := ⟨w.heap.size, i, none⟩) (Nat.le_refl _) _⟩, ?_, blockFrozen hr2 i⟩
        · have := hr2.set i t
          rw [List.set_append_right _ _ (by omega), htl, Nat.sub_self, show n.length - i = (n.length - (i + 1)) + 1 by omega, List.replicate_succ] at this
          rw [List.append_assoc]
          exact this
        · have hi2 : i < (ts ++ List.replicate (n.length - i) ([] : List UInt8)).length := by simp; omega
          exact ⟨_, hr2.cell (List.getElem?_eq_getElem hi2)⟩
      have HNX := Lib.hid hnx
      clear hnx hp hpa HI g1 g2 g3
      go_wp2_with fail
      refine HA.out.mono ?_
      rintro e w2 ⟨⟨t, ht, rfl⟩, hb2⟩
      obtain ⟨hn1, ⟨z, hn2⟩, hn3⟩ := HNX.out w2 t ht hb2
      have HN := Lib.hid hn1
      clear hn1 hb2 HNX HA ht
      go_wp2_with fail
      exact ⟨⟨i + 1, by go_num, Lib.hid ⟨_, HN.out⟩⟩, by simp [intOf]; omega⟩

set_option maxRecDepth 100000 in
theorem name_written (v : Value) (n : Nm.Name) (w : World) (hN : NameIn w v n) (hg : NameGood n) (hps : ∀ ps ∈ n, ps.length < 1000000000) :
    Calls Tryz.prog 37 #[v] w fun e w' => (∃ ts, Kp.TT n ts ∧ e = .returned (.string (Nm.bs (Kp.join 44 ts)))) ∧ Below w.heap.size w w' := by
  have HD := Lib.hid (dn_mk v n w hN (by have := hg.len; omega) hps)
  obtain ⟨od, cd, rfl, _⟩ := hN
  go_enter Tryz.func37, Tryz.ntmps37
  go_wp2_with fail
  refine HD.out.mono ?_
  rintro e w1 ⟨d, rfl, hd, hb1⟩
  have HT := Lib.hid (dn_text d n w1 hd hg)
  have HB := Lib.hid hb1
  have hs1 := hb1.size
  clear hd hb1 HD
  go_wp2_with fail
  refine HT.out.mono ?_
  rintro e w2 ⟨⟨ts, ht, rfl⟩, hb2⟩
  have HF := Lib.hid (And.intro ht (HB.out.trans (hb2.mono hs1)))
  clear ht hb2
  go_wp2_with fail
  go_ret
  exact ⟨⟨ts, HF.out.1, rfl⟩, HF.out.2⟩
end Go.Proofs.YtjmahgefijncaaaGreatFmt

/- Plain: the size of what is written of a name that was read of UTF-8. -/
namespace Go.Proofs.YtjmahgefijncaaaGreatFmt.Kp
open Go

theorem utf_split : ∀ (rs : List Nat) (A B : List UInt8) (c : UInt8), (∀ r ∈ rs, OkRune r) → c.toNat < 128 → A ++ c :: B = encs rs → Utf A ∧ Utf B
  | [], A, B, c, _, _, h => by simp [encs] at h
  | r :: rs, A, B, c, hr, hc, h => by
    have hok := hr r (List.mem_cons_self ..)
    have hrs : ∀ x ∈ rs, OkRune x := fun x hx => hr x (List.mem_cons_of_mem _ hx)
    rw [Sp.encs_cons] at h
    have hlen := (enc_len (r : Int)).1
    by_cases hl : (Lib.encodeRune (r : Int)).length ≤ A.length
    · have e2 : A.drop (Lib.encodeRune (r : Int)).length ++ c :: B = encs rs := by
        have := congrArg (List.drop (Lib.encodeRune (r : Int)).length) h
        rwa [List.drop_append_of_le_length hl, List.drop_left] at this
      obtain ⟨⟨ra, h1, h2⟩, h3⟩ := utf_split rs _ B c hrs hc e2
      refine ⟨⟨r :: ra, ?_, ?_⟩, h3⟩
      · intro x hx
        rcases List.mem_cons.1 hx with rfl | hx
        · exact hok
        · exact h1 x hx
      · have e3 : A.take (Lib.encodeRune (r : Int)).length = Lib.encodeRune (r : Int) := by
          have := congrArg (List.take (Lib.encodeRune (r : Int)).length) h
          rwa [List.take_append_of_le_length hl, List.take_left] at this
        rw [Sp.encs_cons, ← h2, ← e3]
        have : (Lib.encodeRune (r : Int)).length = (A.take (Lib.encodeRune (r : Int)).length).length := by rw [e3]
        rw [e3]
        conv => lhs; rw [← List.take_append_drop (Lib.encodeRune (r : Int)).length A, e3]
    · have hm : (Lib.encodeRune (r : Int))[A.length]? = some c := by
        have := congrArg (fun x => x[A.length]?) h
        rw [List.getElem?_append_right (Nat.le_refl _), Nat.sub_self, List.getElem?_append_left (by omega)] at this
        rw [← this]; rfl
      by_cases h8 : 128 ≤ r
      · have := Sp.enc_high hok h8 c (List.mem_of_getElem? hm)
        omega
      · obtain ⟨he, _⟩ := Sp.enc_low (show r < 128 by omega)
        rw [he] at hl h
        have hA : A = [] := List.length_eq_zero_iff.1 (by simp at hl; exact List.length_eq_zero_iff.2 hl)
        subst hA
        rw [List.nil_append] at h
        injection h with _ h
        exact ⟨⟨[], by simp, rfl⟩, ⟨rs, hrs, h⟩⟩
theorem Utf.split {A B : List UInt8} {c : UInt8} (h : Utf (A ++ c :: B)) (hc : c.toNat < 128) : Utf A ∧ Utf B := by
  obtain ⟨rs, h1, h2⟩ := h
  exact utf_split rs A B c h1 hc h2
theorem Utf.drop {H rest : List UInt8} (hH : ∀ c ∈ H, c.toNat < 128) (h : Utf (H ++ rest)) : Utf rest := by
  obtain ⟨rs, h1, h2⟩ := h
  obtain ⟨rs', h3, h4⟩ := Sp.utf_drop hH ⟨rs, h2, h1⟩
  exact ⟨rs', h4, h3⟩
theorem Utf.blank {l : List UInt8} (h : Utf l) : Utf (l ++ [32]) := by
  obtain ⟨rs, h1, h2⟩ := h
  refine ⟨rs ++ [32], ?_, ?_⟩
  · intro x hx
    rcases List.mem_append.1 hx with hx | hx
    · exact h1 x hx
    · simp only [List.mem_singleton] at hx; subst hx; left; decide
  · rw [encs_append, ← h2]; rfl
theorem mem_tw {p : UInt8 → Bool} : ∀ {l : List UInt8} {c : UInt8}, c ∈ l.takeWhile p → p c = true
  | [], c, h => by simp at h
  | a :: l, c, h => by
    rw [List.takeWhile_cons] at h
    split at h
    · rename_i ha
      rcases List.mem_cons.1 h with rfl | h
      · exact ha
      · exact mem_tw h
    · cases h
theorem trimL_utf {l : List UInt8} (h : Utf l) : Utf (Nm.trimL l) := by
  have e : l.takeWhile (· == 32) ++ Nm.trimL l = l := List.takeWhile_append_dropWhile
  rw [← e] at h
  refine Utf.drop (fun c hc => ?_) h
  have := mem_tw hc
  have : c = 32 := by simpa using this
  subst this; decide
theorem trimR_utf {l : List UInt8} (h : Utf l) : Utf (Nm.trimR l) := by
  unfold Nm.trimR
  rcases Nat.lt_or_ge (Nm.upTo l l.length) l.length with hl | hl
  · have hb := Sp.upTo_blank l l.length hl
    have e : l = l.take (Nm.upTo l l.length) ++ 32 :: l.drop (Nm.upTo l l.length + 1) := by
      conv => lhs; rw [← List.take_append_drop (Nm.upTo l l.length) l, drop_atK hb]
    rw [e] at h
    exact (Utf.split h (by decide)).1
  · rw [List.take_of_length_le hl]; exact h
theorem strip_utf {l : List UInt8} (h : Utf l) : Utf (Nm.strip l) := by
  unfold Nm.strip
  split
  · exact Utf.blank (trimR_utf (trimL_utf h))
  · exact trimR_utf (trimL_utf h)
theorem trimL_suffix (l : List UInt8) : ∃ H, l = H ++ Nm.trimL l := ⟨_, List.takeWhile_append_dropWhile.symm⟩
theorem strip_le (l : List UInt8) : (Nm.strip l).length ≤ l.length := by
  obtain ⟨H, hH⟩ := trimL_suffix l
  have h1 : (Nm.trimL l).length ≤ l.length := by
    have := congrArg List.length hH
    rw [List.length_append] at this; omega
  have h2 : (Nm.trimR (Nm.trimL l)).length ≤ (Nm.trimL l).length := by unfold Nm.trimR; rw [List.length_take]; omega
  unfold Nm.strip
  split
  · rename_i hc
    obtain ⟨hne, hlast, _⟩ := hc
    have hm : Nm.trimL l ≠ [] := by
      intro e; rw [e] at hne; exact hne rfl
    have hl2 : (Nm.trimL l).getLast? = some 32 := by
      cases hml : (Nm.trimL l).getLast? with
      | none => exact absurd (List.getLast?_eq_none_iff.1 hml) hm
      | some x =>
        rw [hH, List.getLast?_append, hml] at hlast
        simpa using hlast
    obtain ⟨k, hk⟩ : ∃ k, (Nm.trimL l).length = k + 1 := ⟨(Nm.trimL l).length - 1, by have := List.length_pos_iff.2 hm; omega⟩
    have hat : (Nm.trimL l)[k]? = some 32 := by
      rw [List.getLast?_eq_getElem?, hk] at hl2
      exact hl2
    have hup : Nm.upTo (Nm.trimL l) (Nm.trimL l).length ≤ k := by
      rw [hk]
      unfold Nm.upTo
      rw [if_pos hat]
      exact Sp.upTo_le _ _
    have h3 : (Nm.trimR (Nm.trimL l)).length ≤ k := by unfold Nm.trimR; rw [List.length_take]; omega
    simp; omega
  · omega

theorem unescape_size : ∀ (k : Nat) (rs : List Nat) (v : List UInt8), rs.length ≤ k → Nm.unescape rs = some v → v.length ≤ (encs rs).length
  | _, [], v, _, h => by simp [Nm.unescape] at h; subst h; simp
  | 0, c :: r, v, hk, h => by simp at hk
  | k + 1, c :: r, v, hk, h => by
    simp only [List.length_cons] at hk
    have hc1 := (enc_len (c : Int)).1
    rw [Sp.encs_cons, List.length_append]
    unfold Nm.unescape at h
    split at h
    · split at h
      · cases h
      · rename_i d r1
        simp only [List.length_cons] at hk
        rw [Sp.encs_cons, List.length_append]
        split at h
        · simp only [Option.map_eq_some_iff] at h
          obtain ⟨u, hu, rfl⟩ := h
          have h1 := unescape_size k r1 u (by omega) hu
          simp only [List.length_append]
          omega
        · split at h
          · cases h
          · rename_i e r2
            simp only [List.length_cons] at hk
            rw [Sp.encs_cons, List.length_append]
            split at h
            · simp only [Option.map_eq_some_iff] at h
              obtain ⟨u, hu, rfl⟩ := h
              have h1 := unescape_size k r2 u (by omega) hu
              simp only [List.length_cons]
              omega
            · cases h
    · split at h
      · cases h
      · simp only [Option.map_eq_some_iff] at h
        obtain ⟨u, hu, rfl⟩ := h
        have h1 := unescape_size k r u (by omega) hu
        simp only [List.length_append]
        omega
theorem decode_size {l v : List UInt8} (hu : Utf l) (h : Nm.decode l = some v) : v.length ≤ l.length := by
  obtain ⟨rs, h1, h2⟩ := strip_utf hu
  unfold Nm.decode at h
  rw [h2, runes_of_encs rs h1] at h
  have := unescape_size _ rs v (Nat.le_refl _) h
  have h3 := strip_le l
  rw [h2] at h3
  omega
theorem anyR_size {l v : List UInt8} (hl : l.length ≤ 10000) (hu : Utf l) (h : AnyR l v) : v.length ≤ l.length := by
  unfold AnyR at h
  split at h
  · obtain ⟨b, hb, p, hp, rfl⟩ := h
    have h2 := Lib.Hx.decode_len (l.drop 1)
    rw [hb] at h2
    have h2 : b.length ≤ (l.drop 1).length / 2 := h2
    rw [List.length_drop] at h2
    have h1 := (Ber.readR_fits2 _ _ _ _ _ (by omega) hp).size
    have h3 := Ber.body_le p
    simp only [List.length_nil] at h1
    omega
  · exact decode_size hu h

def wtp (ps : List Nm.Part) : Nat := (ps.map fun p => p.1.length + p.2.length + 2).sum
def wt (n : Nm.Name) : Nat := (n.map wtp).sum
theorem wtp_snoc (ps : List Nm.Part) (p : Nm.Part) : wtp (ps ++ [p]) = wtp ps + (p.1.length + p.2.length + 2) := by simp [wtp]
theorem wt_snoc (n : Nm.Name) (ps : List Nm.Part) : wt (n ++ [ps]) = wt n + wtp ps := by simp [wt]

def tyw (ty : List UInt8) : Nat := if ty = [] then 0 else ty.length + 1
theorem tyw_le (t : List UInt8) : tyw t ≤ t.length + 1 := by unfold tyw; split <;> omega
theorem parseR_wt : ∀ (l seg : List UInt8) (esc : Bool) (ty : List UInt8) (rdn : List Nm.Part) (dn n : Nm.Name), seg.length + l.length ≤ 10000 → Utf (seg ++ l) → Nm.parseR AnyR AnyE l seg esc ty rdn dn (some n) → wt n ≤ wt dn + wtp rdn + tyw ty + seg.length + l.length + 1
  | [], seg, esc, ty, rdn, dn, n, hL, hu, h => by
    rw [List.append_nil] at hu
    unfold Nm.parseR at h
    split at h
    · cases h
    · rename_i hty
      rcases h with ⟨-, h⟩ | ⟨v, hv, h⟩
      · cases h
      · injection h with h
        subst h
        have := anyR_size (by omega) hu hv
        rw [wt_snoc, wtp_snoc]
        unfold tyw
        rw [if_neg hty]
        simp only [List.length_nil]
        omega
  | c :: l, seg, esc, ty, rdn, dn, n, hL, hu, h => by
    simp only [List.length_cons] at hL ⊢
    have happ : (seg ++ [c]) ++ l = seg ++ c :: l := by simp
    have go : ∀ esc', Nm.parseR AnyR AnyE l (seg ++ [c]) esc' ty rdn dn (some n) → wt n ≤ wt dn + wtp rdn + tyw ty + seg.length + (l.length + 1) + 1 := fun esc' h => by
      have := parseR_wt l (seg ++ [c]) esc' ty rdn dn n (by simp; omega) (by rw [happ]; exact hu) h
      simp only [List.length_append, List.length_cons, List.length_nil] at this
      omega
    unfold Nm.parseR at h
    split at h
    · exact go _ h
    · split at h
      · exact go _ h
      · split at h
        · rename_i hc
          obtain ⟨rfl, rfl⟩ := hc
          obtain ⟨hu1, hu2⟩ := Utf.split hu (by decide)
          rcases h with ⟨-, h⟩ | ⟨t, hd, h⟩
          · cases h
          · have h1 := decode_size hu1 hd
            have h2 := parseR_wt l [] false t rdn dn n (by simp; omega) (by simpa using hu2) h
            have h3 := tyw_le t
            simp only [List.length_nil] at h2
            omega
        · split at h
          · rename_i hsep
            split at h
            · cases h
            · rename_i hty
              obtain ⟨hu1, hu2⟩ := Utf.split hu (show c.toNat < 128 by rcases hsep with rfl | rfl | rfl <;> decide)
              rcases h with ⟨-, h⟩ | ⟨v, hv, h⟩
              · cases h
              · have h1 := anyR_size (by omega) hu1 hv
                have h4 : tyw ty = ty.length + 1 := by unfold tyw; rw [if_neg hty]
                split at h
                · have h2 := parseR_wt l [] false [] _ _ n (by simp; omega) (by simpa using hu2) h
                  rw [wtp_snoc] at h2
                  simp only [tyw, List.length_nil, if_true] at h2
                  omega
                · have h2 := parseR_wt l [] false [] _ _ n (by simp; omega) (by simpa using hu2) h
                  rw [wt_snoc, wtp_snoc] at h2
                  simp only [tyw, List.length_nil, if_true, wtp, List.map_nil, List.sum_nil] at h2
                  simp only [wtp] at *
                  omega
          · exact go _ h
theorem parseR_full : ∀ (l seg : List UInt8) (esc : Bool) (ty : List UInt8) (rdn : List Nm.Part) (dn n : Nm.Name), Nm.parseR AnyR AnyE l seg esc ty rdn dn (some n) → (∀ p ∈ rdn, p.1 ≠ []) → Full dn → Full n
  | [], seg, esc, ty, rdn, dn, n, h, h1, h2 => by
    unfold Nm.parseR at h
    split at h
    · cases h
    · rename_i hty
      rcases h with ⟨-, h⟩ | ⟨v, hv, h⟩
      · cases h
      · injection h with h
        subst h
        intro ps hps
        rcases List.mem_append.1 hps with hps | hps
        · exact h2 ps hps
        · simp only [List.mem_singleton] at hps
          subst hps
          refine ⟨by simp, fun p hp => ?_⟩
          rcases List.mem_append.1 hp with hp | hp
          · exact h1 p hp
          · simp only [List.mem_singleton] at hp
            subst hp
            exact hty
  | c :: l, seg, esc, ty, rdn, dn, n, h, h1, h2 => by
    unfold Nm.parseR at h
    split at h
    · exact parseR_full l _ _ _ _ _ n h h1 h2
    · split at h
      · exact parseR_full l _ _ _ _ _ n h h1 h2
      · split at h
        · rcases h with ⟨-, h⟩ | ⟨t, hd, h⟩
          · cases h
          · exact parseR_full l _ _ _ _ _ n h h1 h2
        · split at h
          · split at h
            · cases h
            · rename_i hty
              rcases h with ⟨-, h⟩ | ⟨v, hv, h⟩
              · cases h
              · have hr : ∀ p ∈ rdn ++ [(ty, v)], p.1 ≠ [] := by
                  intro p hp
                  rcases List.mem_append.1 hp with hp | hp
                  · exact h1 p hp
                  · simp only [List.mem_singleton] at hp
                    subst hp
                    exact hty
                split at h
                · exact parseR_full l _ _ _ _ _ n h hr h2
                · refine parseR_full l _ _ _ _ _ n h (by simp) (fun ps hps => ?_)
                  rcases List.mem_append.1 hps with hps | hps
                  · exact h2 ps hps
                  · simp only [List.mem_singleton] at hps
                    subst hps
                    exact ⟨by simp, hr⟩
          · exact parseR_full l _ _ _ _ _ n h h1 h2
theorem dnr_wt {l : List UInt8} {n : Nm.Name} (hl : l.length ≤ 10000) (hu : Utf l) (h : Nm.parseDNR AnyR AnyE l (some n)) : wt n ≤ l.length + 1 ∧ Full n := by
  unfold Nm.parseDNR at h
  split at h
  · injection h with h
    subst h
    exact ⟨by simp [wt], by simp [Full]⟩
  · have h1 := parseR_wt l [] false [] [] [] n (by simpa using hl) (by simpa using hu) h
    simp only [wt, wtp, tyw, List.map_nil, List.sum_nil, if_true, List.length_nil] at h1
    exact ⟨by simp only [wt] at *; omega, parseR_full l _ _ _ _ _ n h (by simp) (by simp [Full])⟩
end Go.Proofs.YtjmahgefijncaaaGreatFmt.Kp

/- Plain: the text that is written is of a sane length. -/
namespace Go.Proofs.YtjmahgefijncaaaGreatFmt.Kp
open Go

theorem perm_sum {f : List UInt8 → Nat} {s t : List (List UInt8)} (h : s.Perm t) : (s.map f).sum = (t.map f).sum := by
  induction h with
  | nil => rfl
  | cons x _ ih => simp [ih]
  | swap x y l => simp; omega
  | trans _ _ h1 h2 => exact h1.trans h2
def w3 (ps : List Nm.Part) : Nat := ((ps.map partText).map fun x => x.length + 1).sum
theorem partText_len (p : Nm.Part) : (partText p).length ≤ 3 * p.1.length + 3 * p.2.length + 1 := by
  have h1 := encGo_len false true (low p.1)
  have h2 := encGo_len true true p.2
  have h3 : (low p.1).length = p.1.length := by simp [low]
  unfold partText
  rw [List.length_append, List.length_cons]
  omega
theorem w3_le : ∀ ps : List Nm.Part, w3 ps + 4 * ps.length ≤ 3 * wtp ps
  | [] => by simp [w3, wtp]
  | p :: ps => by
    have h1 := w3_le ps
    have h2 := partText_len p
    simp only [w3, wtp, List.map_cons, List.sum_cons, List.length_cons] at h1 ⊢
    omega
theorem rtext_len {ps : List Nm.Part} {s : List (List UInt8)} (h : s.Perm (ps.map partText)) : (join 43 s).length ≤ w3 ps := by
  have h1 := join_len 43 s
  rw [perm_sum h] at h1
  exact h1
theorem tt_sum : ∀ {n : Nm.Name} {ts : List (List UInt8)}, TT n ts → Full n → (ts.map fun x => x.length + 1).sum ≤ 3 * wt n
  | _, _, .nil, _ => by simp [wt]
  | ps :: n, _, .cons (t := t) (ts := ts) ⟨s, h1, h2, h3⟩ k, hf => by
    have ih := tt_sum k (fun x hx => hf x (List.mem_cons_of_mem _ hx))
    obtain ⟨f1, f2⟩ := hf ps (List.mem_cons_self ..)
    have hl := rtext_len h1
    rw [← h3] at hl
    have hw := w3_le ps
    have hp := List.length_pos_iff.2 f1
    simp only [wt, List.map_cons, List.sum_cons] at ih ⊢
    omega
theorem tt_text {n : Nm.Name} {ts : List (List UInt8)} (h : TT n ts) (hf : Full n) : (join 44 ts).length ≤ 3 * wt n := Nat.le_trans (join_len 44 ts) (tt_sum h hf)
theorem wtp_mem {ps : List Nm.Part} {p : Nm.Part} (h : p ∈ ps) : p.1.length + p.2.length + 2 ≤ wtp ps := by
  induction ps with
  | nil => cases h
  | cons q ps ih =>
    simp only [wtp, List.map_cons, List.sum_cons] at ih ⊢
    rcases List.mem_cons.1 h with rfl | h
    · omega
    · have := ih h; omega
theorem wtp_len (ps : List Nm.Part) : ps.length ≤ wtp ps := by
  induction ps with
  | nil => simp
  | cons q ps ih => simp only [wtp, List.map_cons, List.sum_cons, List.length_cons] at ih ⊢; omega
theorem wt_mem {n : Nm.Name} {ps : List Nm.Part} (h : ps ∈ n) : wtp ps ≤ wt n := by
  induction n with
  | nil => cases h
  | cons q n ih =>
    simp only [wt, List.map_cons, List.sum_cons] at ih ⊢
    rcases List.mem_cons.1 h with rfl | h
    · omega
    · have := ih h; omega
theorem wt_len {n : Nm.Name} (hf : Full n) : n.length ≤ wt n := by
  induction n with
  | nil => simp
  | cons q n ih =>
    have h1 := ih (fun x hx => hf x (List.mem_cons_of_mem _ hx))
    have h2 := wtp_len q
    have h3 := List.length_pos_iff.2 (hf q (List.mem_cons_self ..)).1
    simp only [wt, List.map_cons, List.sum_cons, List.length_cons] at h1 ⊢; omega
theorem good_of {n : Nm.Name} (hf : Full n) (hw : wt n ≤ 10000) (hu : ∀ ps ∈ n, ∀ p ∈ ps, Utf p.1) : NameGood n := by
  refine ⟨by have := wt_len hf; omega, fun ps hps => ⟨fun p hp => ⟨hu ps hps p hp, ?_, ?_⟩, ?_, fun s hs => ?_⟩, fun ts ht => ?_⟩
  · have := wtp_mem hp; have := wt_mem hps; omega
  · have := wtp_mem hp; have := wt_mem hps; omega
  · have := wtp_len ps; have := wt_mem hps; omega
  · have := rtext_len hs; have := w3_le ps; have := wt_mem hps; omega
  · have := tt_text ht hf; omega
theorem fits_of {n : Nm.Name} (hf : Full n) (hw : wt n ≤ 10000) : NameFits n := by
  refine ⟨by have := wt_len hf; omega, fun ps hps => ⟨by have := wtp_len ps; have := wt_mem hps; omega, fun p hp => ?_⟩⟩
  have := wtp_mem hp
  have := wt_mem hps
  exact ⟨by omega, by omega⟩
end Go.Proofs.YtjmahgefijncaaaGreatFmt.Kp

/- The law FnNameKept, as a call. -/
namespace Go.Proofs.YtjmahgefijncaaaGreatFmt
open Go Go.RowKit Go.Extern.Stop Go.Stop Go.Extern

theorem textK_some (s : ByteArray) (h : 0 < s.size) : s.toList.isEmpty = false := by
  rw [ByteArray.toList_eq]
  cases hd : s.data.toList with
  | nil =>
    have h2 : s.size = s.data.toList.length := by show s.data.size = s.data.toList.length; rw [Array.length_toList]
    rw [hd, List.length_nil] at h2
    omega
  | cons a r => rfl
theorem utf_low {t : List UInt8} (h : Utf t) : Utf (low t) := by
  obtain ⟨rs, h1, h2⟩ := h
  refine ⟨rs.map foldR, fun x hx => ?_, by rw [fold_low rs h1, h2]⟩
  obtain ⟨r, hr, rfl⟩ := List.mem_map.1 hx
  have := h1 r hr
  unfold OkRune at *
  unfold foldR
  split <;> omega

set_option maxRecDepth 100000 in
set_option maxHeartbeats 16000000 in
theorem law_kept (F : Interp) (l : List UInt8) (hlm : l.length ≤ 9223372036854775807) (w : World) (hF : F.told.answers w.tape) (et : TypeId) (eu : Value) (hE : w.cell? ⟨1, 0, none⟩ = some (.iface et eu)) (hN : EnvT w.heap.size w) :
    Calls Tryz.prog 10 #[.string (Nm.bs l)] w fun e w' => e = .returned (.bool true) ∧ Below w.heap.size w w' := by
  have hsz := bs_size l
  have HEV := Lib.hid (fun (w2 : World) (h : Below w.heap.size w w2) => (h.cell (World.block_lt_of_cell? w ⟨1, 0, none⟩ hE)).trans hE)
  have HRD : Hid (∀ (s : List UInt8) w2, Below w.heap.size w w2 → s.length ≤ 900 → Calls Tryz.prog 13 #[.string (Nm.bs s)] w2 fun e w' => (∃ r, Nm.parseDNR AnyR AnyE s r ∧ NameOut w2.heap.size r e w') ∧ Below w2.heap.size w2 w') :=
    Lib.hid (fun s w2 h hs => read_total F AnyR AnyE s hs w2 (by rw [h.tape]; exact hF) (val_total F w2 et eu (HEV.out w2 h) ((hN.below h (Nat.le_refl _)).mono h.size)) _ (HEV.out w2 h))
  have HAW := Lib.hid (fun (w2 : World) (h : Below w.heap.size w w2) => awake_any w2 _ (HEV.out w2 h))
  clear hF hE hN
  by_cases hbig : l.length ≤ 2147483647
  · have t0 : decide ((l.length : Int) > 2147483647) = false := by simp; omega
    by_cases h200 : l.length ≤ 200
    · have t1 : decide ((l.length : Int) > 200) = false := by simp; omega
      have HU := Lib.hid (utf8_any l (by omega) w)
      go_enter Tryz.func10, Tryz.ntmps10
      go_wp2_with fail
      refine HU.out.mono ?_
      rintro e w1 ⟨⟨r, rfl, hr⟩, hb1⟩
      have HB1 := Lib.hid hb1
      have hs1 := hb1.size
      clear hb1 HU
      cases r with
      | false =>
        go_wp2_with fail
        refine (HAW.out w1 HB1.out).mono ?_
        rintro e w2 ⟨rfl, hb2⟩
        have HB2 := Lib.hid (HB1.out.trans (hb2.mono hs1))
        clear hb2
        go_wp2_with fail
        go_ret
        exact ⟨rfl, HB2.out⟩
      | true =>
        have HUT := Lib.hid (hr rfl)
        clear hr
        go_wp2_with fail
        refine (HRD.out l w1 HB1.out (by omega)).mono ?_
        rintro e w2 ⟨⟨r, hr, hno⟩, hb2⟩
        have HB2 := Lib.hid (HB1.out.trans (hb2.mono hs1))
        have hs2 := HB2.out.size
        clear hb2
        cases r with
        | none =>
          obtain ⟨s, rfl, hs0⟩ := hno
          have hne := textK_some s hs0
          clear hs0 hr
          go_wp2_with fail
          refine (HAW.out w2 HB2.out).mono ?_
          rintro e w3 ⟨rfl, hb3⟩
          have HB3 := Lib.hid (HB2.out.trans (hb3.mono hs2))
          clear hb3
          go_wp2_with fail
          go_ret
          exact ⟨rfl, HB3.out⟩
        | some n =>
          obtain ⟨v, rfl, hown⟩ := hno
          obtain ⟨hw, hfull⟩ := Kp.dnr_wt (by omega) HUT.out hr
          have hin := hown.in'
          have HIN := Lib.hid hin
          obtain ⟨o0, c0, rfl, _⟩ := hin
          have HFULL := Lib.hid hfull
          have hfit := Kp.fits_of hfull (by omega)
          have HFIT := Lib.hid hfit
          have hnl := hfit.1
          clear hown hfull hfit hr HUT
          go_wp2_with fail
          go_loopw [35] (fun t35 wr => ∃ i : Nat, t35 = .int .i64 i ∧ i ≤ n.length ∧ Hid (Below w2.heap.size w2 wr ∧ ∀ ps ∈ n.take i, ∀ p ∈ ps, Utf p.1)) (fun t35 _ => n.length - (intOf t35).toNat)
          case atStart => exact ⟨0, rfl, Nat.zero_le _, Lib.hid ⟨Below.refl _ _, by simp⟩⟩
          case round =>
            obtain ⟨i, rfl, hi, HI⟩ := hrel
            have hz3 := HI.out.1.size
            by_cases hend : i = n.length
            · subst hend
              have t2 : decide ((n.length : Int) < (n.length : Int)) = false := by simp
              have hall : ∀ ps ∈ n, ∀ p ∈ ps, Utf p.1 := by
                have := HI.out.2
                rwa [List.take_length] at this
              have HALL := Lib.hid hall
              have HB3 := Lib.hid (HB2.out.trans (HI.out.1.mono hs2))
              have hs3 := HB3.out.size
              have HNT := Lib.hid (name_written _ n wr (HIN.out.stays HI.out.1) (Kp.good_of HFULL.out (by omega) hall) (fun ps hps => by have := (HFIT.out.2 ps hps).1; omega))
              have HV := Lib.hid (HIN.out.stays HI.out.1)
              clear hall HI HIN
              go_wp2_with fail
              refine HNT.out.mono ?_
              rintro e w4 ⟨⟨ts, hts, rfl⟩, hb4⟩
              have htl := Kp.tt_text hts HFULL.out
              obtain ⟨m, hk1, hk2, hk3, hk4, hk5, hk6⟩ := Kp.kept n ts hts HFULL.out
              have hwm : Kp.wt m = Kp.wt n := hk5
              have HB4 := Lib.hid (HB3.out.trans (hb4.mono hs3))
              have hs4 := HB4.out.size
              have HV4 := Lib.hid (HV.out.stays hb4)
              have HK1 := Lib.hid hk1
              have HK2 := Lib.hid hk2
              have HK3 := Lib.hid hk3
              have HG2 : Hid (NameGood m ∧ NameFits m) := Lib.hid ⟨Kp.good_of hk4 (by omega) (fun ps hps p hp => by
                obtain ⟨qs, g1, q, g2, rfl⟩ := hk6 ps hps p hp
                exact utf_low (HALL.out qs g1 q g2)), Kp.fits_of hk4 (by omega)⟩
              clear hb4 hts hk1 hk2 hk3 hk4 hk5 hk6 hwm HV HNT HALL
              go_wp2_with fail
              refine (HRD.out (Kp.join 44 ts) w4 HB4.out (by omega)).mono ?_
              rintro e w5 ⟨⟨r, hr, hno⟩, hb5⟩
              have hrm := HK1.out r hr
              subst hrm
              obtain ⟨v2, rfl, hown2⟩ := hno
              have HB5 := Lib.hid (HB4.out.trans (hb5.mono hs4))
              have hs5 := HB5.out.size
              have HV5 := Lib.hid (HV4.out.stays hb5)
              have HW5 := Lib.hid hown2.in'
              clear hr hown2 hb5 HV4
              have HCMP := Lib.hid (names_cmp _ v2 n m w5 HV5.out HW5.out HFIT.out HG2.out.2)
              go_wp2_with fail
              refine HCMP.out.mono ?_
              rintro e w6 ⟨rfl, hb6⟩
              have HB6 := Lib.hid (HB5.out.trans (hb6.mono hs5))
              have hs6 := HB6.out.size
              have hW6 := HW5.out.stays hb6
              unfold Cmp
              rw [HK2.out]
              generalize NC.namesEq true n m = r1
              generalize NC.above false n m = r2
              generalize NC.above true n m = r3
              have HW7 := Lib.hid (hW6.stays ((Below.refl w6.heap.size w6).alloc (Nat.le_refl _) (.cells #[.bool true, .bool r1, .bool r2, .bool r3] 55 (0, 0))))
              have HB7 := Lib.hid (HB6.out.alloc hs6 (.cells #[.bool true, .bool r1, .bool r2, .bool r3] 55 (0, 0)))
              have hs7 := HB7.out.size
              have HNT2 := Lib.hid (name_written v2 m _ HW7.out HG2.out.1 (fun ps hps => by have := (HG2.out.2.2 ps hps).1; omega))
              clear hb6 hW6 HCMP HV5 HW5
              go_wp2_with fail
              refine HNT2.out.mono ?_
              rintro e w8 ⟨⟨ts2, hts2, rfl⟩, hb8⟩
              have hte := HK3.out ts2 hts2
              subst hte
              have HB8 := Lib.hid (HB7.out.trans (hb8.mono hs7))
              have hs8 := HB8.out.size
              clear hb8 hts2 HNT2
              go_wp2_with fail
              refine (HAW.out w8 HB8.out).mono ?_
              rintro e w9 ⟨rfl, hb9⟩
              have HB9 := Lib.hid (HB8.out.trans (hb9.mono hs8))
              clear hb9
              go_wp2_with fail
              go_ret
              exact ⟨rfl, HB9.out⟩
            · have hlt : i < n.length := by omega
              have t2 : decide ((i : Int) < (n.length : Int)) = true := by simp; omega
              obtain ⟨ps, hp⟩ : ∃ ps, n[i]? = some ps := ⟨_, List.getElem?_eq_getElem hlt⟩
              obtain ⟨o', c', e0, hrd⟩ := HIN.out.stays HI.out.1
              injection e0 with e0 _ e0'
              subst e0
              subst e0'
              obtain ⟨g, off, u, rfl, cr, hpa⟩ := hrd i ps hp
              obtain ⟨ov, cv, rfl, hpc⟩ := hpa
              have HPC := Lib.hid hpc
              have hpfit := HFIT.out.2 ps (List.mem_of_getElem? hp)
              have hpl := hpfit.1
              have HPF := Lib.hid hpfit
              have HTK := Lib.hid (take_snoc hp)
              have HH := Lib.hid HI.out.2
              have HB3 := Lib.hid HI.out.1
              clear hrd hpc hp hend hpfit HI
              go_wp2_with fail
              obtain ⟨wo, rfl⟩ : ∃ wo : World, wo = wr := ⟨_, rfl⟩
              go_loopw [41] (fun t41 wr => ∃ (j : Nat), t41 = .int .i64 j ∧ j ≤ ps.length ∧ Hid (Below wo.heap.size wo wr ∧ ∀ p ∈ ps.take j, Utf p.1)) (fun t41 _ => ps.length - (intOf t41).toNat)
              case atStart => exact ⟨0, rfl, Nat.zero_le _, Lib.hid ⟨Below.refl _ _, by simp⟩⟩
              case round =>
                clear t2
                obtain ⟨j, rfl, hj, HJ⟩ := hrel
                have hz4 := HJ.out.1.size
                by_cases hje : j = ps.length
                · have t3 : decide ((j : Int) < (ps.length : Int)) = false := by simp; omega
                  have hnx : Below w2.heap.size w2 wr ∧ ∀ qs ∈ n.take (i + 1), ∀ p ∈ qs, Utf p.1 := by
                    refine ⟨HB3.out.trans (HJ.out.1.mono hz3), fun qs hqs p hp => ?_⟩
                    rw [HTK.out] at hqs
                    rcases List.mem_append.1 hqs with hqs | hqs
                    · exact HH.out qs hqs p hp
                    · simp only [List.mem_singleton] at hqs
                      subst hqs
                      have := HJ.out.2
                      rw [hje, List.take_length] at this
                      exact this p hp
                  have HNX := Lib.hid hnx
                  clear hnx HJ
                  go_wp2_with fail
                  exact ⟨⟨i + 1, by go_num, by omega, HNX⟩, by simp [intOf]; omega⟩
                · have hjl : j < ps.length := by omega
                  have t3 : decide ((j : Int) < (ps.length : Int)) = true := by simp; omega
                  obtain ⟨p, hp⟩ : ∃ p, ps[j]? = some p := ⟨_, List.getElem?_eq_getElem hjl⟩
                  obtain ⟨gv, offv, rfl, ca, cb⟩ := HPC.out j p hp
                  have cp0 : wr.cell? ⟨gv, offv + j * 2, none⟩ = some (.string (Nm.bs p.1)) := (HJ.out.1.cell (World.block_lt_of_cell? wo ⟨gv, offv + j * 2, none⟩ ca)).trans ca
                  have cp1 : wr.cell? ⟨gv, offv + j * 2 + 1, none⟩ = some (.string (Nm.bs p.2)) := (HJ.out.1.cell (World.block_lt_of_cell? wo ⟨gv, offv + j * 2 + 1, none⟩ cb)).trans cb
                  have HUP := Lib.hid (fun w9 => utf8_any p.1 (by have := (HPF.out.2 p (List.mem_of_getElem? hp)).1; omega) w9)
                  have HBA := Lib.hid (HJ.out.1.alloc hz4 (.cells #[.string (Nm.bs p.1), .string (Nm.bs p.2)] 70 (0, 0)))
                  have HTJ := Lib.hid (take_snoc hp)
                  have HHJ := Lib.hid HJ.out.2
                  have hzA := HBA.out.size
                  clear hp ca cb hje HJ
                  go_wp2_with fail
                  refine (HUP.out _).mono ?_
                  rintro e w5 ⟨⟨r, rfl, hr⟩, hb5⟩
                  have HB5 := Lib.hid (HBA.out.trans (hb5.mono hzA))
                  clear hb5 HBA
                  cases r with
                  | false =>
                    have HBX := Lib.hid (HB2.out.trans ((HB3.out.trans (HB5.out.mono hz3)).mono hs2))
                    have hsX := HBX.out.size
                    go_wp2_with fail
                    refine (HAW.out w5 HBX.out).mono ?_
                    rintro e w6 ⟨rfl, hb6⟩
                    have HB6 := Lib.hid (HBX.out.trans (hb6.mono hsX))
                    clear hb6
                    go_wp2_with fail
                    go_ret
                    exact ⟨rfl, HB6.out⟩
                  | true =>
                    have hup := hr rfl
                    have HNX : Hid (Below wo.heap.size wo w5 ∧ ∀ q ∈ ps.take (j + 1), Utf q.1) := Lib.hid ⟨HB5.out, fun q hq => by
                      rw [HTJ.out] at hq
                      rcases List.mem_append.1 hq with hq | hq
                      · exact HHJ.out q hq
                      · simp only [List.mem_singleton] at hq
                        subst hq
                        exact hup⟩
                    clear hup hr
                    go_wp2_with fail
                    exact ⟨⟨j + 1, by go_num, by omega, HNX⟩, by simp [intOf]; omega⟩
    · have t1 : decide ((l.length : Int) > 200) = true := by simp; omega
      go_enter Tryz.func10, Tryz.ntmps10
      go_wp2_with fail
      refine (HAW.out w (Below.refl _ _)).mono ?_
      rintro e w2 ⟨rfl, hb2⟩
      have HB2 := Lib.hid hb2
      clear hb2
      go_wp2_with fail
      go_ret
      exact ⟨rfl, HB2.out⟩
  · have t0 : decide ((l.length : Int) > 2147483647) = true := by simp; omega
    go_enter Tryz.func10, Tryz.ntmps10
    go_wp2_with fail
    go_ret
    exact ⟨rfl, Below.refl _ _⟩
end Go.Proofs.YtjmahgefijncaaaGreatFmt

