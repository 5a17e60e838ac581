/- The reference's berCount, berIs and the laws' berPlain end, and what they say. -/
import Derived.Test.YtdfehaonngccjaaDoorB10
import Derived.Test.YtdfehaonngccjaaDoorPFnBerFormsx4
import Derived.Test.YtdfehaonngccjaaDoorPFnBerFormsx5
import Derived.Test.YtdfehaonngccjaaDoorPFnBerFormsx6
import Derived.Deep.LoopGhost
import Derived.Maps.AppendAt
import Derived.Deep.RegionWith
set_option linter.unusedVariables false
set_option linter.unusedSimpArgs false
namespace Go.Proofs.YtdfehaonngccjaaDoor
open Go Go.RowKit Go.Proofs.YtdfehaonngccjaaDoorW.PrintWords Go.Proofs.YtdfehaonngccjaaDoorW.PrintLast Go.Proofs.YtdfehaonngccjaaDoorW.PrintMore

/-- From some number of rounds on it is so. -/
def Ev {α : Type} (f : Nat → Option α) (r : α) : Prop := ∃ K, ∀ k, K ≤ k → f k = some r
theorem Ev.succ {α : Type} {f g : Nat → Option α} {r : α} (h : Ev g r) (e : ∀ k, f (k + 1) = g k) : Ev f r := by
  obtain ⟨K, h⟩ := h
  refine ⟨K + 1, fun k hk => ?_⟩
  obtain ⟨k, rfl⟩ : ∃ k', k = k' + 1 := ⟨k - 1, by omega⟩
  rw [e]; exact h k (by omega)
theorem Ev.done {α : Type} {f : Nat → Option α} {r : α} (e : ∀ k, f (k + 1) = some r) : Ev f r := by
  refine ⟨1, fun k hk => ?_⟩
  obtain ⟨k, rfl⟩ : ∃ k', k = k' + 1 := ⟨k - 1, by omega⟩
  exact e k
theorem Ev.two {α β : Type} {f : Nat → Option α} {g : Nat → Option β} {h : Nat → Option α} {r : α} {s : β} (h1 : Ev g s) (h2 : Ev h r) (e : ∀ k, g k = some s → f (k + 1) = h k) : Ev f r := by
  obtain ⟨K1, h1⟩ := h1
  obtain ⟨K2, h2⟩ := h2
  refine ⟨K1 + K2 + 1, fun k hk => ?_⟩
  obtain ⟨k, rfl⟩ : ∃ k', k = k' + 1 := ⟨k - 1, by omega⟩
  rw [e k (h1 k (by omega))]; exact h2 k (by omega)
theorem Ev.at_ {α : Type} {f : Nat → Option α} {r : α} (h : Ev f r) : ∃ k, f k = some r := ⟨h.choose, h.choose_spec _ (Nat.le_refl _)⟩

theorem rd_spS (items : List Ber.Pk) (j : Nat) (hj : j < items.length) : PFnBerForms.rd_T26 (spSs items) (j : Int) = spS items[j] := by
  unfold PFnBerForms.rd_T26
  rw [List.getD_eq_getElem?_getD, Int.toNat_natCast, spSs_get items j hj]; rfl

theorem w_small (n : Int) (h0 : -1000 ≤ n) (h1 : n < 9223372036854775808) : wrap64 n = n := by unfold wrap64; omega
theorem w_sub (m v : Nat) (h : v ≤ m) (h2 : m ≤ 40) : wrap64 ((m : Int) - (v : Int)) = ((m - v : Nat) : Int) := by rw [w_small _ (by omega) (by omega)]; omega
theorem w_add (v r : Nat) (h : v ≤ 40) (h2 : r ≤ 41) : wrap64 ((v : Int) + (r : Int)) = ((v + r : Nat) : Int) := by rw [w_small _ (by omega) (by omega)]; omega
theorem w_succ (i : Nat) (h : i < 9223372036854775807) : wrap64 ((i : Int) + 1) = ((i + 1 : Nat) : Int) := by rw [w_small _ (by omega) (by omega)]; omega
theorem w_deep (dd : Nat) (h : 1 ≤ dd) (h2 : dd ≤ 7) : wrap64 ((dd : Int) - 1 - 1) = ((dd - 1 : Nat) : Int) - 1 := by rw [w_small _ (by omega) (by omega)]; omega

namespace Ber
mutual
def count : Pk → Nat
  | .mk _ _ _ _ items => counts items + 1
def counts : List Pk → Nat
  | [] => 0
  | x :: r => count x + counts r
end
theorem counts_append : ∀ (l m : List Pk), counts (l ++ m) = counts l + counts m
  | [], m => by simp [counts]
  | x :: l, m => by simp [counts, counts_append l m, Nat.add_assoc]
theorem counts_take (l : List Pk) (j : Nat) (hj : j < l.length) : counts (l.take (j + 1)) = counts (l.take j) + count l[j] := by
  rw [List.take_succ_eq_append_getElem hj, counts_append]; simp [counts]
end Ber

theorem count_ev (n : Nat) : ∀ (pk : Ber.Pk), SizeOf.sizeOf pk < n → ∀ m : Nat, m ≤ 40 →
    ∃ r : Nat, Ev (fun k => PFnBerForms.spec_berCount.f k (spS pk).f0 (spS pk).f1 (spS pk).f2 (spS pk).f3 (spS pk).f4 (m : Int)) (r : Int) ∧ 1 ≤ r ∧ r ≤ m + 1 ∧ (r ≤ m → r = Ber.count pk) := by
  induction n with
  | zero => intro pk h; omega
  | succ n ih =>
  rintro ⟨c, b, t, data, items⟩ hsz m hm
  simp only [spS]
  have loop : ∀ (q i v : Nat), i + q = items.length → 1 ≤ v → v ≤ m + 1 → (v ≤ m → v = 1 + Ber.counts (items.take i)) → i + 1 ≤ v →
      ∃ r : Nat, Ev (fun k => PFnBerForms.spec_berCount.l0 k (m : Int) (v : Int) (i : Int) (c : Int) b (t : Int) (bs data) (spSs items)) (r : Int) ∧ 1 ≤ r ∧ r ≤ m + 1 ∧ (r ≤ m → r = 1 + Ber.counts items) := by
    intro q
    induction q with
    | zero =>
      intro i v hi h1 h2 h3 _
      refine ⟨v, Ev.done fun k => ?_, h1, h2, fun h => ?_⟩
      · simp only [PFnBerForms.spec_berCount.l0]
        rw [spSs_length, if_neg (by omega)]
      · rw [h3 h, show i = items.length by omega, List.take_length]
    | succ q ihq =>
      intro i v hi h1 h2 h3 hiv
      have hil : i < items.length := by omega
      by_cases hvm : v ≤ m
      · have hs : SizeOf.sizeOf items[i] < n := by
          have e1 := List.sizeOf_lt_of_mem (List.getElem_mem hil)
          have e2 : SizeOf.sizeOf (Ber.Pk.mk c b t data items) = _ := Ber.Pk.mk.sizeOf_spec c b t data items
          omega
        obtain ⟨r1, e1, l1, u1, k1⟩ := ih items[i] hs (m - v) (by omega)
        obtain ⟨r2, e2, l2, u2, k2⟩ := ihq (i + 1) (v + r1) (by omega) (by omega) (by omega) (by
          intro h
          rw [Ber.counts_take items i hil, h3 hvm, k1 (by omega)]; omega) (by omega)
        refine ⟨r2, e1.two e2 fun k hk => ?_, l2, u2, k2⟩
        have b1 : r1 ≤ 41 := Nat.le_trans u1 (by omega)
        have b2 : i < 9223372036854775807 := Nat.lt_of_lt_of_le (show i < 41 from Nat.lt_of_lt_of_le (Nat.lt_succ_self i) (Nat.le_trans hiv (Nat.le_trans hvm (by omega)))) (by decide)
        have c1 : (i : Int) < (items.length : Int) := Int.ofNat_lt.2 hil
        have c2 : (v : Int) ≤ (m : Int) := Int.ofNat_le.2 hvm
        have c3 : (0 : Int) ≤ (i : Int) := Int.natCast_nonneg i
        simp only [PFnBerForms.spec_berCount.l0]
        rw [spSs_length, if_pos c1, if_pos c2, if_pos c3, rd_spS items i hil, w_sub m v hvm hm, hk, Option.bind_some, w_add v r1 (Nat.le_trans hvm hm) b1, w_succ i b2]
      · refine ⟨v, Ev.done fun k => ?_, h1, h2, fun h => absurd h hvm⟩
        simp only [PFnBerForms.spec_berCount.l0]
        rw [spSs_length, if_pos (by omega), if_neg (by omega)]
  obtain ⟨r, h1, h2, h3, h4⟩ := loop items.length 0 1 (by omega) (by omega) (by omega) (by intro _; simp [Ber.counts]) (by omega)
  exact ⟨r, h1.succ fun k => by simp only [PFnBerForms.spec_berCount.f]; rfl, h2, h3, fun h => by rw [h4 h]; simp only [Ber.count]; omega⟩

def badT (c t : Nat) (data : List UInt8) (dd : Int) : Bool := decide (3 < c ∨ 2147483648 ≤ t ∨ (c = 0 ∧ t = 0) ∨ dd < 0 ∨ 400 < data.length ∨ data.length ≠ 0)
def badF (c t : Nat) (data : List UInt8) (items : List Ber.Pk) (dd : Int) : Bool := decide (3 < c ∨ 2147483648 ≤ t ∨ (c = 0 ∧ t = 0) ∨ dd < 0 ∨ 400 < data.length ∨ 0 < items.length)

theorem is_stepT (k : Nat) (c t : Nat) (data : List UInt8) (items : List Ber.Pk) (dd : Int) :
    PFnBerForms.spec_berIs.f (k + 1) (c : Int) true (t : Int) (bs data) (spSs items) dd = PFnBerForms.spec_berIs.j0 k dd (badT c t data dd) (c : Int) true (t : Int) (bs data) (spSs items) := by
  have hd : data = [] ↔ data.length = 0 := List.length_eq_zero_iff.symm
  have key : ∀ x y : Bool, x = y → PFnBerForms.spec_berIs.j0 k dd x (c : Int) true (t : Int) (bs data) (spSs items) = PFnBerForms.spec_berIs.j0 k dd y (c : Int) true (t : Int) (bs data) (spSs items) := fun x y h => by rw [h]
  simp only [PFnBerForms.spec_berIs.f, bs_size, spSs_length, Lib.toList_data, bs_list, hd, if_true]
  unfold badT
  repeat' split
  all_goals
    refine key _ _ ?_
    first
      | exact (decide_eq_true (by omega)).symm
      | exact (decide_eq_false (by omega)).symm
theorem is_stepF (k : Nat) (c t : Nat) (data : List UInt8) (items : List Ber.Pk) (dd : Int) :
    PFnBerForms.spec_berIs.f (k + 1) (c : Int) false (t : Int) (bs data) (spSs items) dd = PFnBerForms.spec_berIs.j0 k dd (badF c t data items dd) (c : Int) false (t : Int) (bs data) (spSs items) := by
  have key : ∀ x y : Bool, x = y → PFnBerForms.spec_berIs.j0 k dd x (c : Int) false (t : Int) (bs data) (spSs items) = PFnBerForms.spec_berIs.j0 k dd y (c : Int) false (t : Int) (bs data) (spSs items) := fun x y h => by rw [h]
  simp only [PFnBerForms.spec_berIs.f, bs_size, spSs_length, Bool.false_eq_true, if_false]
  unfold badF
  repeat' split
  all_goals
    refine key _ _ ?_
    first
      | exact (decide_eq_true (by omega)).symm
      | exact (decide_eq_false (by omega)).symm
      | exact decide_eq_decide.2 (by omega)

namespace Ber
mutual
/-- What berIs says of a value, at most so deep. -/
def IsOK : Nat → Pk → Prop
  | dd, .mk c b t data items => c ≤ 3 ∧ t < 2 ^ 31 ∧ ¬ (c = 0 ∧ t = 0) ∧ 1 ≤ dd ∧ data.length ≤ 400 ∧ (b = true → data = []) ∧ (b = false → items = []) ∧ IsOKs (dd - 1) items
def IsOKs : Nat → List Pk → Prop
  | _, [] => True
  | dd, x :: r => IsOK dd x ∧ IsOKs dd r
end
theorem IsOKs.append : ∀ {dd : Nat} {l m : List Pk}, IsOKs dd l → IsOKs dd m → IsOKs dd (l ++ m)
  | _, [], _, _, h => h
  | _, _ :: _, _, h, h2 => ⟨h.1, IsOKs.append h.2 h2⟩
end Ber

theorem is_ev (n : Nat) : ∀ (pk : Ber.Pk), SizeOf.sizeOf pk < n → ∀ dd : Nat, dd ≤ 7 → Ber.Typed pk →
    ∃ r : Bool, Ev (fun k => PFnBerForms.spec_berIs.f k (spS pk).f0 (spS pk).f1 (spS pk).f2 (spS pk).f3 (spS pk).f4 ((dd : Int) - 1)) r ∧ (r = true → Ber.IsOK dd pk) := by
  induction n with
  | zero => intro pk h; omega
  | succ n ih =>
  rintro ⟨c, b, t, data, items⟩ hsz dd hdd hty
  simp only [spS]
  have hil : items.length ≤ 9223372036854775807 := hty.2.2.2.1
  have htys := hty.2.2.2.2
  have loop : 1 ≤ dd → ∀ (q i : Nat), i + q = items.length → Ber.IsOKs (dd - 1) (items.take i) →
      ∃ r : Bool, Ev (fun k => PFnBerForms.spec_berIs.l0 k ((dd : Int) - 1) (spSs items) (items.length : Int) (i : Int)) r ∧ (r = true → Ber.IsOKs (dd - 1) items) := by
    intro hd1 q
    induction q with
    | zero =>
      intro i hi h1
      refine ⟨true, Ev.done fun k => ?_, fun _ => ?_⟩
      · simp only [PFnBerForms.spec_berIs.l0]
        rw [if_neg (by omega)]
      · rw [show i = items.length by omega, List.take_length] at h1; exact h1
    | succ q ihq =>
      intro i hi h1
      have hl : i < items.length := by omega
      have hs : SizeOf.sizeOf items[i] < n := by
        have e1 := List.sizeOf_lt_of_mem (List.getElem_mem hl)
        have e2 : SizeOf.sizeOf (Ber.Pk.mk c b t data items) = _ := Ber.Pk.mk.sizeOf_spec c b t data items
        omega
      obtain ⟨r1, e1, k1⟩ := ih items[i] hs (dd - 1) (by omega) (htys.get i hl)
      have c1 : (i : Int) < (items.length : Int) := Int.ofNat_lt.2 hl
      have c3 : (0 : Int) ≤ (i : Int) := Int.natCast_nonneg i
      cases r1 with
      | false =>
        refine ⟨false, ?_, fun h => by cases h⟩
        obtain ⟨K, hK⟩ := e1
        refine ⟨K + 1, fun k hk => ?_⟩
        obtain ⟨k, rfl⟩ : ∃ k', k = k' + 1 := ⟨k - 1, by omega⟩
        have hk2 : PFnBerForms.spec_berIs.f k (spS items[i]).f0 (spS items[i]).f1 (spS items[i]).f2 (spS items[i]).f3 (spS items[i]).f4 (((dd - 1 : Nat) : Int) - 1) = some false := hK k (by omega)
        simp only [PFnBerForms.spec_berIs.l0]
        rw [spSs_length, if_pos c1, if_pos c3, if_pos c1, rd_spS items i hl, w_deep dd hd1 hdd, hk2, Option.bind_some, if_neg (by simp)]
      | true =>
        obtain ⟨r2, e2, k2⟩ := ihq (i + 1) (by omega) (by
          rw [List.take_succ_eq_append_getElem hl]
          exact h1.append ⟨k1 rfl, trivial⟩)
        refine ⟨r2, e1.two e2 fun k hk => ?_, k2⟩
        simp only [PFnBerForms.spec_berIs.l0]
        rw [spSs_length, if_pos c1, if_pos c3, if_pos c1, rd_spS items i hl, w_deep dd hd1 hdd, hk, Option.bind_some, if_pos rfl, w_succ i (Nat.lt_of_lt_of_le hl hil)]
  have fin : ∀ (bad : Bool), (bad = false → c ≤ 3 ∧ t < 2 ^ 31 ∧ ¬ (c = 0 ∧ t = 0) ∧ 1 ≤ dd ∧ data.length ≤ 400 ∧ (b = true → data = []) ∧ (b = false → items = [])) →
      (∀ k, PFnBerForms.spec_berIs.f (k + 1) (c : Int) b (t : Int) (bs data) (spSs items) ((dd : Int) - 1) = PFnBerForms.spec_berIs.j0 k ((dd : Int) - 1) bad (c : Int) b (t : Int) (bs data) (spSs items)) →
      ∃ r : Bool, Ev (fun k => PFnBerForms.spec_berIs.f k (c : Int) b (t : Int) (bs data) (spSs items) ((dd : Int) - 1)) r ∧ (r = true → Ber.IsOK dd (.mk c b t data items)) := by
    intro bad hbad hf
    cases bad with
    | true =>
      refine ⟨false, Ev.succ (g := fun k => PFnBerForms.spec_berIs.j0 k ((dd : Int) - 1) true (c : Int) b (t : Int) (bs data) (spSs items)) (Ev.done fun k => ?_) hf, fun h => by cases h⟩
      simp only [PFnBerForms.spec_berIs.j0, if_true]
    | false =>
      obtain ⟨h1, h2, h3, h4, h5, h6, h7⟩ := hbad rfl
      obtain ⟨r, e, k⟩ := loop h4 items.length 0 (by omega) (by simp [Ber.IsOKs])
      refine ⟨r, Ev.succ (g := fun k => PFnBerForms.spec_berIs.j0 k ((dd : Int) - 1) false (c : Int) b (t : Int) (bs data) (spSs items)) (Ev.succ e fun k => ?_) hf, fun hr => ⟨h1, h2, h3, h4, h5, h6, h7, k hr⟩⟩
      simp only [PFnBerForms.spec_berIs.j0, Bool.false_eq_true, if_false, spSs_length]
      rfl
  cases b with
  | true =>
    refine fin (badT c t data ((dd : Int) - 1)) (fun h => ?_) (fun k => is_stepT k c t data items _)
    have h := of_decide_eq_false h
    exact ⟨by omega, by omega, by omega, by omega, by omega, fun _ => List.length_eq_zero_iff.1 (by omega), fun h => (by cases h)⟩
  | false =>
    refine fin (badF c t data items ((dd : Int) - 1)) (fun h => ?_) (fun k => is_stepF k c t data items _)
    have h := of_decide_eq_false h
    exact ⟨by omega, by omega, by omega, by omega, by omega, fun h => (by cases h), fun _ => List.length_eq_zero_iff.1 (by omega)⟩

/-- BerIs of a value. -/
theorem BerIs_ev (pk : Ber.Pk) (hty : Ber.Typed pk) :
    ∃ (r : Bool) (k : Nat), PFnBerForms.spec_BerIs.f k (spS pk).f0 (spS pk).f1 (spS pk).f2 (spS pk).f3 (spS pk).f4 = some r ∧ (r = true → Ber.IsOK 7 pk ∧ Ber.count pk ≤ 40) := by
  obtain ⟨n, ⟨K1, h1⟩, l1, l2, l3⟩ := count_ev _ pk (Nat.lt_succ_self _) 40 (Nat.le_refl _)
  obtain ⟨r, ⟨K2, h2⟩, l4⟩ := is_ev _ pk (Nat.lt_succ_self _) 7 (Nat.le_refl _) hty
  have h1 := h1 (K1 + K2) (by omega)
  have h2 := h2 (K1 + K2) (by omega)
  simp only [show ((40 : Nat) : Int) = 40 from rfl, show (((7 : Nat) : Int) - 1) = 6 from rfl] at h1 h2
  by_cases hn : n ≤ 40
  · refine ⟨r, K1 + K2, ?_, fun hr => ⟨l4 hr, by rw [← l3 hn]; exact hn⟩⟩
    unfold PFnBerForms.spec_BerIs.f
    rw [h1, Option.bind_some, if_pos (by omega), h2, Option.bind_some]
  · refine ⟨false, K1 + K2, ?_, fun h => by cases h⟩
    unfold PFnBerForms.spec_BerIs.f
    rw [h1, Option.bind_some, if_neg (by omega)]
end Go.Proofs.YtdfehaonngccjaaDoor

/- berPlain: the walk. -/
namespace Go.Proofs.YtdfehaonngccjaaDoor
open Go Go.RowKit Go.Proofs.YtdfehaonngccjaaDoorW.PrintWords Go.Proofs.YtdfehaonngccjaaDoorW.PrintLast Go.Proofs.YtdfehaonngccjaaDoorW.PrintMore

namespace Ber
mutual
/-- Its primitive ones are known. -/
def Known : Pk → Prop
  | .mk c b t _ items => (b = false → known c t = true) ∧ Knowns items
def Knowns : List Pk → Prop
  | [] => True
  | x :: r => Known x ∧ Knowns r
end
theorem Knowns.append : ∀ {l m : List Pk}, Knowns l → Knowns m → Knowns (l ++ m)
  | [], _, _, h => h
  | _ :: _, _, h, h2 => ⟨h.1, Knowns.append h.2 h2⟩
end Ber

def PlainSaid (pk : Ber.Pk) (e : Ending) : Prop := ∃ r : Bool, e = .returned (.bool r) ∧ (r = true → Ber.Known pk)

def PlainHolds (w0 : World) (n : Nat) : Prop :=
  ∀ (c : Nat) (b : Bool) (t : Nat) (data : List UInt8) (items : List Ber.Pk), SizeOf.sizeOf (Ber.Pk.mk c b t data items) < n → ∀ (w : World) (A : Option Addr) (cp : Nat), Below w0.heap.size w0 w →
    Kd.C PFnBerForms.k26 w0 A items.length (spSs items) → items.length ≤ cp →
    Calls Tryd.prog 13 #[.agg #[.int .u8 (c : Int), .bool b, .int .u64 (t : Int), .string (bs data), .slice A items.length cp]] w fun e w' =>
      PlainSaid (.mk c b t data items) e ∧ Below w.heap.size w w'

set_option maxRecDepth 100000 in
set_option maxHeartbeats 16000000 in
theorem plain_step (w0 : World) (n : Nat) (ih : PlainHolds w0 n) : PlainHolds w0 (n + 1) := by
  intro c b t data items hsz w A cp hB hC hcp
  have hbl := bs_size data
  have HB := Lib.hid hB
  have HC := Lib.hid hC
  have HIH := Lib.hid ih
  clear hB hC ih
  go_enter Tryd.func13, Tryd.ntmps13
  cases b with
  | false =>
    by_cases hc : c = 0
    · subst hc
      go_wp2_with fail
      all_goals first
        | (go_ret
           exact ⟨⟨false, rfl, fun h => by cases h⟩, (Below.refl _ w).alloc (Nat.le_refl _) _⟩)
        | ((try rw [show (!(bs data).toList.isEmpty) = false by assumption])
           go_loopg [74] items.length (fun kq v74 wr => ∃ j : Nat, v74 = .int .i64 j ∧ Hid (j + kq = items.length) ∧ Hid (Below w.heap.size w wr) ∧ Hid (Ber.Knowns (items.take j)))
           case atStart => exact ⟨0, by go_num, Lib.hid (by simp), Lib.hid ((Below.refl _ w).alloc (Nat.le_refl _) _), Lib.hid (by simp [Ber.Knowns])⟩
           case round =>
             obtain ⟨j, rfl, HJ, HBW, HKN⟩ := hrel
             by_cases hj : j < items.length
             · have hszj : SizeOf.sizeOf items[j] < n := by
                 have h1 := List.sizeOf_lt_of_mem (List.getElem_mem hj)
                 have h2 : SizeOf.sizeOf (Ber.Pk.mk 0 false t data items) = _ := Ber.Pk.mk.sizeOf_spec 0 false t data items
                 omega
               obtain ⟨ad, A4, c4, e4, hx0, hx1, hx2, hx3, hx4, hl4, hi4⟩ := PFnBerForms.at_T26 HC.out (j : Int) (by omega) (by omega)
               rw [rd_spS items j hj] at hx0 hx1 hx2 hx3 hx4 hl4 hi4
               obtain ⟨x, hx⟩ : ∃ x, x = items[j] := ⟨_, rfl⟩
               rw [← hx] at hx0 hx1 hx2 hx3 hx4 hl4 hi4 hszj
               obtain ⟨c1, b1, t1, d1, i1⟩ := x
               simp only [spS, spSs_length, Int.toNat_natCast] at hx0 hx1 hx2 hx3 hx4 hl4 hi4
               subst e4
               have hBw : Below w0.heap.size w0 wr := HB.out.trans (HBW.out.mono HB.out.size)
               replace hx0 := (hBw.cell (World.block_lt_of_cell? w0 _ hx0)).trans hx0
               replace hx1 := (hBw.cell (World.block_lt_of_cell? w0 _ hx1)).trans hx1
               replace hx2 := (hBw.cell (World.block_lt_of_cell? w0 _ hx2)).trans hx2
               replace hx3 := (hBw.cell (World.block_lt_of_cell? w0 _ hx3)).trans hx3
               replace hx4 := (hBw.cell (World.block_lt_of_cell? w0 _ hx4)).trans hx4
               obtain ⟨W1, hW1⟩ : ∃ W1, W1 = wr.alloc (.cells #[.int .u8 (c1 : Int), .bool b1, .int .u64 (t1 : Int), .string (bs d1), .slice A4 i1.length c4] 26) := ⟨_, rfl⟩
               have hW1s : Below w.heap.size w W1 := by rw [hW1]; exact HBW.out.alloc HBW.out.size _
               have hcall := HIH.out c1 b1 t1 d1 i1 hszj W1 A4 c4 (by rw [hW1]; exact hBw.alloc hBw.size _) hi4 hl4
               have HCALL := Lib.hid hcall
               have HW1 := Lib.hid hW1
               have HW1S := Lib.hid hW1s
               have HX := Lib.hid hx
               have hp1 : ((j : Int) < (items.length : Int)) = True := eq_true (by omega)
               have hp0 : (0 ≤ (j : Int)) = True := eq_true (by omega)
               have hjd : decide ((j : Int) < (items.length : Int)) = true := by simp; omega
               have hjs : j < 9223372036854775807 := by have := Kd.C_max HC.out; omega
               clear hcall hW1s hBw hi4 hx hszj hW1
               go_wp2_with fail
               rw [← HW1.out]
               refine HCALL.out.mono ?_
               rintro e w2 ⟨⟨r, rfl, hr⟩, hb2⟩
               have HB2 := Lib.hid (HW1S.out.trans (hb2.mono HW1S.out.size))
               have HR := Lib.hid hr
               clear hb2 hr
               cases r with
               | false =>
                 go_wp2
                 go_ret
                 exact ⟨⟨false, rfl, fun h => by cases h⟩, HB2.out⟩
               | true =>
                 go_wp2
                 have hgk : ∃ q, gk = q + 1 := ⟨gk - 1, by have := HJ.out; omega⟩
                 obtain ⟨q, rfl⟩ := hgk
                 go_roundg q
                 case measure => exact Nat.lt_succ_self _
                 case rel => exact ⟨j + 1, by go_num, Lib.hid (by have := HJ.out; omega), HB2, Lib.hid (by rw [List.take_succ_eq_append_getElem hj]; exact HKN.out.append ⟨by rw [← HX.out]; first | exact HR.out rfl | exact HR.out trivial, trivial⟩)⟩
             · have hje : j = items.length := by have := HJ.out; omega
               have hjd : decide ((j : Int) < (items.length : Int)) = false := by simp; omega
               have hkn := HKN.out
               rw [hje, List.take_length] at hkn
               have HKN2 := Lib.hid hkn
               have HKK : Hid (false = false → Ber.known 0 t = true) := Lib.hid (fun _ => by unfold Ber.known; simp; omega)
               clear hkn
               go_wp2
               go_ret
               exact ⟨⟨true, rfl, fun _ => ⟨(by intro h; first | exact HKK.out h | exact HKK.out trivial | (cases h)), HKN2.out⟩⟩, HBW.out⟩)
    · skip
      go_wp2_with fail
      all_goals first
        | (go_ret
           exact ⟨⟨false, rfl, fun h => by cases h⟩, (Below.refl _ w).alloc (Nat.le_refl _) _⟩)
        | ((try rw [show (!(bs data).toList.isEmpty) = false by assumption])
           go_loopg [74] items.length (fun kq v74 wr => ∃ j : Nat, v74 = .int .i64 j ∧ Hid (j + kq = items.length) ∧ Hid (Below w.heap.size w wr) ∧ Hid (Ber.Knowns (items.take j)))
           case atStart => exact ⟨0, by go_num, Lib.hid (by simp), Lib.hid ((Below.refl _ w).alloc (Nat.le_refl _) _), Lib.hid (by simp [Ber.Knowns])⟩
           case round =>
             obtain ⟨j, rfl, HJ, HBW, HKN⟩ := hrel
             by_cases hj : j < items.length
             · have hszj : SizeOf.sizeOf items[j] < n := by
                 have h1 := List.sizeOf_lt_of_mem (List.getElem_mem hj)
                 have h2 : SizeOf.sizeOf (Ber.Pk.mk c false t data items) = _ := Ber.Pk.mk.sizeOf_spec c false t data items
                 omega
               obtain ⟨ad, A4, c4, e4, hx0, hx1, hx2, hx3, hx4, hl4, hi4⟩ := PFnBerForms.at_T26 HC.out (j : Int) (by omega) (by omega)
               rw [rd_spS items j hj] at hx0 hx1 hx2 hx3 hx4 hl4 hi4
               obtain ⟨x, hx⟩ : ∃ x, x = items[j] := ⟨_, rfl⟩
               rw [← hx] at hx0 hx1 hx2 hx3 hx4 hl4 hi4 hszj
               obtain ⟨c1, b1, t1, d1, i1⟩ := x
               simp only [spS, spSs_length, Int.toNat_natCast] at hx0 hx1 hx2 hx3 hx4 hl4 hi4
               subst e4
               have hBw : Below w0.heap.size w0 wr := HB.out.trans (HBW.out.mono HB.out.size)
               replace hx0 := (hBw.cell (World.block_lt_of_cell? w0 _ hx0)).trans hx0
               replace hx1 := (hBw.cell (World.block_lt_of_cell? w0 _ hx1)).trans hx1
               replace hx2 := (hBw.cell (World.block_lt_of_cell? w0 _ hx2)).trans hx2
               replace hx3 := (hBw.cell (World.block_lt_of_cell? w0 _ hx3)).trans hx3
               replace hx4 := (hBw.cell (World.block_lt_of_cell? w0 _ hx4)).trans hx4
               obtain ⟨W1, hW1⟩ : ∃ W1, W1 = wr.alloc (.cells #[.int .u8 (c1 : Int), .bool b1, .int .u64 (t1 : Int), .string (bs d1), .slice A4 i1.length c4] 26) := ⟨_, rfl⟩
               have hW1s : Below w.heap.size w W1 := by rw [hW1]; exact HBW.out.alloc HBW.out.size _
               have hcall := HIH.out c1 b1 t1 d1 i1 hszj W1 A4 c4 (by rw [hW1]; exact hBw.alloc hBw.size _) hi4 hl4
               have HCALL := Lib.hid hcall
               have HW1 := Lib.hid hW1
               have HW1S := Lib.hid hW1s
               have HX := Lib.hid hx
               have hp1 : ((j : Int) < (items.length : Int)) = True := eq_true (by omega)
               have hp0 : (0 ≤ (j : Int)) = True := eq_true (by omega)
               have hjd : decide ((j : Int) < (items.length : Int)) = true := by simp; omega
               have hjs : j < 9223372036854775807 := by have := Kd.C_max HC.out; omega
               clear hcall hW1s hBw hi4 hx hszj hW1
               go_wp2_with fail
               rw [← HW1.out]
               refine HCALL.out.mono ?_
               rintro e w2 ⟨⟨r, rfl, hr⟩, hb2⟩
               have HB2 := Lib.hid (HW1S.out.trans (hb2.mono HW1S.out.size))
               have HR := Lib.hid hr
               clear hb2 hr
               cases r with
               | false =>
                 go_wp2
                 go_ret
                 exact ⟨⟨false, rfl, fun h => by cases h⟩, HB2.out⟩
               | true =>
                 go_wp2
                 have hgk : ∃ q, gk = q + 1 := ⟨gk - 1, by have := HJ.out; omega⟩
                 obtain ⟨q, rfl⟩ := hgk
                 go_roundg q
                 case measure => exact Nat.lt_succ_self _
                 case rel => exact ⟨j + 1, by go_num, Lib.hid (by have := HJ.out; omega), HB2, Lib.hid (by rw [List.take_succ_eq_append_getElem hj]; exact HKN.out.append ⟨by rw [← HX.out]; first | exact HR.out rfl | exact HR.out trivial, trivial⟩)⟩
             · have hje : j = items.length := by have := HJ.out; omega
               have hjd : decide ((j : Int) < (items.length : Int)) = false := by simp; omega
               have hkn := HKN.out
               rw [hje, List.take_length] at hkn
               have HKN2 := Lib.hid hkn
               have HKK : Hid (false = false → Ber.known c t = true) := Lib.hid (fun _ => by unfold Ber.known; simp [hc])
               clear hkn
               go_wp2
               go_ret
               exact ⟨⟨true, rfl, fun _ => ⟨(by intro h; first | exact HKK.out h | exact HKK.out trivial | (cases h)), HKN2.out⟩⟩, HBW.out⟩)
  | true =>
    by_cases hc : c = 0
    · subst hc
      go_wp2_with fail
      all_goals first
        | (go_ret
           exact ⟨⟨false, rfl, fun h => by cases h⟩, (Below.refl _ w).alloc (Nat.le_refl _) _⟩)
        | ((try rw [show (!(bs data).toList.isEmpty) = false by assumption])
           go_loopg [74] items.length (fun kq v74 wr => ∃ j : Nat, v74 = .int .i64 j ∧ Hid (j + kq = items.length) ∧ Hid (Below w.heap.size w wr) ∧ Hid (Ber.Knowns (items.take j)))
           case atStart => exact ⟨0, by go_num, Lib.hid (by simp), Lib.hid ((Below.refl _ w).alloc (Nat.le_refl _) _), Lib.hid (by simp [Ber.Knowns])⟩
           case round =>
             obtain ⟨j, rfl, HJ, HBW, HKN⟩ := hrel
             by_cases hj : j < items.length
             · have hszj : SizeOf.sizeOf items[j] < n := by
                 have h1 := List.sizeOf_lt_of_mem (List.getElem_mem hj)
                 have h2 : SizeOf.sizeOf (Ber.Pk.mk 0 true t data items) = _ := Ber.Pk.mk.sizeOf_spec 0 true t data items
                 omega
               obtain ⟨ad, A4, c4, e4, hx0, hx1, hx2, hx3, hx4, hl4, hi4⟩ := PFnBerForms.at_T26 HC.out (j : Int) (by omega) (by omega)
               rw [rd_spS items j hj] at hx0 hx1 hx2 hx3 hx4 hl4 hi4
               obtain ⟨x, hx⟩ : ∃ x, x = items[j] := ⟨_, rfl⟩
               rw [← hx] at hx0 hx1 hx2 hx3 hx4 hl4 hi4 hszj
               obtain ⟨c1, b1, t1, d1, i1⟩ := x
               simp only [spS, spSs_length, Int.toNat_natCast] at hx0 hx1 hx2 hx3 hx4 hl4 hi4
               subst e4
               have hBw : Below w0.heap.size w0 wr := HB.out.trans (HBW.out.mono HB.out.size)
               replace hx0 := (hBw.cell (World.block_lt_of_cell? w0 _ hx0)).trans hx0
               replace hx1 := (hBw.cell (World.block_lt_of_cell? w0 _ hx1)).trans hx1
               replace hx2 := (hBw.cell (World.block_lt_of_cell? w0 _ hx2)).trans hx2
               replace hx3 := (hBw.cell (World.block_lt_of_cell? w0 _ hx3)).trans hx3
               replace hx4 := (hBw.cell (World.block_lt_of_cell? w0 _ hx4)).trans hx4
               obtain ⟨W1, hW1⟩ : ∃ W1, W1 = wr.alloc (.cells #[.int .u8 (c1 : Int), .bool b1, .int .u64 (t1 : Int), .string (bs d1), .slice A4 i1.length c4] 26) := ⟨_, rfl⟩
               have hW1s : Below w.heap.size w W1 := by rw [hW1]; exact HBW.out.alloc HBW.out.size _
               have hcall := HIH.out c1 b1 t1 d1 i1 hszj W1 A4 c4 (by rw [hW1]; exact hBw.alloc hBw.size _) hi4 hl4
               have HCALL := Lib.hid hcall
               have HW1 := Lib.hid hW1
               have HW1S := Lib.hid hW1s
               have HX := Lib.hid hx
               have hp1 : ((j : Int) < (items.length : Int)) = True := eq_true (by omega)
               have hp0 : (0 ≤ (j : Int)) = True := eq_true (by omega)
               have hjd : decide ((j : Int) < (items.length : Int)) = true := by simp; omega
               have hjs : j < 9223372036854775807 := by have := Kd.C_max HC.out; omega
               clear hcall hW1s hBw hi4 hx hszj hW1
               go_wp2_with fail
               rw [← HW1.out]
               refine HCALL.out.mono ?_
               rintro e w2 ⟨⟨r, rfl, hr⟩, hb2⟩
               have HB2 := Lib.hid (HW1S.out.trans (hb2.mono HW1S.out.size))
               have HR := Lib.hid hr
               clear hb2 hr
               cases r with
               | false =>
                 go_wp2
                 go_ret
                 exact ⟨⟨false, rfl, fun h => by cases h⟩, HB2.out⟩
               | true =>
                 go_wp2
                 have hgk : ∃ q, gk = q + 1 := ⟨gk - 1, by have := HJ.out; omega⟩
                 obtain ⟨q, rfl⟩ := hgk
                 go_roundg q
                 case measure => exact Nat.lt_succ_self _
                 case rel => exact ⟨j + 1, by go_num, Lib.hid (by have := HJ.out; omega), HB2, Lib.hid (by rw [List.take_succ_eq_append_getElem hj]; exact HKN.out.append ⟨by rw [← HX.out]; first | exact HR.out rfl | exact HR.out trivial, trivial⟩)⟩
             · have hje : j = items.length := by have := HJ.out; omega
               have hjd : decide ((j : Int) < (items.length : Int)) = false := by simp; omega
               have hkn := HKN.out
               rw [hje, List.take_length] at hkn
               have HKN2 := Lib.hid hkn
               have HKK : Hid (true = false → Ber.known 0 t = true) := Lib.hid (fun h => by cases h)
               clear hkn
               go_wp2
               go_ret
               exact ⟨⟨true, rfl, fun _ => ⟨(by intro h; first | exact HKK.out h | exact HKK.out trivial | (cases h)), HKN2.out⟩⟩, HBW.out⟩)
    · skip
      go_wp2_with fail
      all_goals first
        | (go_ret
           exact ⟨⟨false, rfl, fun h => by cases h⟩, (Below.refl _ w).alloc (Nat.le_refl _) _⟩)
        | ((try rw [show (!(bs data).toList.isEmpty) = false by assumption])
           go_loopg [74] items.length (fun kq v74 wr => ∃ j : Nat, v74 = .int .i64 j ∧ Hid (j + kq = items.length) ∧ Hid (Below w.heap.size w wr) ∧ Hid (Ber.Knowns (items.take j)))
           case atStart => exact ⟨0, by go_num, Lib.hid (by simp), Lib.hid ((Below.refl _ w).alloc (Nat.le_refl _) _), Lib.hid (by simp [Ber.Knowns])⟩
           case round =>
             obtain ⟨j, rfl, HJ, HBW, HKN⟩ := hrel
             by_cases hj : j < items.length
             · have hszj : SizeOf.sizeOf items[j] < n := by
                 have h1 := List.sizeOf_lt_of_mem (List.getElem_mem hj)
                 have h2 : SizeOf.sizeOf (Ber.Pk.mk c true t data items) = _ := Ber.Pk.mk.sizeOf_spec c true t data items
                 omega
               obtain ⟨ad, A4, c4, e4, hx0, hx1, hx2, hx3, hx4, hl4, hi4⟩ := PFnBerForms.at_T26 HC.out (j : Int) (by omega) (by omega)
               rw [rd_spS items j hj] at hx0 hx1 hx2 hx3 hx4 hl4 hi4
               obtain ⟨x, hx⟩ : ∃ x, x = items[j] := ⟨_, rfl⟩
               rw [← hx] at hx0 hx1 hx2 hx3 hx4 hl4 hi4 hszj
               obtain ⟨c1, b1, t1, d1, i1⟩ := x
               simp only [spS, spSs_length, Int.toNat_natCast] at hx0 hx1 hx2 hx3 hx4 hl4 hi4
               subst e4
               have hBw : Below w0.heap.size w0 wr := HB.out.trans (HBW.out.mono HB.out.size)
               replace hx0 := (hBw.cell (World.block_lt_of_cell? w0 _ hx0)).trans hx0
               replace hx1 := (hBw.cell (World.block_lt_of_cell? w0 _ hx1)).trans hx1
               replace hx2 := (hBw.cell (World.block_lt_of_cell? w0 _ hx2)).trans hx2
               replace hx3 := (hBw.cell (World.block_lt_of_cell? w0 _ hx3)).trans hx3
               replace hx4 := (hBw.cell (World.block_lt_of_cell? w0 _ hx4)).trans hx4
               obtain ⟨W1, hW1⟩ : ∃ W1, W1 = wr.alloc (.cells #[.int .u8 (c1 : Int), .bool b1, .int .u64 (t1 : Int), .string (bs d1), .slice A4 i1.length c4] 26) := ⟨_, rfl⟩
               have hW1s : Below w.heap.size w W1 := by rw [hW1]; exact HBW.out.alloc HBW.out.size _
               have hcall := HIH.out c1 b1 t1 d1 i1 hszj W1 A4 c4 (by rw [hW1]; exact hBw.alloc hBw.size _) hi4 hl4
               have HCALL := Lib.hid hcall
               have HW1 := Lib.hid hW1
               have HW1S := Lib.hid hW1s
               have HX := Lib.hid hx
               have hp1 : ((j : Int) < (items.length : Int)) = True := eq_true (by omega)
               have hp0 : (0 ≤ (j : Int)) = True := eq_true (by omega)
               have hjd : decide ((j : Int) < (items.length : Int)) = true := by simp; omega
               have hjs : j < 9223372036854775807 := by have := Kd.C_max HC.out; omega
               clear hcall hW1s hBw hi4 hx hszj hW1
               go_wp2_with fail
               rw [← HW1.out]
               refine HCALL.out.mono ?_
               rintro e w2 ⟨⟨r, rfl, hr⟩, hb2⟩
               have HB2 := Lib.hid (HW1S.out.trans (hb2.mono HW1S.out.size))
               have HR := Lib.hid hr
               clear hb2 hr
               cases r with
               | false =>
                 go_wp2
                 go_ret
                 exact ⟨⟨false, rfl, fun h => by cases h⟩, HB2.out⟩
               | true =>
                 go_wp2
                 have hgk : ∃ q, gk = q + 1 := ⟨gk - 1, by have := HJ.out; omega⟩
                 obtain ⟨q, rfl⟩ := hgk
                 go_roundg q
                 case measure => exact Nat.lt_succ_self _
                 case rel => exact ⟨j + 1, by go_num, Lib.hid (by have := HJ.out; omega), HB2, Lib.hid (by rw [List.take_succ_eq_append_getElem hj]; exact HKN.out.append ⟨by rw [← HX.out]; first | exact HR.out rfl | exact HR.out trivial, trivial⟩)⟩
             · have hje : j = items.length := by have := HJ.out; omega
               have hjd : decide ((j : Int) < (items.length : Int)) = false := by simp; omega
               have hkn := HKN.out
               rw [hje, List.take_length] at hkn
               have HKN2 := Lib.hid hkn
               have HKK : Hid (true = false → Ber.known c t = true) := Lib.hid (fun h => by cases h)
               clear hkn
               go_wp2
               go_ret
               exact ⟨⟨true, rfl, fun _ => ⟨(by intro h; first | exact HKK.out h | exact HKK.out trivial | (cases h)), HKN2.out⟩⟩, HBW.out⟩)

theorem plain_all (w0 : World) : ∀ n, PlainHolds w0 n
  | 0 => fun c b t data items h => absurd h (Nat.not_lt_zero _)
  | n + 1 => plain_step w0 n (plain_all w0 n)
end Go.Proofs.YtdfehaonngccjaaDoor

/- How long forms are. -/
namespace Go.Proofs.YtdfehaonngccjaaDoor
namespace Ber

theorem tagMore_le : ∀ (g f m : Nat), m < 128 ^ g → (tagMore f m).length ≤ g
  | g, 0, m, _ => by simp [tagMore]
  | 0, f + 1, m, h => by
    have : m = 0 := by simpa using h
    simp [tagMore, this]
  | g + 1, f + 1, m, h => by
    simp only [tagMore]
    split
    · simp
    · have := tagMore_le g f (m / 128) (by rw [Nat.pow_succ] at h; omega)
      simp
      omega
theorem ident_le (c : Nat) (b : Bool) (t : Nat) (ht : t < 2 ^ 31) : (identBytes c b t).length ≤ 6 := by
  unfold identBytes
  split
  · simp
  · have h := tagMore_le 4 10 (t / 128) (by omega)
    have h2 : (tagBytes t).length ≤ 5 := by
      unfold tagBytes
      split
      · simp
      · rw [List.length_append, List.length_singleton]; omega
    rw [List.length_cons]
    omega
theorem lenForm_len (n m : Nat) (hn : n < 256 ^ 8) (hm : m ≤ 3) : (lenForm n m).length ≤ 11 := by
  unfold lenForm
  split
  · simp
  · have := digits_length n hn
    simp
    omega
theorem formText_le (c : Nat) (b : Bool) (t w : Nat) (body : List UInt8) (ht : t < 2 ^ 31) (hl : body.length < 256 ^ 8) : (formText c b t w body).length ≤ body.length + 17 := by
  have h1 := ident_le c b t ht
  have h2 := lenForm_len body.length (w % 4) hl (by omega)
  unfold formText
  split
  · simp; omega
  · simp; omega

mutual
theorem forms_size (ch : List UInt8) : ∀ (x : Pk) (a dd : Nat), IsOK dd x → count x ≤ 40 → (forms ch x a).1.length ≤ 500 * count x ∧ (forms ch x a).2 ≤ a + count x
  | .mk c b t data items, a, dd, hx, hc => by
    obtain ⟨h1, h2, h3, h4, h5, h6, h7, h8⟩ := hx
    simp only [forms, count] at hc ⊢
    have hn : next ch a ≤ a + 1 := by unfold next; split <;> omega
    have hs := formsL_size ch items data (next ch a) (dd - 1) h8 (by omega)
    have ht := formText_le c b t (way ch a) (formsL ch items data (next ch a)).1 h2 (by omega)
    omega
theorem formsL_size (ch : List UInt8) : ∀ (l : List Pk) (acc : List UInt8) (a dd : Nat), IsOKs dd l → counts l ≤ 40 → (formsL ch l acc a).1.length ≤ acc.length + 500 * counts l ∧ (formsL ch l acc a).2 ≤ a + counts l
  | [], acc, a, dd, _, _ => by simp [formsL, counts]
  | x :: r, acc, a, dd, hx, hc => by
    simp only [counts] at hc ⊢
    simp only [formsL]
    have h1 := forms_size ch x a dd hx.1 (by omega)
    have h2 := formsL_size ch r (acc ++ (forms ch x a).1) (forms ch x a).2 dd hx.2 (by omega)
    simp only [List.length_append] at h2
    omega
end

mutual
theorem fine_of : ∀ (x : Pk) (dd : Nat), IsOK dd x → Known x → Fine x ∧ depth x ≤ dd
  | .mk c b t data items, dd, hx, hk => by
    obtain ⟨h1, h2, h3, h4, h5, h6, h7, h8⟩ := hx
    have h9 := fines_of items (dd - 1) h8 hk.2
    refine ⟨⟨by omega, h2, h3, fun hb => ⟨h7 hb, hk.1 hb, by omega⟩, h6, h9.1⟩, ?_⟩
    simp only [depth]
    omega
theorem fines_of : ∀ (l : List Pk) (dd : Nat), IsOKs dd l → Knowns l → Fines l ∧ depths l ≤ dd
  | [], dd, _, _ => ⟨trivial, Nat.zero_le _⟩
  | x :: r, dd, hx, hk => by
    have h1 := fine_of x dd hx.1 hk.1
    have h2 := fines_of r dd hx.2 hk.2
    refine ⟨⟨h1.1, h2.1⟩, ?_⟩
    simp only [depths]
    omega
end
mutual
theorem ok_of : ∀ (x : Pk) (dd : Nat), IsOK dd x → OK x
  | .mk c b t data items, dd, hx => ⟨by have := hx.1; omega, by have := hx.2.1; omega, oks_of items (dd - 1) hx.2.2.2.2.2.2.2⟩
theorem oks_of : ∀ (l : List Pk) (dd : Nat), IsOKs dd l → OKs l
  | [], _, _ => trivial
  | x :: r, dd, hx => ⟨ok_of x dd hx.1, oks_of r dd hx.2⟩
end

/-- A value that may be written in forms: what is written is read. -/
theorem read_form (ch : List UInt8) (x : Pk) (rest : List UInt8) (hx : IsOK 7 x) (hk : Known x) (hc : count x ≤ 40) :
    readP (need x) 0 ((forms ch x 0).1 ++ rest) = .ok x rest ∧ (forms ch x 0).1.length ≤ 20000 ∧ 1 ≤ (forms ch x 0).1.length ∧ (forms ch x 0).2 ≤ 40 := by
  have h1 := forms_size ch x 0 7 hx hc
  have h2 := fine_of x 7 hx hk
  exact ⟨read_forms ch x 0 0 (need x) rest h2.1 (by omega) (by omega) (Nat.le_refl _), by omega, forms_pos ch x 0, by omega⟩
end Ber
end Go.Proofs.YtdfehaonngccjaaDoor

/- BerForms and BerText. -/
namespace Go.Proofs.YtdfehaonngccjaaDoor
open Go Go.RowKit Go.Proofs.YtdfehaonngccjaaDoorW.PrintWords Go.Proofs.YtdfehaonngccjaaDoorW.PrintLast Go.Proofs.YtdfehaonngccjaaDoorW.PrintMore

theorem forms_nil (w0 : World) (Ac : Option Addr) (cc : Nat) (hch : Kd.C (Kd.int .u8) w0 Ac ([] : List UInt8).length (([] : List UInt8).map fun x => (x.toNat : Int))) : ∀ n, FormsHolds w0 [] Ac cc n
  | 0 => fun c b t data items h => absurd h (Nat.not_lt_zero _)
  | n + 1 => forms_none w0 [] rfl Ac cc hch (by simp) n (forms_nil w0 Ac cc hch n)

set_option maxRecDepth 100000 in
set_option maxHeartbeats 4000000 in
theorem berForms_call (w : World) (ch : List UInt8) (Ac : Option Addr) (cc : Nat) (hf : ∀ n, FormsHolds w ch Ac cc n) (c : Nat) (b : Bool) (t : Nat) (data : List UInt8) (items : List Ber.Pk) (hok : Ber.OK (.mk c b t data items)) (A : Option Addr) (cp : Nat) (T : List UInt8) (a2 : Nat)
    (hT : Ber.forms ch (.mk c b t data items) 0 = (T, a2)) (ha2 : a2 ≤ 1000000000) (hTl : T.length ≤ 1000000000) (hC : Kd.C PFnBerForms.k26 w A items.length (spSs items)) (hcp : items.length ≤ cp) :
    Calls Tryd.prog 14 #[.agg #[.int .u8 (c : Int), .bool b, .int .u64 (t : Int), .string (bs data), .slice A items.length cp], .slice Ac ch.length cc] w fun e w' => e = .returned (.string (bs T)) ∧ Below w.heap.size w w' := by
  obtain ⟨W2, hW2⟩ : ∃ W2, W2 = (w.alloc (.cells #[.int .u8 (c : Int), .bool b, .int .u64 (t : Int), .string (bs data), .slice A items.length cp] 26)).alloc (.cells #[.int .i64 0] 3) := ⟨_, rfl⟩
  have hB : Below w.heap.size w W2 := by rw [hW2]; exact ((Below.refl _ w).alloc (Nat.le_refl _) _).alloc (by simp) _
  have hs : W2.heap.size = w.heap.size + 2 := by rw [hW2]; simp
  have hg : W2.heap[w.heap.size + 1]? = some (.cells #[.int .i64 ((0 : Nat) : Int)] 3 (0, 0)) := by
    rw [hW2]
    exact alloc2_new w _ _
  have hcall := hf _ c b t data items (Nat.lt_succ_self _) hok W2 (w.heap.size + 1) 0 A cp T a2 hT hB (by omega) hg ha2 hTl hC hcp
  have HCALL := Lib.hid hcall
  have HW2 := Lib.hid hW2
  have HS := Lib.hid hs
  have HB := Lib.hid hB
  clear hcall hs hg hB hT hC hf hW2
  go_enter Tryd.func14, Tryd.ntmps14
  go_wp2_with fail
  rw [← HW2.out]
  refine HCALL.out.mono ?_
  rintro e w2 ⟨rfl, -, hk⟩
  have HK := Lib.hid hk
  clear hk
  go_wp2
  go_ret
  exact ⟨rfl, HB.out.trans ((HK.out.mono (by have := HS.out; omega)).toBelow (by omega))⟩

set_option maxRecDepth 100000 in
set_option maxHeartbeats 4000000 in
theorem berText_call (w : World) (c : Nat) (b : Bool) (t : Nat) (data : List UInt8) (items : List Ber.Pk) (hok : Ber.OK (.mk c b t data items)) (A : Option Addr) (cp : Nat) (T : List UInt8) (a2 : Nat)
    (hT : Ber.forms [] (.mk c b t data items) 0 = (T, a2)) (ha2 : a2 ≤ 1000000000) (hTl : T.length ≤ 1000000000) (hC : Kd.C PFnBerForms.k26 w A items.length (spSs items)) (hcp : items.length ≤ cp) :
    Calls Tryd.prog 17 #[.agg #[.int .u8 (c : Int), .bool b, .int .u64 (t : Int), .string (bs data), .slice A items.length cp]] w fun e w' => e = .returned (.string (bs T)) ∧ Below w.heap.size w w' := by
  obtain ⟨W2, hW2⟩ : ∃ W2, W2 = w.alloc (.cells #[.int .u8 (c : Int), .bool b, .int .u64 (t : Int), .string (bs data), .slice A items.length cp] 26) := ⟨_, rfl⟩
  have hB : Below w.heap.size w W2 := by rw [hW2]; exact (Below.refl _ w).alloc (Nat.le_refl _) _
  have hcall := berForms_call W2 [] none 0 (forms_nil W2 none 0 (Kd.C_nil _ _)) c b t data items hok A cp T a2 hT ha2 hTl (Kd.C_below hC hB) hcp
  have HCALL := Lib.hid hcall
  have HW2 := Lib.hid hW2
  have HB := Lib.hid hB
  clear hcall hB hT hC hW2
  go_enter Tryd.func17, Tryd.ntmps17
  go_wp2_with fail
  rw [← HW2.out]
  refine HCALL.out.mono ?_
  rintro e w2 ⟨rfl, hk⟩
  have HK := Lib.hid hk
  clear hk
  go_wp2
  go_ret
  exact ⟨rfl, HB.out.trans (HK.out.mono HB.out.size)⟩
end Go.Proofs.YtdfehaonngccjaaDoor

/- BerForms of a value, BerIs of any: on a packet. -/
namespace Go.Proofs.YtdfehaonngccjaaDoor
open Go Go.RowKit Go.Proofs.YtdfehaonngccjaaDoorW.PrintWords Go.Proofs.YtdfehaonngccjaaDoorW.PrintLast Go.Proofs.YtdfehaonngccjaaDoorW.PrintMore

theorem forms_all (w0 : World) (ch : List UInt8) (Ac : Option Addr) (cc : Nat) (hch : Kd.C (Kd.int .u8) w0 Ac ch.length (ch.map fun x => (x.toNat : Int))) (hcl : ch.length ≤ 1000000) : ∀ n, FormsHolds w0 ch Ac cc n
  | 0 => fun c b t data items h => absurd h (Nat.not_lt_zero _)
  | n + 1 => by
    by_cases h : ch = []
    · exact forms_none w0 ch h Ac cc hch hcl n (forms_all w0 ch Ac cc hch hcl n)
    · exact forms_some w0 ch h Ac cc hch hcl n (forms_all w0 ch Ac cc hch hcl n)

/-- BerForms of a value that is right, and BerIs, berPlain of any: on a packet. -/
theorem berIs_call (w : World) (c : Nat) (b : Bool) (t : Nat) (data : List UInt8) (items : List Ber.Pk) (hty : Ber.Typed (.mk c b t data items)) (A : Option Addr) (cp : Nat) (hC : Kd.C PFnBerForms.k26 w A items.length (spSs items)) (hcp : items.length ≤ cp) :
    ∃ r : Bool, (r = true → Ber.IsOK 7 (.mk c b t data items) ∧ Ber.count (.mk c b t data items) ≤ 40) ∧
      Calls Tryd.prog 12 #[.agg #[.int .u8 (c : Int), .bool b, .int .u64 (t : Int), .string (bs data), .slice A items.length cp]] w fun e w' => e = .returned (.bool r) ∧ Below w.heap.size w w' := by
  obtain ⟨r, k, h1, h2⟩ := BerIs_ev _ hty
  refine ⟨r, h2, ?_⟩
  simp only [spS] at h1
  have := PFnBerForms.spec_BerIs.calls k (c : Int) b (t : Int) (bs data) A cp (spSs items) r w (by rw [spSs_length]; exact hC) (by rw [spSs_length]; exact hcp) h1
  rw [spSs_length] at this
  exact this
end Go.Proofs.YtdfehaonngccjaaDoor

/- encodeLength. -/
namespace Go.Proofs.YtdfehaonngccjaaDoor
open Go Go.RowKit

/-- x has m bytes. -/
structure Bytes8 (x m : Nat) : Prop where
  lo : 1 ≤ m
  hi : m ≤ 8
  lt : x < 256 ^ m
  ge : m = 1 ∨ 256 ^ (m - 1) ≤ x

theorem bytes8_ex (x : Nat) (h : x < 2 ^ 64) : ∃ m, Bytes8 x m := by
  have : ∀ m, m ≤ 8 → x < 256 ^ m → 1 ≤ m → ∃ m, Bytes8 x m := by
    intro m
    induction m with
    | zero => intro _ _ h; omega
    | succ m ih =>
      intro hm hx _
      by_cases h0 : m = 0
      · subst h0; exact ⟨1, by omega, by omega, hx, Or.inl rfl⟩
      · by_cases hx2 : x < 256 ^ m
        · exact ih (by omega) hx2 (by omega)
        · exact ⟨m + 1, by omega, hm, hx, Or.inr (by rw [Nat.add_sub_cancel]; omega)⟩
  exact this 8 (by omega) (by rw [show (256 : Nat) ^ 8 = 2 ^ 64 by decide]; exact h) (by omega)

theorem Bytes8.more {x m j : Nat} (h : Bytes8 x m) (hj : j + 1 < m) : 255 < x / 256 ^ j := by
  have h1 : 256 ^ (m - 1) ≤ x := h.ge.resolve_left (by omega)
  have h2 : 256 ^ (j + 1) ≤ 256 ^ (m - 1) := Nat.pow_le_pow_right (by decide) (by omega)
  have h3 : 256 ≤ x / 256 ^ j := (Nat.le_div_iff_mul_le (Nat.pow_pos (by decide))).2 (by rw [Nat.pow_succ] at h2; omega)
  omega
theorem Bytes8.last {x m j : Nat} (h : Bytes8 x m) (hj : j + 1 = m) : x / 256 ^ j < 256 := by
  apply (Nat.div_lt_iff_lt_mul (Nat.pow_pos (by decide))).2
  have := h.lt
  rw [← hj, Nat.pow_succ] at this
  omega

theorem digits_eq : ∀ (m f x : Nat), m ≤ f → Bytes8 x m → Ber.digits f x = (List.range m).map fun k => UInt8.ofNat (x / 256 ^ (m - 1 - k) % 256)
  | 0, f, x, _, h => by have := h.lo; omega
  | m + 1, 0, x, hm, _ => by omega
  | m + 1, f + 1, x, hm, h => by
    simp only [Ber.digits]
    by_cases h0 : m = 0
    · subst h0
      have := h.lt
      rw [if_pos (by simpa using this)]
      simp at this
      simp [Nat.mod_eq_of_lt this]
    · have hx : 256 ≤ x := by
        have h1 : 256 ^ (m + 1 - 1) ≤ x := h.ge.resolve_left (by omega)
        have h2 : 256 ^ 1 ≤ 256 ^ m := Nat.pow_le_pow_right (by decide) (by omega)
        simp at h1; omega
      have hb : Bytes8 (x / 256) m := ⟨by omega, by have := h.hi; omega, (Nat.div_lt_iff_lt_mul (by decide)).2 (by have := h.lt; rw [Nat.pow_succ] at this; exact this), by
        by_cases h1 : m = 1
        · exact Or.inl h1
        · refine Or.inr ?_
          have h2 : 256 ^ (m + 1 - 1) ≤ x := h.ge.resolve_left (by omega)
          rw [Nat.add_sub_cancel] at h2
          exact (Nat.le_div_iff_mul_le (by decide)).2 (by rw [← Nat.pow_succ, show (m - 1).succ = m by omega]; exact h2)⟩
      have ih := digits_eq m f (x / 256) (by omega) hb
      rw [if_neg (by omega), ih, List.range_succ, List.map_append]
      congr 1
      · apply List.map_congr_left
        intro k hk
        have hk := List.mem_range.1 hk
        rw [Nat.div_div_eq_div_mul, Nat.mul_comm, ← Nat.pow_succ]
        congr 4
        omega
      · simp

set_option maxHeartbeats 1000000 in
theorem length64_any (w : World) (x m : Nat) (h : Bytes8 x m) :
    Calls Tryd.prog 71 #[.int .u64 x] w fun e w' => e = .returned (.int .i64 m) ∧ w = w' := by
  have hlo := h.lo
  have hhi := h.hi
  go_enter Tryd.func71, Tryd.ntmps71
  go_wp2
  go_loopw [0, 2] (fun t0 t2 wr => ∃ j : Nat, j < m ∧ t0 = .int .u64 ((x / 256 ^ j : Nat) : Int) ∧ t2 = .int .i64 ((j + 1 : Nat) : Int) ∧ w = wr) (fun _ t2 _ => m + 1 - (intOf t2).toNat)
  case atStart => exact ⟨0, by omega, by simp, rfl, rfl⟩
  case round =>
    obtain ⟨j, hj, rfl, rfl, rfl⟩ := hrel
    obtain ⟨y, hy⟩ : ∃ y, y = x / 256 ^ j := ⟨_, rfl⟩
    rw [← hy]
    have hy64 : y < 2 ^ 64 := Nat.lt_of_le_of_lt (by rw [hy]; exact Nat.div_le_self _ _) (Nat.lt_of_lt_of_le h.lt (Nat.le_trans (Nat.pow_le_pow_right (by decide) hhi) (by decide)))
    by_cases hjm : j + 1 < m
    · have hb := h.more hjm
      rw [← hy] at hb
      have hn : y / 256 = x / 256 ^ (j + 1) := by rw [hy, Nat.div_div_eq_div_mul, Nat.pow_succ]
      have HN := Lib.hid hn
      clear hn hy
      go_wp2
      go_roundw
      case rel => exact ⟨j + 1, hjm, by rw [← HN.out]; go_num, by go_num, by first | rfl | trivial⟩
      case measure => simp [intOf]; omega
    · have hb := h.last (j := j) (by omega)
      rw [← hy] at hb
      have hjm1 : j + 1 = m := by omega
      have HM := Lib.hid hjm1
      clear hy hjm1
      go_wp2
      go_ret
      exact ⟨by rw [← HM.out]; simp, by first | rfl | trivial⟩

theorem digit_rows {x j : Nat} {cur : Array Value} (h : Bytes8 x j) (hs : cur.size = j) (hrow : ∀ k, k < j → cur[k]? = some (.int .u8 ((x / 256 ^ (j - 1 - k) % 256 : Nat) : Int))) : cur.toList = Lib.byteCells (Ber.digits 8 x) := by
  rw [digits_eq j 8 x h.hi h]
  apply List.ext_getElem?
  intro k
  by_cases hk : k < j
  · rw [Array.getElem?_toList, hrow k hk]
    simp [Lib.byteCells, hk]
  · rw [List.getElem?_eq_none (by simp; omega), List.getElem?_eq_none (by simp [Lib.byteCells]; omega)]

set_option maxRecDepth 100000 in
set_option maxHeartbeats 4000000 in
theorem unsigned_any (w : World) (x m : Nat) (h : Bytes8 x m) :
    Calls Tryd.prog 59 #[.int .u64 x] w fun e w' => ∃ cur : Array Value, e = .returned (.slice (some ⟨w.heap.size, 0, none⟩) m m) ∧ w'.heap[w.heap.size]? = some (.cells cur 5 (0, 0)) ∧
      cur.toList = Lib.byteCells (Ber.digits 8 x) ∧ Below w.heap.size w w' := by
  have hlo := h.lo
  have hhi := h.hi
  obtain ⟨i0, hi, hz0, hz1, hz2⟩ := info_byte
  have hmk0 : ∃ M : Array Value, M.size = m ∧ (Instr.makeSlice 37 (.int .i64 (m : Int)) (.int .i64 (m : Int))).run Tryd.prog w = .ok (.slice (some ⟨w.heap.size, 0, none⟩) m m) (w.alloc (.cells M 5)) := by
    have h := run_makeSlice w 37 5 i0 (.int .u8 0) Tryd.underlying37 hi hz0 .i64 .i64 (m : Int) m (by omega) (by omega) (by rw [hz1]; omega) (by rw [hz2]; omega) (by omega)
    have h2 := size_madeCells (Value.int .u8 0).cells (Int.toNat m * i0.size)
    exact ⟨madeCells (Value.int .u8 0).cells (Int.toNat m * i0.size), by rw [h2, hz1]; simp, by simpa using h⟩
  obtain ⟨M, hM, hmk⟩ := hmk0
  have hx64 : x < 2 ^ 64 := Nat.lt_of_lt_of_le h.lt (Nat.le_trans (Nat.pow_le_pow_right (by decide) hhi) (by decide))
  go_enter Tryd.func59, Tryd.ntmps59
  go_wp2_with fail
  refine (length64_any _ x m h).mono ?_
  rintro e w1 ⟨rfl, rfl⟩
  go_wp2_with fail
  go_loopw [3, 5] (fun t3 t5 wr => ∃ (j : Nat) (cur : Array Value), j ≤ m ∧ t3 = .int .i64 ((m - j : Nat) : Int) ∧ t5 = .int .i64 j ∧ wr.heap[w.heap.size]? = some (.cells cur 5 (0, 0)) ∧ cur.size = m ∧ Below w.heap.size w wr ∧
      ∀ k, k < j → cur[k]? = some (.int .u8 ((x / 256 ^ (m - 1 - k) % 256 : Nat) : Int))) (fun t3 _ _ => (intOf t3).toNat)
  case atStart => exact ⟨0, M, by omega, rfl, rfl, heap_alloc_new w _, hM, (Below.refl _ w).alloc (Nat.le_refl _) _, fun k hk => by omega⟩
  case round =>
    obtain ⟨j, cur, hj, rfl, rfl, hg, hs, hnx, hrow⟩ := hrel
    by_cases hjm : j < m
    · obtain ⟨r, hr⟩ : ∃ r, m - j = r + 1 := ⟨m - j - 1, by omega⟩
      rw [hr]
      have hr8 : r < 8 := by omega
      have hcj : wr.cell? ⟨w.heap.size, j, none⟩ = some (cur[j]'(by omega)) := by rw [blockCell hg j]; exact Array.getElem?_eq_getElem (by omega)
      have fj := blockFrozen hg j
      have hpos : (0 : Int) < ((r + 1 : Nat) : Int) := by omega
      have hp : (2 : Nat) ^ (r * 8) = 256 ^ r := by rw [Nat.mul_comm, Nat.pow_mul]
      have HR := Lib.hid hrow
      have HJ := Lib.hid hr
      clear hrow
      go_wp2_with fail
      refine ⟨⟨j + 1, _, by omega, by congr 2; omega, by go_num, blockSet hg j _, by simp [hs], hnx.setCell (p := ⟨w.heap.size, j, none⟩) (Nat.le_refl _) _, ?_⟩, by simp [intOf]⟩
      intro k hk
      by_cases hkj : k = j
      · subst hkj
        rw [Array.getElem?_setIfInBounds_self_of_lt (by omega), show m - 1 - k = r by omega, ← hp]
        simp
      · rw [Array.getElem?_setIfInBounds_ne (by omega)]
        exact HR.out k (by omega)
    · obtain rfl : j = m := by omega
      go_wp2_with fail
      go_ret
      exact ⟨cur, rfl, hg, digit_rows h hs hrow, hnx⟩

set_option maxRecDepth 100000 in
set_option maxHeartbeats 4000000 in
theorem lenOf_any (w : World) (n : Nat) (hn : n < 2 ^ 63) :
    Calls Tryd.prog 41 #[.int .i64 n] w fun e w' => ∃ v, e = .returned v ∧ Reads w' (Lib.byteCells (Ber.lenBytes n)) v ∧ Below w.heap.size w w' := by
  obtain ⟨m, hm⟩ := bytes8_ex n (by omega)
  have hlo := hm.lo
  have hhi := hm.hi
  have hwu : IntKind.u64.wrap (n : Int) = (n : Int) := wraps_u64 _ (by omega) (by omega)
  have hdl : (Ber.digits 8 n).length = m := by rw [digits_eq m 8 n hm.hi hm]; simp
  have hun := fun w => unsigned_any w n m hm
  by_cases h127 : n < 128
  · have hm1 : m = 1 := by
      rcases hm.ge with h | h
      · exact h
      · have h1 : 256 ^ 1 ≤ 256 ^ (m - 1) ∨ m = 1 := by
          rcases Nat.lt_or_ge (m - 1) 1 with h2 | h2
          · exact Or.inr (by omega)
          · exact Or.inl (Nat.pow_le_pow_right (by decide) h2)
        rcases h1 with h1 | h1
        · omega
        · exact h1
    subst hm1
    have t1 : decide ((n : Int) > 127) = false := by simp; omega
    have HM := Lib.hid hm
    have HD := Lib.hid hdl
    clear hm hdl
    go_enter Tryd.func41, Tryd.ntmps41
    go_wp2_with fail
    refine (hun _).mono ?_
    rintro e w1 ⟨cur, rfl, hg, hcur, hb⟩
    have hcl : cur.size = 1 := by rw [← Array.length_toList, hcur]; simpa [Lib.byteCells] using HD.out
    go_wp2_with fail
    go_ret
    refine ⟨_, rfl, ?_, hb⟩
    have e1 : Ber.lenBytes n = Ber.digits 8 n := by simp [Ber.lenBytes, Ber.digits, h127, show n < 256 by omega]
    rw [e1, ← hcur]
    refine ⟨some ⟨w.heap.size, 0, none⟩, 1, by show Value.slice (some ⟨w.heap.size, 0, none⟩) 1 1 = _; rw [Array.length_toList, hcl], Or.inr ⟨_, rfl, ⟨cur, hg⟩, fun j v hj => (blockCell hg j).trans (by simpa using hj)⟩⟩
  · obtain ⟨i0, hi, hz0, hz1, hz2⟩ := info_byte
    have t1 : decide ((n : Int) > 127) = true := by simp; omega
    have hor : bits .or .u8 128 (m : Int) = ((128 + m : Nat) : Int) := by
      have := or_u8 (x := 128) (y := m) (by omega) (by omega)
      have k : ∀ y, y ≤ 8 → (128 ||| y) = 128 + y := by decide +kernel
      rw [k m hhi] at this
      exact this
    have hwm : IntKind.u8.wrap (m : Int) = (m : Int) := by rw [IntKind.wrap_u8]; omega
    have HM := Lib.hid hm
    have HD := Lib.hid hdl
    clear hm hdl
    go_enter Tryd.func41, Tryd.ntmps41
    go_wp2_with fail
    refine (hun _).mono ?_
    rintro e w1 ⟨cur, rfl, hg, hcur, hb⟩
    have hcl : cur.size = m := by rw [← Array.length_toList, hcur]; simpa [Lib.byteCells] using HD.out
    have hsz := hb.size
    obtain ⟨cs, hcs⟩ : ∃ cs, cs = Lib.byteCells (Ber.digits 8 n) := ⟨_, rfl⟩
    have hcm : cs.length = m := by rw [hcs]; simpa [Lib.byteCells] using HD.out
    have h1c : ∀ v ∈ cs, v.oneCell' = true := by intro v hv; rw [hcs] at hv; simp [Lib.byteCells] at hv; obtain ⟨_, _, rfl⟩ := hv; rfl
    have hgw : w.heap.size < w1.heap.size := blockLt hg
    have hsrc2 : ∀ j u, cs[j]? = some u → (w1.alloc (.cells #[.int .u8 (128 + (m : Int))] 5)).cell? ((⟨w.heap.size, 0, none⟩ : Addr).add j) = some u := by
      intro j u hj
      have hadd : (⟨w.heap.size, 0, none⟩ : Addr).add j = ⟨w.heap.size, j, none⟩ := by unfold Addr.add; split <;> simp_all
      rw [hadd]
      refine (World.cell?_of_block (w := w1) (Below.heap_alloc w1 _ _ hgw)).trans ((blockCell hg j).trans ?_)
      rw [← Array.getElem?_toList, hcur, ← hcs]; exact hj
    have hown : (w1.alloc (.cells #[.int .u8 (128 + (m : Int))] 5)).ownsRow w.heap.size 5 1 (.slice (some ⟨w1.heap.size, 0, none⟩) 1 1) 1 [.int .u8 (128 + (m : Int))] := ⟨by simp, Or.inr ⟨_, 1, _, rfl, hsz, heap_alloc_new w1 _, by omega, by decide, by simp, by simp⟩⟩
    have hmx : 1 + cs.length ≤ maxLen := by simp only [maxLen]; omega
    have HCS := Lib.hid hcs
    have HB := Lib.hid hb
    clear hcs hb hg hcur
    go_wp2_with (first
      | (at_builtin; refine wpList_append_own _ rfl _ _ 37 rfl w.heap.size 5 i0 (.int .u8 0) 1 1 Tryd.underlying37 hi hz0 hz1 hz2 rfl (by decide) _ _ _ rfl hown ⟨w.heap.size, 0, none⟩ m m cs rfl (by omega) hsrc2 h1c (by omega) (by omega) (by simp; omega) ?_))
    intro v' w2 hown' hgrow _
    have hb2 : Below w.heap.size w w2 := HB.out.trans (((Below.refl w.heap.size w1).alloc hsz _).trans ⟨hgrow.os, hgrow.tape, hgrow.output, hgrow.size, fun k hk => hgrow.block k (by simp; omega) (by simp [Value.ownBlock]; omega)⟩)
    have hrd := reads_of_owned hown'
    have HRD := Lib.hid hrd
    have HB2 := Lib.hid hb2
    clear hrd hb2 hgrow hown' hown hsrc2
    go_wp2
    go_ret
    refine ⟨_, rfl, ?_, HB2.out⟩
    have e1 : Lib.byteCells (Ber.lenBytes n) = .int .u8 (128 + (m : Int)) :: cs := by
      rw [HCS.out]
      simp [Ber.lenBytes, h127, Lib.byteCells, HD.out]
      omega
    rw [e1]
    exact HRD.out
end Go.Proofs.YtdfehaonngccjaaDoor

/- (*Packet).Bytes. -/
namespace Go.Proofs.YtdfehaonngccjaaDoor
open Go Go.RowKit

theorem BufAt.ltD {w : World} {D : Nat} {row : Option Nat} {bs : List Value} (h : BufAt w D row bs) : D < w.heap.size := by
  cases row with
  | none => obtain ⟨_, lr, hD⟩ := h; exact blockLt hD
  | some g => obtain ⟨_, lr, cap, cur, hD, _⟩ := h; exact blockLt hD
theorem BufAt.ltG {w : World} {D g : Nat} {bs : List Value} (h : BufAt w D (some g) bs) : g < w.heap.size := by
  obtain ⟨_, lr, cap, cur, hD, hg, _⟩ := h; exact blockLt hg
theorem BufAt.ty {w : World} {D : Nat} {row : Option Nat} {bs : List Value} (h : BufAt w D row bs) : ∃ cs fr, w.heap[D]? = some (.cells cs 96 fr) := by
  cases row with
  | none => obtain ⟨_, lr, hD⟩ := h; exact ⟨_, _, hD⟩
  | some g => obtain ⟨_, lr, cap, cur, hD, _⟩ := h; exact ⟨_, _, hD⟩
theorem BufAt.only {S : Nat → Prop} {w w' : World} {D : Nat} {row : Option Nat} {bs : List Value} (h : BufAt w D row bs) (k : Only S w w') (hD : ¬ S D) (hg : ∀ g, row = some g → ¬ S g) : BufAt w' D row bs :=
  h.kept (k.block D h.ltD hD) (fun g e => k.block g (by subst e; exact h.ltG) (hg g e))
theorem BufAt.same {w w' : World} {D : Nat} {row : Option Nat} {bs : List Value} (h : BufAt w D row bs) (k : Same w w') : BufAt w' D row bs := h.kept (by rw [k.heap]) (fun g _ => by rw [k.heap])
theorem BufAt.below {w w' : World} {D : Nat} {row : Option Nat} {bs : List Value} (h : BufAt w D row bs) (k : Below w.heap.size w w') : BufAt w' D row bs :=
  h.kept (k.block D h.ltD) (fun g e => k.block g (by subst e; exact h.ltG))
theorem Only.ofBelow {S : Nat → Prop} {w w' : World} (h : Below w.heap.size w w') : Only S w w' := ⟨h.os, h.tape, h.output, h.size, fun k hk _ => h.block k hk⟩

theorem Reads.src {w : World} {bs : List Value} {v : Value} {D : Nat} (h : Reads w bs v) (hD : ∃ cs fr, w.heap[D]? = some (.cells cs 96 fr)) : Src w D bs v := by
  obtain ⟨ao, c, rfl, h⟩ := h
  refine ⟨ao, c, rfl, h.imp id ?_⟩
  rintro ⟨g, rfl, ⟨cur, hg⟩, hs⟩
  refine ⟨_, rfl, ?_, fun j v hj => ?_⟩
  · rintro rfl
    obtain ⟨cs, fr, hD⟩ := hD
    rw [hg] at hD
    injection hD with hD
    injection hD with _ h2 _
    exact absurd h2 (by decide)
  · have hadd : (⟨g, 0, none⟩ : Addr).add j = ⟨g, j, none⟩ := by unfold Addr.add; split <;> simp_all
    rw [hadd]; exact hs j v hj

theorem cells1 (l : List UInt8) : ∀ v ∈ Lib.byteCells l, v.oneCell' = true := by
  intro v hv
  simp only [Lib.byteCells, List.mem_map] at hv
  obtain ⟨_, _, rfl⟩ := hv
  rfl
theorem cells_length (l : List UInt8) : (Lib.byteCells l).length = l.length := by simp [Lib.byteCells]

/-- Write of bytes to a buffer of bytes. -/
theorem write_bytes (w : World) (D : Nat) (row : Option Nat) (l m : List UInt8) (v : Value) (h : BufAt w D row (Lib.byteCells l)) (hs : Reads w (Lib.byteCells m) v) (hlim : l.length + m.length ≤ 140737488355328) :
    Calls Tryd.prog 38 #[.pointer (some ⟨D, 0, none⟩), v] w fun e w' => e = .returned (.tuple #[.int .i64 m.length, .nilIface]) ∧ Wrote D row (Lib.byteCells (l ++ m)) w w' := by
  rw [byteCells_append]
  exact write_any w D row _ _ v _ h (hs.src h.ty) (by rw [cells_length]) (cells1 l) (cells1 m) (by rw [cells_length, cells_length]; exact hlim)

theorem Only.toBelow {S : Nat → Prop} {B : Nat} {a w w' : World} (h : Below B a w) (hB : B ≤ a.heap.size) (k : Only S w w') (hS : ∀ i, S i → B ≤ i) : Below B a w' :=
  ⟨k.os.trans h.os, k.tape.trans h.tape, k.output.trans h.output, Nat.le_trans h.size k.size, fun i hi =>
    (k.block i (by have := h.size; omega) (fun e => by have := hS i e; omega)).trans (h.block i hi)⟩
theorem Same.toBelow {w w' : World} (h : Same w w') (B : Nat) : Below B w w' := ⟨h.os, h.tape, h.output, by rw [h.heap]; exact Nat.le_refl _, fun k _ => by rw [h.heap]⟩

theorem identBytes_len (c : Nat) (b : Bool) (t : Nat) : (Ber.identBytes c b t).length ≤ 13 := by
  unfold Ber.identBytes
  split
  · simp
  · rename_i h
    have := tagBytes_len t (by omega)
    simp; omega
theorem digits_len : ∀ f n, (Ber.digits f n).length ≤ f
  | 0, n => by simp [Ber.digits]
  | f + 1, n => by simp only [Ber.digits]; split; simp; have := digits_len f (n / 256); simp; omega
theorem lenBytes_len (n : Nat) : (Ber.lenBytes n).length ≤ 9 := by
  unfold Ber.lenBytes
  split
  · simp
  · have := digits_len 8 n; simp; omega

set_option maxRecDepth 100000 in
set_option maxHeartbeats 4000000 in
theorem bytes_any (w : World) (p D : Nat) (row : Option Nat) (c t : Nat) (b : Bool) (l : List UInt8) (v3 v4 v6 v7 : Value) (hc : c < 4) (ht : t < 2 ^ 64) (hl : l.length ≤ 100000000000)
    (hp : w.heap[p]? = some (.cells #[.int .u8 ((c * 64 : Nat) : Int), .int .u8 (if b then 32 else 0), .int .u64 t, v3, v4, .pointer (some ⟨D, 0, none⟩), v6, v7] 78 (0, 0)))
    (hb : BufAt w D row (Lib.byteCells l)) :
    Calls Tryd.prog 31 #[.pointer (some ⟨p, 0, none⟩)] w fun e w' => ∃ v, e = .returned v ∧ Reads w' (Lib.byteCells (Ber.identBytes c b t ++ (Ber.lenBytes l.length ++ l))) v ∧ Below w.heap.size w w' := by
  have hplt := blockLt hp
  obtain ⟨y, hy⟩ : ∃ y : Int, y = (if b then 32 else 0) := ⟨_, rfl⟩
  have hidt : ∀ W, Calls Tryd.prog 40 #[.agg #[.int .u8 ((c * 64 : Nat) : Int), .int .u8 y, .int .u64 t]] W fun e w' => ∃ v, e = .returned v ∧ Reads w' (Lib.byteCells (Ber.identBytes c b t)) v ∧ Below W.heap.size W w' := by
    intro W; rw [hy]; exact identOf_any W c hc b t ht
  rw [← hy] at hp
  have h0 : (w.alloc (.cells #[.slice none 0 0, .int .i64 0, .int .i8 0] 96)).heap[p]? = some (.cells #[.int .u8 ((c * 64 : Nat) : Int), .int .u8 y, .int .u64 t, v3, v4, .pointer (some ⟨D, 0, none⟩), v6, v7] 78 (0, 0)) := (Below.heap_alloc w _ p hplt).trans hp
  have c0 := blockCell h0 0
  have c1 := blockCell h0 1
  have c2 := blockCell h0 2
  have hb0 : BufAt (w.alloc (.cells #[.slice none 0 0, .int .i64 0, .int .i8 0] 96)) D row (Lib.byteCells l) := hb.below ((Below.refl _ w).alloc (Nat.le_refl _) _)
  have hout0 : BufAt (w.alloc (.cells #[.slice none 0 0, .int .i64 0, .int .i8 0] 96)) w.heap.size none (Lib.byteCells []) := ⟨rfl, 0, heap_alloc_new w _⟩
  have HY := Lib.hid hy
  have HP := Lib.hid h0
  have HB0 := Lib.hid hb0
  have HO0 := Lib.hid hout0
  have HDNE := Lib.hid (show D ≠ w.heap.size from Nat.ne_of_lt hb.ltD)
  have HGNE := Lib.hid (show row ≠ some w.heap.size from fun e => by subst e; exact Nat.lt_irrefl _ hb.ltG)
  clear hp h0 hb0 hout0 hy hb
  go_enter Tryd.func31, Tryd.ntmps31
  go_wp2_with fail
  refine (hidt _).mono ?_
  rintro e w1 ⟨v1, rfl, hv1, hbel1⟩
  have hsz1 : w.heap.size + 1 ≤ w1.heap.size := by have := hbel1.size; simpa using this
  have hout1 := HO0.out.below hbel1
  have hbd1 := HB0.out.below hbel1
  have hp1 := (hbel1.block p (by simp; omega)).trans HP.out
  have hDlt := hbd1.ltD
  have hD0 : D < w.heap.size + 1 := by have := HB0.out.ltD; simpa using this
  have hDne : D ≠ w.heap.size := HDNE.out
  have hGne : row ≠ some w.heap.size := HGNE.out
  have hG0 : ∀ g, row = some g → g < w.heap.size + 1 := fun g e => by subst e; have := HB0.out.ltG; simpa using this
  go_wp2_with fail
  refine (write_bytes w1 w.heap.size none [] _ v1 hout1 hv1 (by have := identBytes_len c b t; simp; omega)).mono ?_
  rintro e w2 ⟨rfl, row2, hout2, hr2, hf2⟩
  have hbd2 := hbd1.only hf2 (by rintro (h | h); exact hDne h; cases h) (fun g e => by rintro (h | h); exact hGne (by rw [e, h]); cases h)
  have hp2 := (hf2.block p (by omega) (by rintro (h | h); omega; cases h)).trans hp1
  have hsz2 := hf2.size
  have d2 := blockCell hp2 3
  have d5 := blockCell hp2 5
  go_wp2_with fail
  refine (buf_len w2 D row _ hbd2).mono ?_
  rintro e w3 ⟨rfl, hs3⟩
  rw [cells_length]
  go_wp2_with fail
  refine (lenOf_any w3 l.length (by omega)).mono ?_
  rintro e w4 ⟨v4', rfl, hv4, hbel4⟩
  rw [List.nil_append] at hout2
  have hout4 := (hout2.same hs3).below hbel4
  have hbd4 := (hbd2.same hs3).below hbel4
  have hp4 := (hbel4.block p (by rw [hs3.heap]; omega)).trans ((congrArg (fun h => h[p]?) hs3.heap).trans hp2)
  have hsz4 : w2.heap.size ≤ w4.heap.size := by have := hbel4.size; rw [hs3.heap] at this; exact this
  have hilen := identBytes_len c b t
  have hllen := lenBytes_len l.length
  have hr2G : ∀ g, row2 = some g → w.heap.size < g ∧ row ≠ some g := fun g e => by
    rcases hr2 with h | ⟨g', h, hg'⟩
    · rw [h] at e; cases e
    · rw [h] at e; obtain rfl := Option.some.inj e
      exact ⟨by omega, fun e2 => by have := hG0 _ e2; omega⟩
  have hr2D : ∀ g, row2 = some g → g ≠ D := fun g e => by have := (hr2G g e).1; omega
  have hr2p : ∀ g, row2 = some g → g ≠ p := fun g e => by have := (hr2G g e).1; omega
  go_wp2_with fail
  refine (write_bytes w4 w.heap.size row2 _ _ v4' hout4 hv4 (by omega)).mono ?_
  rintro e w5 ⟨rfl, row5, hout5, hr5, hf5⟩
  have hbd5 := hbd4.only hf5 (by rintro (h | h); exact hDne h; exact hr2D _ h rfl) (fun g e => by rintro (h | h); exact hGne (by rw [e, h]); exact (hr2G _ h).2 e)
  have hp5 := (hf5.block p (by omega) (by rintro (h | h); omega; exact hr2p _ h rfl)).trans hp4
  have hsz5 := hf5.size
  have e5 := blockCell hp5 5
  go_wp2_with fail
  refine (buf_bytes w5 D row _ hbd5).mono ?_
  rintro e w6 ⟨v6', rfl, hv6, hs6⟩
  have hr5G : ∀ g, row5 = some g → w.heap.size < g := fun g e => by
    rcases hr5 with h | ⟨g', h, hg'⟩
    · exact (hr2G g (by rw [← h]; exact e)).1
    · rw [h] at e; obtain rfl := Option.some.inj e; omega
  go_wp2_with fail
  refine (write_bytes w6 w.heap.size row5 _ l v6' (hout5.same hs6) hv6 (by simp; omega)).mono ?_
  rintro e w7 ⟨rfl, row7, hout7, hr7, hf7⟩
  go_wp2_with fail
  refine (buf_bytes w7 _ row7 _ hout7).mono ?_
  rintro e w8 ⟨v8, rfl, hv8, hs8⟩
  have hfin : Below w.heap.size w w8 := by
    have k1 : Below w.heap.size w w1 := ((Below.refl _ w).alloc (Nat.le_refl _) _).trans (hbel1.mono (by simp))
    have k2 := Only.toBelow k1 (Nat.le_refl _) hf2 (by rintro k (h | h); omega; cases h)
    have k3 := k2.trans (Same.toBelow hs3 w.heap.size)
    have k4 := k3.trans (hbel4.mono (by rw [hs3.heap]; omega))
    have k5 := Only.toBelow k4 (Nat.le_refl _) hf5 (by rintro k (h | h); omega; have := (hr2G _ h).1; omega)
    have k6 := k5.trans (Same.toBelow hs6 w.heap.size)
    have k7 := Only.toBelow k6 (Nat.le_refl _) hf7 (by rintro k (h | h); omega; have := hr5G _ h; omega)
    exact k7.trans (Same.toBelow hs8 w.heap.size)
  have HV8 := Lib.hid hv8
  have HFIN := Lib.hid hfin
  clear hv8 hfin hout7 hout5 hout4 hout2 hout1
  go_wp2
  go_ret
  exact ⟨_, rfl, by have := HV8.out; rwa [List.append_assoc] at this, HFIN.out⟩
end Go.Proofs.YtdfehaonngccjaaDoor

/- (*Packet).AppendChild. -/
namespace Go.Proofs.YtdfehaonngccjaaDoor
open Go Go.RowKit

/-- A row of pointers to packets. -/
def KidRow (w : World) (C cap : Nat) (xs : List Value) : Prop :=
  ∃ cur : Array Value, w.heap[C]? = some (.cells cur 55 (0, 0)) ∧ xs.length ≤ cap ∧ cap ≤ maxLen ∧ cur.size = cap ∧ cur.toList.take xs.length = xs
theorem KidRow.lt {w : World} {C cap : Nat} {xs : List Value} (h : KidRow w C cap xs) : C < w.heap.size := by obtain ⟨cur, h1, _⟩ := h; exact blockLt h1
theorem KidRow.stays {w w' : World} {C cap : Nat} {xs : List Value} (h : KidRow w C cap xs) (k : w'.heap[C]? = w.heap[C]?) : KidRow w' C cap xs := by
  obtain ⟨cur, h1, h2⟩ := h; exact ⟨cur, k.trans h1, h2⟩
theorem KidRow.own {w : World} {C cap : Nat} {xs : List Value} (h : KidRow w C cap xs) : w.ownsRow 0 55 1 (.slice (some ⟨C, 0, none⟩) xs.length cap) xs.length xs := by
  obtain ⟨cur, h1, h2, h3, h4, h5⟩ := h
  exact ⟨by simp, Or.inr ⟨C, cap, cur, rfl, Nat.zero_le _, h1, h2, h3, by simpa using h4, by simpa using h5⟩⟩
theorem KidRow.of {w : World} {v : Value} {n : Nat} {xs : List Value} (h : w.ownsRow 0 55 1 v n xs) (hn : 0 < n) : ∃ C cap, v = .slice (some ⟨C, 0, none⟩) n cap ∧ n = xs.length ∧ KidRow w C cap xs := by
  have hl : xs.length = n := by simpa using h.1
  rcases h.2 with ⟨_, h0⟩ | ⟨C, cap, cur, hv, _, hg, h2, h3, h4, h5⟩
  · omega
  · exact ⟨C, cap, hv, hl.symm, cur, hg, by omega, h3, by simpa using h4, by rw [Nat.mul_one] at h5; rw [hl]; exact h5⟩
theorem KidRow.cell {w : World} {C cap : Nat} {xs : List Value} (h : KidRow w C cap xs) {j : Nat} {v : Value} (hj : xs[j]? = some v) : w.cell? ⟨C, j, none⟩ = some v := by
  obtain ⟨cur, h1, h2, h3, h4, h5⟩ := h
  rw [blockCell h1 j]
  rw [← h5] at hj
  simp only [List.getElem?_take] at hj
  split at hj
  · simpa using hj
  · cases hj

theorem info_ptr : ∃ i, Tryd.prog.info? 55 = some i ∧ i.zero = some (.pointer none) ∧ i.size = 1 ∧ i.bytes = 8 := info_parts (by kernel_rfl)

/-- Blocks of other types are other blocks. -/
theorem ne_of_types {w : World} {a b : Nat} {x y : Array Value} {t u : TypeId} {f g : Nat × Nat} (ha : w.heap[a]? = some (.cells x t f)) (hb : w.heap[b]? = some (.cells y u g)) (h : t ≠ u) : a ≠ b := by
  rintro rfl
  rw [ha] at hb
  injection hb with hb
  injection hb with _ h2 _
  exact h h2

/-- The block of a packet. -/
def PkCells (a0 a1 a2 : Int) (val bv : Value) (D : Nat) (kv ds : Value) : Array Value := #[.int .u8 a0, .int .u8 a1, .int .u64 a2, val, bv, .pointer (some ⟨D, 0, none⟩), kv, ds]

theorem app_end {w w1 w2 w3 w4 : World} {P D C cap q : Nat} {row row2 : Option Nat} {a0 a1 a2 : Int} {val bv ds : Value} {xs : List Value} {bs : List Value} {v' : Value}
    (hP : w.heap[P]? = some (.cells (PkCells a0 a1 a2 val bv D (.slice (some ⟨C, 0, none⟩) xs.length cap) ds) 78 (0, 0)))
    (hk : KidRow w C cap xs) (hDt : ∃ cs fr, w.heap[D]? = some (.cells cs 96 fr)) (hrt : ∀ g, row = some g → ∃ cs, w.heap[g]? = some (.cells cs 5 (0, 0)))
    (hbel : Below w.heap.size w w1) (hb2 : BufAt w2 D row2 bs) (hr2 : row2 = row ∨ ∃ g, row2 = some g ∧ w1.heap.size ≤ g) (hf2 : Only (fun k => k = D ∨ row = some k) w1 w2)
    (hw3 : w3 = w2.alloc (.cells #[.pointer (some ⟨q, 0, none⟩)] 55)) (hown : w4.ownsRow 0 55 1 v' (xs.length + 1) (xs ++ [.pointer (some ⟨q, 0, none⟩)]))
    (hgr : w3.grownBy w4 (some C)) (hat : v'.ownBlock = some C ∨ v'.ownBlock = some w3.heap.size) :
    ∃ row' C' cap', v' = .slice (some ⟨C', 0, none⟩) (xs.length + 1) cap' ∧
      (w4.setCell ⟨P, 6, none⟩ v').heap[P]? = some (.cells (PkCells a0 a1 a2 val bv D v' ds) 78 (0, 0)) ∧ BufAt (w4.setCell ⟨P, 6, none⟩ v') D row' bs ∧
      KidRow (w4.setCell ⟨P, 6, none⟩ v') C' cap' (xs ++ [.pointer (some ⟨q, 0, none⟩)]) ∧ (row' = row ∨ ∃ g, row' = some g ∧ w.heap.size ≤ g) ∧ (C' = C ∨ w.heap.size ≤ C') ∧
      Only (fun k => k = P ∨ k = D ∨ row = some k ∨ k = C) w (w4.setCell ⟨P, 6, none⟩ v') := by
  have hPlt := blockLt hP
  obtain ⟨dcs, dfr, hDt⟩ := hDt
  have hDlt := blockLt hDt
  have hClt := hk.lt
  obtain ⟨cur, hC, hk2⟩ := id hk
  have hPD : P ≠ D := ne_of_types hP hDt (by decide)
  have hPC : P ≠ C := ne_of_types hP hC (by decide)
  have hCD : C ≠ D := ne_of_types hC hDt (by decide)
  have hrC : row ≠ some C := fun e => by obtain ⟨cs, h⟩ := hrt _ e; exact ne_of_types h hC (by decide) rfl
  have hrP : row ≠ some P := fun e => by obtain ⟨cs, h⟩ := hrt _ e; exact ne_of_types h hP (by decide) rfl
  have hrlt : ∀ g, row = some g → g < w.heap.size := fun g e => by obtain ⟨cs, h⟩ := hrt _ e; exact blockLt h
  have hsz1 := hbel.size
  have hsz2 := hf2.size
  have hsz3 : w3.heap.size = w2.heap.size + 1 := by rw [hw3]; simp
  have hsz4 := hgr.size
  have h12 : Only (fun k => k = P ∨ k = D ∨ row = some k ∨ k = C) w w2 := (Only.ofBelow hbel).trans2 hf2 (fun i _ h => by rcases h with h | h; exact Or.inr (Or.inl h); exact Or.inr (Or.inr (Or.inl h)))
  have h3 : Only (fun k => k = P ∨ k = D ∨ row = some k ∨ k = C) w w3 := by rw [hw3]; exact h12.alloc _
  have h4 : Only (fun k => k = P ∨ k = D ∨ row = some k ∨ k = C) w w4 := h3.trans2 ⟨hgr.os, hgr.tape, hgr.output, hgr.size, fun k hk hs => hgr.block k hk (fun e => hs (Option.some.inj e))⟩ (T := fun k => k = C) (fun i _ h => Or.inr (Or.inr (Or.inr h)))
  have hP2 : w2.heap[P]? = w.heap[P]? := (hf2.block P (by omega) (by rintro (h | h); exact hPD h; exact hrP h)).trans (hbel.block P hPlt)
  have hP4 : w4.heap[P]? = w.heap[P]? := (hgr.block P (by omega) (fun h => hPC (Option.some.inj h))).trans ((by rw [hw3]; exact Below.heap_alloc w2 _ P (by omega) : w3.heap[P]? = w2.heap[P]?).trans hP2)
  have hD2lt := hb2.ltD
  have hr2lt : ∀ g, row2 = some g → g < w2.heap.size ∧ g ≠ C ∧ g ≠ P := fun g e => by
    have h1 : g < w2.heap.size := by subst e; exact hb2.ltG
    refine ⟨h1, ?_, ?_⟩
    · rintro rfl
      rcases hr2 with h | ⟨g', h, h'⟩
      · exact hrC (by rw [← h]; exact e)
      · rw [h] at e; injection e with e; omega
    · rintro rfl
      rcases hr2 with h | ⟨g', h, h'⟩
      · exact hrP (by rw [← h]; exact e)
      · rw [h] at e; injection e with e; omega
  have hstay : ∀ k, k < w2.heap.size → k ≠ C → k ≠ P → (w4.setCell ⟨P, 6, none⟩ v').heap[k]? = w2.heap[k]? := fun k hk h1 h2 => by
    rw [Below.heap_setCell _ _ _ _ (by show k ≠ P; exact h2), hgr.block k (by omega) (fun h => h1 (Option.some.inj h)), hw3, Below.heap_alloc w2 _ k hk]
  obtain ⟨C', cap', hv', hn', hk'⟩ := KidRow.of hown (by omega)
  have hC' : C' = C ∨ C' = w3.heap.size := by
    rw [hv'] at hat
    simp only [Value.ownBlock, Option.some.injEq] at hat
    exact hat
  have hC'P : C' ≠ P := by rcases hC' with h | h <;> omega
  refine ⟨row2, C', cap', hv', ?_, ?_, ?_, ?_, ?_, ?_⟩
  · have := blockSet (hP4.trans hP) 6 v'
    simpa [PkCells] using this
  · exact hb2.kept (hstay D hD2lt (fun e => hCD e.symm) (fun e => hPD e.symm)) (fun g e => hstay g (hr2lt g e).1 (hr2lt g e).2.1 (hr2lt g e).2.2)
  · exact hk'.stays (Below.heap_setCell _ _ _ _ hC'P)
  · rcases hr2 with h | ⟨g, h, h'⟩
    · exact Or.inl h
    · exact Or.inr ⟨g, h, by omega⟩
  · rcases hC' with h | h
    · exact Or.inl h
    · exact Or.inr (by omega)
  · exact h4.setCell (Or.inr (Or.inl rfl)) _

set_option maxRecDepth 100000 in
set_option maxHeartbeats 4000000 in
theorem append_any (w : World) (P D C cap q D2 : Nat) (row rowq : Option Nat) (a0 a1 a2 : Int) (val bv ds : Value) (xs : List Value) (l m : List UInt8) (c t : Nat) (b : Bool) (u3 u4 u6 u7 : Value) (hc : c < 4) (ht : t < 2 ^ 64)
    (hP : w.heap[P]? = some (.cells (PkCells a0 a1 a2 val bv D (.slice (some ⟨C, 0, none⟩) xs.length cap) ds) 78 (0, 0))) (hk : KidRow w C cap xs) (hx : xs.length ≤ 100000000000)
    (hb : BufAt w D row (Lib.byteCells l)) (hl : l.length ≤ 100000000000) (hm : m.length ≤ 100000000000)
    (hq : w.heap[q]? = some (.cells #[.int .u8 ((c * 64 : Nat) : Int), .int .u8 (if b then 32 else 0), .int .u64 t, u3, u4, .pointer (some ⟨D2, 0, none⟩), u6, u7] 78 (0, 0)))
    (hbq : BufAt w D2 rowq (Lib.byteCells m)) :
    Calls Tryd.prog 39 #[.pointer (some ⟨P, 0, none⟩), .pointer (some ⟨q, 0, none⟩)] w fun e w' => (∃ v, e = .returned v) ∧ ∃ row' C' cap',
      w'.heap[P]? = some (.cells (PkCells a0 a1 a2 val bv D (.slice (some ⟨C', 0, none⟩) (xs.length + 1) cap') ds) 78 (0, 0)) ∧ BufAt w' D row' (Lib.byteCells (l ++ (Ber.identBytes c b t ++ (Ber.lenBytes m.length ++ m)))) ∧
      KidRow w' C' cap' (xs ++ [.pointer (some ⟨q, 0, none⟩)]) ∧ (row' = row ∨ ∃ g, row' = some g ∧ w.heap.size ≤ g) ∧ (C' = C ∨ w.heap.size ≤ C') ∧ Only (fun k => k = P ∨ k = D ∨ row = some k ∨ k = C) w w' := by
  obtain ⟨i0, hi, hz0, hz1, hz2⟩ := info_ptr
  have hPlt := blockLt hP
  have c5 : w.drew.cell? ⟨P, 5, none⟩ = some (.pointer (some ⟨D, 0, none⟩)) := blockCell hP 5
  have hq' : w.drew.heap[q]? = _ := hq
  have hbq' : BufAt w.drew D2 rowq (Lib.byteCells m) := hbq
  have hDt := hb.ty
  have hrt : ∀ g, row = some g → ∃ cs, w.heap[g]? = some (.cells cs 5 (0, 0)) := fun g e => by subst e; obtain ⟨_, lr, cap, cur, hD, hg, _⟩ := hb; exact ⟨_, hg⟩
  have hby : Calls Tryd.prog 31 #[.pointer (some ⟨q, 0, none⟩)] w.drew fun e w' => ∃ v, e = .returned v ∧ Reads w' (Lib.byteCells (Ber.identBytes c b t ++ (Ber.lenBytes m.length ++ m))) v ∧ Below w.heap.size w w' :=
    (bytes_any w.drew q D2 rowq c t b m u3 u4 u6 u7 hc ht hm hq' hbq').mono fun e w' ⟨v, h1, h2, h3⟩ => ⟨v, h1, h2, ⟨h3.os, h3.tape, h3.output, h3.size, h3.block⟩⟩
  have HBY := Lib.hid hby
  have HP := Lib.hid hP
  have HK := Lib.hid hk
  have HB := Lib.hid hb
  clear hby hP hk hb hq hq' hbq hbq'
  have hPD : P ≠ D := by obtain ⟨_, _, hD⟩ := hDt; exact ne_of_types HP.out hD (by decide)
  have hPrt : ∀ g, row = some g → P ≠ g := fun g e => by obtain ⟨cs, h⟩ := hrt g e; exact ne_of_types HP.out h (by decide)
  have HDT := Lib.hid hDt
  have HRT := Lib.hid hrt
  have HPRT := Lib.hid hPrt
  clear hDt hrt hPrt
  go_enter Tryd.func39, Tryd.ntmps39
  go_wp2_with fail
  go_region_with (first
    | (go_at_call 31; go_loud (refine HBY.out.mono ?_; rintro e w1 ⟨v1, rfl, hv1, hbel1⟩; have hP1 := (hbel1.block P hPlt).trans HP.out; have c51 : w1.cell? ⟨P, 5, none⟩ = some (.pointer (some ⟨D, 0, none⟩)) := blockCell hP1 5; have hb1 := HB.out.below (w' := w1) hbel1))
    | (go_at_call 38; refine (write_bytes w1 D row _ _ v1 hb1 hv1 (by have := identBytes_len c b t; have := lenBytes_len m.length; simp; omega)).mono ?_; rintro e w2 ⟨rfl, row2, hout2, hr2, hf2⟩))
  all_goals
    have hP2 := (hf2.block P (by have := hbel1.size; omega) (by rintro (h | h); exact hPD h; exact HPRT.out _ h rfl)).trans hP1
    have c26 : w2.cell? ⟨P, 6, none⟩ = some (.slice (some ⟨C, 0, none⟩) xs.length cap) := blockCell hP2 6
    have hk2 : KidRow w2 C cap xs := by
      obtain ⟨cur, hC, _⟩ := id HK.out
      obtain ⟨_, _, hD⟩ := HDT.out
      refine (HK.out.stays (hbel1.block C HK.out.lt)).stays (hf2.block C (by have := hbel1.size; have := HK.out.lt; omega) ?_)
      rintro (h | h)
      · exact ne_of_types hC hD (by decide) h
      · obtain ⟨cs, h2⟩ := HRT.out _ h
        exact ne_of_types h2 hC (by decide) rfl
    have hown2 : (w2.alloc (.cells #[.pointer (some ⟨q, 0, none⟩)] 55)).ownsRow 0 55 1 (.slice (some ⟨C, 0, none⟩) xs.length cap) xs.length xs := (hk2.stays (Below.heap_alloc w2 _ C hk2.lt)).own
    have hmx : xs.length + 1 ≤ maxLen := by simp only [maxLen]; omega
    have HP2 := Lib.hid hP2
    have HK2 := Lib.hid hk2
    clear hP2 hk2 hv1 hP1 hb1
    go_wp2_with (first
      | (at_builtin; refine wpList_append_own_at _ rfl _ _ 76 rfl 0 55 i0 (.pointer none) 1 8 Tryd.underlying76 hi hz0 hz1 hz2 rfl (by decide) _ _ _ rfl hown2 ⟨w2.heap.size, 0, none⟩ 1 1 [.pointer (some ⟨q, 0, none⟩)] rfl rfl (cell_one_new w2 _ _) (by intro u hu; simp at hu; subst hu; rfl) hmx (by omega) (Nat.zero_le _) ?_))
    intro v' w4 hown' hgrow _ hat
    have hP4 : w4.heap[P]? = _ := (hgrow.block P (by have := blockLt HP2.out; simp; omega) (by
      obtain ⟨cur, hC, _⟩ := id HK2.out
      simp only [Value.ownBlock, ne_eq, Option.some.injEq]
      exact ne_of_types HP2.out hC (by decide))).trans ((Below.heap_alloc w2 _ P (blockLt HP2.out)).trans HP2.out)
    have c46 : w4.cell? ⟨P, 6, none⟩ = some (.slice (some ⟨C, 0, none⟩) xs.length cap) := blockCell hP4 6
    have f46 := blockFrozen hP4 6
    obtain ⟨row', C', cap', rfl, hE⟩ := app_end HP.out HK.out HDT.out HRT.out hbel1 hout2 hr2 hf2 rfl hown' hgrow (hat.imp id (fun h => by rw [h]; simp))
    have HE := Lib.hid hE
    clear hE hown' hgrow hat hP4 hown2 hout2 hr2 hf2 hbel1
    go_wp2
    exact bodyPost_end (results_none (by rfl) _ _ _) rfl ⟨⟨_, rfl⟩, row', C', cap', HE.out⟩
end Go.Proofs.YtdfehaonngccjaaDoor

/- io.LimitedReader's Read. -/
namespace Go.Proofs.YtdfehaonngccjaaDoor
open Go Go.RowKit

theorem nil_ahead_lim (a : Addr) (w : World) : (nilAhead 288 130 (.pointer (some a)) "Read").run Tryd.prog w = .ok (some false) w := by kernel_rfl
theorem method_lim (a : Addr) (w : World) : (method 288 130 (.pointer (some a)) "Read").run Tryd.prog w = .ok (113, .pointer (some a)) w := by kernel_rfl

theorem lim_zero (w : World) (L : Nat) (rv : Value) (n : Int) (hL : w.heap[L]? = some (.cells #[rv, .int .i64 n] 132 (0, 0))) (hn : n ≤ 0) (ev : Value) (hE : w.cell? ⟨0, 0, none⟩ = some ev) (dp : Option Addr) (m c : Nat) :
    Calls Tryd.prog 113 #[.pointer (some ⟨L, 0, none⟩), .slice dp m c] w fun e w' => e = .returned (.tuple #[.int .i64 0, ev]) ∧ Same w w' := by
  have c1 : w.cell? ⟨L, 1, none⟩ = some (.int .i64 n) := blockCell hL 1
  clear hL
  go_enter Tryd.func113, Tryd.ntmps113
  go_wp2
  go_quiet (fail)
  go_wp2
  go_ret2
  exact ⟨rfl, (Same.refl w).drewN _⟩

theorem lim_end (w : World) (L R A : Nat) (l : List UInt8) (h : Rd w R A l l.length) (n : Nat) (hL : w.heap[L]? = some (.cells #[.iface 53 (.pointer (some ⟨R, 0, none⟩)), .int .i64 n] 132 (0, 0))) (hn : 0 < n) (hn2 : n < 1000000000000)
    (te : TypeId) (pe : Addr) (hE : w.cell? ⟨0, 0, none⟩ = some (.iface te (.pointer (some pe)))) (g off m c : Nat) (hmc : m ≤ c) (_hc : c < 1000000000000) :
    Calls Tryd.prog 113 #[.pointer (some ⟨L, 0, none⟩), .slice (some ⟨g, off, none⟩) m c] w fun e w' => e = .returned (.tuple #[.int .i64 0, .iface te (.pointer (some pe))]) ∧ Keep w.heap.size L w w' := by
  have c0 : w.cell? ⟨L, 0, none⟩ = some (.iface 53 (.pointer (some ⟨R, 0, none⟩))) := blockCell hL 0
  have c1 : w.cell? ⟨L, 1, none⟩ = some (.int .i64 n) := blockCell hL 1
  have f1 := blockFrozen hL 1
  have hme := method_reader
  have HL := Lib.hid hL
  clear hL
  by_cases hmn : n < m
  all_goals
    go_enter Tryd.func113, Tryd.ntmps113
    go_wp2_with fail
    refine (reader_end _ R A l h _ hE _ _ _).mono ?_
    rintro e w1 ⟨rfl, hs⟩
    have d1 : w1.cell? ⟨L, 1, none⟩ = some (.int .i64 n) := (hs.cell _).trans c1
    have g1 : w1.frozen? ⟨L, 1, none⟩ = false := (hs.frozen _).trans f1
    go_wp2
    go_ret2
    exact ⟨rfl, (hs.keep w.heap.size L).setCell (p := ⟨L, 1, none⟩) (Or.inr rfl) _⟩

theorem lim_some (w : World) (L R A : Nat) (l : List UInt8) (i : Nat) (h : Rd w R A l i) (hi : i < l.length) (n : Nat) (hL : w.heap[L]? = some (.cells #[.iface 53 (.pointer (some ⟨R, 0, none⟩)), .int .i64 n] 132 (0, 0))) (hn : 0 < n) (hn2 : n < 1000000000000)
    (g off m c : Nat) (hmc : m ≤ c) (hc : c < 1000000000000) (cur : List Value) (hg : w.heap[g]? = some (.cells cur.toArray 5 (0, 0))) (hgR : g ≠ R) (hgA : g ≠ A) (hLR : L ≠ R) (hLA : L ≠ A) (hLg : L < g) (hfit : off + m ≤ cur.length) (B : Nat) (hBL : B ≤ L) :
    Calls Tryd.prog 113 #[.pointer (some ⟨L, 0, none⟩), .slice (some ⟨g, off, none⟩) m c] w fun e w' =>
      e = .returned (.tuple #[.int .i64 (min (min m n) (l.length - i) : Nat), .nilIface]) ∧ Keep B R w w' ∧ Rd w' R A l (i + min (min m n) (l.length - i)) ∧
      w'.heap[L]? = some (.cells #[.iface 53 (.pointer (some ⟨R, 0, none⟩)), .int .i64 (n - min (min m n) (l.length - i) : Nat)] 132 (0, 0)) ∧
      w'.heap[g]? = some (.cells (splice cur off (Lib.byteCells ((l.drop i).take (min m n)))).toArray 5 (0, 0)) ∧ w'.heap.size = w.heap.size := by
  have c0 : w.cell? ⟨L, 0, none⟩ = some (.iface 53 (.pointer (some ⟨R, 0, none⟩))) := blockCell hL 0
  have c1 : w.cell? ⟨L, 1, none⟩ = some (.int .i64 n) := blockCell hL 1
  have hme := method_reader
  have HL := Lib.hid hL
  have hlen := h.len
  have hLlt := blockLt hL
  have hglt := blockLt hg
  clear hL
  obtain ⟨mm, hmm⟩ : ∃ mm, mm = min m n := ⟨_, rfl⟩
  have hq : ∃ q, q = min mm (l.length - i) := ⟨_, rfl⟩
  obtain ⟨q, hq⟩ := hq
  rw [← hmm, ← hq]
  have hqn : q ≤ n := by omega
  have hql : q ≤ l.length := by omega
  have HMM := Lib.hid hmm
  have HQ := Lib.hid hq
  clear hmm hq
  have fin : ∀ w1 : World, Keep g R w w1 → Rd w1 R A l (i + q) → w1.heap[g]? = some (.cells (splice cur off (Lib.byteCells ((l.drop i).take mm))).toArray 5 (0, 0)) → w1.heap.size = w.heap.size →
      Keep B R w (w1.setCell ⟨L, 1, none⟩ (.int .i64 ((n : Int) - q))) ∧ Rd (w1.setCell ⟨L, 1, none⟩ (.int .i64 ((n : Int) - q))) R A l (i + q) ∧
      (w1.setCell ⟨L, 1, none⟩ (.int .i64 ((n : Int) - q))).heap[L]? = some (.cells #[.iface 53 (.pointer (some ⟨R, 0, none⟩)), .int .i64 (n - q : Nat)] 132 (0, 0)) ∧
      (w1.setCell ⟨L, 1, none⟩ (.int .i64 ((n : Int) - q))).heap[g]? = some (.cells (splice cur off (Lib.byteCells ((l.drop i).take mm))).toArray 5 (0, 0)) ∧ (w1.setCell ⟨L, 1, none⟩ (.int .i64 ((n : Int) - q))).heap.size = w.heap.size := by
    intro w1 hkg hr hg1 hz
    have hk : Keep B R w w1 := hkg.mono (by omega)
    have hL1 := hkg.block L hLg hLR
    refine ⟨hk.setCell (Or.inl hBL) _, hr.stays (Below.heap_setCell _ _ _ _ (by simp; omega)) (Below.heap_setCell _ _ _ _ (by simp; omega)), ?_, ?_, ?_⟩
    · have := blockSet (hL1.trans HL.out) 1 (.int .i64 ((n : Int) - q))
      rw [this]; simp; omega
    · rw [Below.heap_setCell _ _ _ _ (by simp; omega)]; exact hg1
    · simpa [World.setCell] using hz
  have FIN := Lib.hid fin
  clear fin
  by_cases hmn : n < m
  · have hmm2 : mm = n := by have := HMM.out; omega
    subst hmm2
    go_enter Tryd.func113, Tryd.ntmps113
    go_wp2_with fail
    refine (reader_some g _ R A l i h hi (by omega) g off mm c cur hg (by omega) hgR hgA (by omega)).mono ?_
    rw [← HQ.out]
    rintro e w1 ⟨rfl, hk, hr, hg1, hz⟩
    have d1 : w1.cell? ⟨L, 1, none⟩ = some (.int .i64 mm) := (hk.cell hLg hLR).trans c1
    have g1 : w1.frozen? ⟨L, 1, none⟩ = false := (hk.frozen hLg hLR).trans (blockFrozen HL.out 1)
    have F := Lib.hid (FIN.out w1 hk hr hg1 hz)
    clear hk hr hg1 hz
    go_wp2
    go_ret2
    exact ⟨rfl, F.out⟩
  · have hmm2 : mm = m := by have := HMM.out; omega
    subst hmm2
    go_enter Tryd.func113, Tryd.ntmps113
    go_wp2_with fail
    refine (reader_some g _ R A l i h hi (by omega) g off mm c cur hg (by omega) hgR hgA (by omega)).mono ?_
    rw [← HQ.out]
    rintro e w1 ⟨rfl, hk, hr, hg1, hz⟩
    have d1 : w1.cell? ⟨L, 1, none⟩ = some (.int .i64 n) := (hk.cell hLg hLR).trans c1
    have g1 : w1.frozen? ⟨L, 1, none⟩ = false := (hk.frozen hLg hLR).trans (blockFrozen HL.out 1)
    have F := Lib.hid (FIN.out w1 hk hr hg1 hz)
    clear hk hr hg1 hz
    go_wp2
    go_ret2
    exact ⟨rfl, F.out⟩
end Go.Proofs.YtdfehaonngccjaaDoor

/- io.ReadAll over an io.LimitedReader over a bytes.Reader, for contents of at most 480 bytes. -/
namespace Go.Proofs.YtdfehaonngccjaaDoor
open Go Go.RowKit

def zeros512 : List Value := List.replicate 512 (.int .u8 0)
def nils4 : List Value := List.replicate 4 (.slice none 0 0)
theorem zeros512_length : zeros512.length = 512 := List.length_replicate

theorem make512 (w : World) : (Instr.makeSlice 37 (.int .i64 0) (.int .i64 512)).run Tryd.prog w = .ok (.slice (some ⟨w.heap.size, 0, none⟩) 0 512) (w.alloc (.cells zeros512.toArray 5)) := by kernel_rfl
theorem make4 (w : World) : (Instr.makeSlice 129 (.int .i64 0) (.int .i64 4)).run Tryd.prog w = .ok (.slice (some ⟨w.heap.size, 0, none⟩) 0 4) (w.alloc (.cells nils4.toArray 37)) := by kernel_rfl

theorem alloc2_block {w : World} {k : Nat} (h : k < w.heap.size) (a b : Obj) : (((w.alloc a).alloc b).drew).heap[k]? = w.heap[k]? := by
  show ((w.alloc a).alloc b).heap[k]? = _
  rw [Below.heap_alloc _ _ _ (by simp; omega), Below.heap_alloc _ _ _ h]
theorem alloc2_cell {w : World} {p : Addr} {v : Value} (h : w.cell? p = some v) (a b : Obj) : (((w.alloc a).alloc b).drew).cell? p = some v := cell_alloc (cell_alloc h a) b

end Go.Proofs.YtdfehaonngccjaaDoor

/- io.ReadAll at the reader's end. -/
namespace Go.Proofs.YtdfehaonngccjaaDoor
open Go Go.RowKit

set_option maxRecDepth 100000 in
set_option maxHeartbeats 1000000 in
theorem all_end (N : Nat) (w : World) (L R A : Nat) (l : List UInt8) (h : Rd w R A l l.length) (n : Nat) (hL : w.heap[L]? = some (.cells #[.iface 53 (.pointer (some ⟨R, 0, none⟩)), .int .i64 n] 132 (0, 0))) (hn : 0 < n) (hn2 : n < 1000000000000)
    (hE : Env N w) (hNL : N ≤ L) (_hRL : R < L) :
    Calls Tryd.prog 47 #[.iface 130 (.pointer (some ⟨L, 0, none⟩))] w fun e w' =>
      e = .returned (.tuple #[.slice (some ⟨w.heap.size, 0, none⟩) 0 512, .nilIface]) ∧ Keep w.heap.size L w w' ∧ w'.heap[w.heap.size]? = some (.cells zeros512.toArray 5 (0, 0)) := by
  obtain ⟨a, ha, hae⟩ := hE.eofErr 0
  have hm1 := make512
  have hm2 := make4
  have hna := nil_ahead_lim
  have hme := method_lim
  have heq := fun w => eql_same w a
  have hLlt := blockLt hL
  go_enter Tryd.func47, Tryd.ntmps47
  go_wp2
  refine wp_loop_rounds 1 ?_
  rw [rounds_succ]
  go_wp2
  go_region_with ((go_at_call 113; refine (lim_end _ L R A l ((h.alloc _).alloc _).drew n ((alloc2_block hLlt _ _).trans hL) hn hn2 _ a (alloc2_cell ha _ _) w.heap.size 0 512 512 (by omega) (by omega)).mono ?_; rintro e w1 ⟨rfl, hk⟩))
  have hE1 : w1.cell? ⟨0, 0, none⟩ = some (.iface 122 (.pointer (some a))) := (hk.cell (by have := hE.few; simp <;> omega) (by have := hE.few; show 0 ≠ L; omega)).trans (alloc2_cell ha _ _)
  have hz : w1.heap[w.heap.size]? = some (.cells zeros512.toArray 5 (0, 0)) := (hk.block _ (by simp <;> omega) (by omega)).trans ((Below.heap_alloc _ _ _ (by simp)).trans (heap_alloc_new w _))
  have hkk : Keep w.heap.size L w w1 := ((((Keep.refl _ L w).alloc (Nat.le_refl _) _).alloc (by simp) _).drew).trans (hk.mono (by simp <;> omega))
  have HZ := Lib.hid hz
  clear hz hk
  go_wp2
  go_ret2
  exact ⟨rfl, hkk, HZ.out⟩
end Go.Proofs.YtdfehaonngccjaaDoor

/- io.ReadAll of some contents. -/
namespace Go.Proofs.YtdfehaonngccjaaDoor
open Go Go.RowKit

set_option maxRecDepth 100000 in
set_option maxHeartbeats 4000000 in
theorem all_some (N : Nat) (w : World) (L R A : Nat) (l : List UInt8) (i : Nat) (h : Rd w R A l i) (hi : i < l.length) (n : Nat) (hL : w.heap[L]? = some (.cells #[.iface 53 (.pointer (some ⟨R, 0, none⟩)), .int .i64 n] 132 (0, 0))) (hn : 0 < n) (hn2 : n < 1000000000000)
    (hE : Env N w) (hNL : N ≤ R) (hRL : R < L) (hLA : L ≠ A) (m : Nat) (hm : m = min n (l.length - i)) (hm480 : m ≤ 480) :
    Calls Tryd.prog 47 #[.iface 130 (.pointer (some ⟨L, 0, none⟩))] w fun e w' =>
      e = .returned (.tuple #[.slice (some ⟨w.heap.size, 0, none⟩) m 512, .nilIface]) ∧ Keep L R w w' ∧ Rd w' R A l (i + m) ∧ w'.heap[w.heap.size]? = some (.cells (splice zeros512 0 (Lib.byteCells ((l.drop i).take m))).toArray 5 (0, 0)) := by
  obtain ⟨a, ha, hae⟩ := hE.eofErr 0
  have hm1 := make512
  have hm2 := make4
  have hna := nil_ahead_lim
  have hme := method_lim
  have heq := fun w => eql_same w a
  have hLlt := blockLt hL
  have hAlt := h.ltA (by omega)
  have hlen := h.len
  have hmin : min (min 512 n) (l.length - i) = m := by omega
  have htake : Lib.byteCells ((l.drop i).take (min 512 n)) = Lib.byteCells ((l.drop i).take m) := by
    congr 1
    rw [show m = min (min 512 n) (l.length - i) from hmin.symm, ← List.length_drop, List.take_eq_take_min]
  have HMIN := Lib.hid hmin
  have HT := Lib.hid htake
  have HM := Lib.hid hm
  have hm0 : 0 < m := by omega
  have hm512 : m ≤ 512 := by omega
  have hn512 : ¬ 512 = m := by omega
  have hmn : m ≤ n := by omega
  have hml : m ≤ l.length - i := by omega
  clear hmin htake hm
  go_enter Tryd.func47, Tryd.ntmps47
  go_wp2
  refine wp_loop_rounds 2 ?_
  rw [rounds_succ]
  go_wp2
  go_region_with ((go_at_call 113; refine (lim_some _ L R A l i ((h.alloc _).alloc _).drew hi n ((alloc2_block hLlt _ _).trans hL) hn hn2 w.heap.size 0 512 512 (by omega) (by omega) zeros512 ((Below.heap_alloc _ _ _ (by simp)).trans (heap_alloc_new w _)) (by omega) (by omega) (by omega) hLA (by omega) (by rw [zeros512_length]; omega) L (Nat.le_refl _)).mono ?_; rw [HMIN.out]; rintro e w1 ⟨rfl, hk, hr, hL1, hg1, hz1⟩))
  rw [HT.out] at hg1
  have hr0 : Rd w1 R A l (i + m) := hr
  have hE1 : w1.cell? ⟨0, 0, none⟩ = some (.iface 122 (.pointer (some a))) := (hk.cell (by have := hE.few; show 0 < L; omega) (by have := hE.few; show 0 ≠ R; omega)).trans (alloc2_cell ha _ _)
  have hkk : Keep L R w w1 := ((((Keep.refl L R w).alloc (by omega) _).alloc (by simp <;> omega) _).drew).trans hk
  have HG1 := Lib.hid hg1
  have HL1 := Lib.hid hL1
  have hz2 : w.heap.size + 2 ≤ w1.heap.size := by rw [hz1]; simp
  clear hk hg1 hL1 hz1
  by_cases hrem : n ≤ l.length - i
  · have hnm : n - m = 0 := by have := HM.out; omega
    go_wp2
    try rw [rounds_succ]
    go_wp2
    have hL2 : w1.drew.heap[L]? = _ := HL1.out
    have hE2 : w1.drew.cell? ⟨0, 0, none⟩ = _ := hE1
    have HL2 := Lib.hid hL2
    have HE2 := Lib.hid hE2
    clear hL2 hE2
    go_region_with ((go_at_call 113; refine (lim_zero w1.drew L _ _ HL2.out (by omega) _ HE2.out _ _ _).mono ?_; rintro e w2 ⟨rfl, hs⟩))
    have hE3 : w2.cell? ⟨0, 0, none⟩ = some (.iface 122 (.pointer (some a))) := (hs.cell _).trans hE1
    go_wp2
    go_ret2
    have hs1 : Same w1 w2 := ((Same.refl w1).drew).trans hs
    exact ⟨rfl, hkk.trans (hs1.keep _ _), hr0.heap hs1.heap, (by rw [hs1.heap]; exact HG1.out)⟩
  · have hend : i + m = l.length := by have := HM.out; omega
    have hr1 : Rd w1 R A l l.length := hend ▸ hr0
    have hnm : 0 < n - m := by have := HM.out; omega
    go_wp2
    try rw [rounds_succ]
    go_wp2
    have hL2 : w1.drew.heap[L]? = _ := HL1.out
    have hE2 : w1.drew.cell? ⟨0, 0, none⟩ = _ := hE1
    have HL2 := Lib.hid hL2
    have HE2 := Lib.hid hE2
    have HR2 := Lib.hid hr1.drew
    clear hL2 hE2
    go_region_with ((go_at_call 113; refine (lim_end w1.drew L R A l HR2.out (n - m) HL2.out hnm (by omega) _ a HE2.out _ _ _ _ (Nat.le_refl _) (by omega)).mono ?_; rintro e w2 ⟨rfl, hs⟩))
    have hE3 : w2.cell? ⟨0, 0, none⟩ = some (.iface 122 (.pointer (some a))) := (hs.cell (by have := hE.few; show 0 < w1.heap.size; omega) (by have := hE.few; show 0 ≠ L; omega)).trans hE1
    go_wp2
    go_ret2
    have hs1 : Keep w1.heap.size L w1 w2 := ((Keep.refl _ L w1).drew).trans hs
    have hRlt := hr1.lt
    refine ⟨rfl, ?_, ?_, ?_⟩
    · exact hkk.trans ((hs1.mono (by omega)).toBelow (Nat.le_refl L) |> Keep.ofBelow)
    · rw [hend]; exact hr1.stays (hs1.block R hRlt (by omega)) (hs1.block A (hr1.ltA (by omega)) (by omega))
    · exact (hs1.block _ (by omega) (by omega)).trans HG1.out
end Go.Proofs.YtdfehaonngccjaaDoor

/- Packets in memory. -/
namespace Go.Proofs.YtdfehaonngccjaaDoor
open Go Go.RowKit

/-- What Value holds. -/
def valOf (c : Nat) (b : Bool) (t : Nat) (data : List UInt8) : Value :=
  if c = 0 ∧ b = false then
    if t = 1 then .iface 4 (.bool (parseOf data != 0))
    else if t = 2 ∨ t = 10 then .iface 2 (.int .i64 (parseOf data))
    else if t = 4 then .iface 9 (.string ⟨data.toArray⟩)
    else .nilIface
  else .nilIface

/-- What ByteValue holds. -/
def BvAt (w : World) (c : Nat) (b : Bool) (data : List UInt8) (bv : Value) : Prop :=
  if c = 0 ∧ b = false then ∃ G cp, bv = .slice (some ⟨G, 0, none⟩) data.length cp ∧ ∀ j v, (Lib.byteCells data)[j]? = some v → w.cell? ⟨G, j, none⟩ = some v
  else bv = .slice none 0 0

mutual
/-- The packet in block p. -/
def Tree (w : World) (p : Nat) : Ber.Pk → Prop
  | .mk c b t data items => ∃ (D : Nat) (row : Option Nat) (C cap : Nat) (bv : Value) (xs : List Value), c < 4 ∧ t < 2 ^ 64 ∧
      w.heap[p]? = some (.cells (PkCells ((c * 64 : Nat) : Int) (if b then 32 else 0) t (valOf c b t data) bv D (.slice (some ⟨C, 0, none⟩) xs.length cap) (.string ⟨#[]⟩)) 78 (0, 0)) ∧
      BufAt w D row (Lib.byteCells (Ber.body (.mk c b t data items))) ∧ KidRow w C cap xs ∧ BvAt w c b data bv ∧ (b = false → items = []) ∧ (b = true → data = []) ∧ Kids w xs items
def Kids (w : World) (xs : List Value) : List Ber.Pk → Prop
  | [] => xs = []
  | x :: r => ∃ q vs, xs = .pointer (some ⟨q, 0, none⟩) :: vs ∧ Tree w q x ∧ Kids w vs r
end

/-- Q holds as long as the blocks from B on stand that are not of Own. -/
def Stable (B : Nat) (w : World) (Own : Nat → Prop) (Q : World → Prop) : Prop :=
  ∀ w2 : World, (∀ k, B ≤ k → k < w.heap.size → ¬ Own k → w2.heap[k]? = w.heap[k]?) → Q w2
theorem Stable.now {B : Nat} {w : World} {Own : Nat → Prop} {Q : World → Prop} (h : Stable B w Own Q) : Q w := h w fun _ _ _ _ => rfl
/-- It stays so behind what turns own blocks alone, whatever own blocks come in place. -/
theorem Stable.only {B : Nat} {w w' : World} {Own Own' S : Nat → Prop} {Q : World → Prop} (h : Stable B w Own Q) (k : Only S w w') (hS : ∀ i, B ≤ i → i < w.heap.size → S i → Own i) (hO : ∀ i, i < w.heap.size → Own' i → Own i) : Stable B w' Own' Q :=
  fun w2 h2 => h w2 fun i hB hi hn => (h2 i hB (Nat.lt_of_lt_of_le hi k.size) (fun e => hn (hO i hi e))).trans (k.block i hi (fun e => hn (hS i hB hi e)))
theorem Stable.lower {B B' : Nat} {w : World} {Own : Nat → Prop} {Q : World → Prop} (h : Stable B w Own Q) (hB : B' ≤ B) : Stable B' w Own Q :=
  fun w2 h2 => h w2 fun i hi hlt hn => h2 i (Nat.le_trans hB hi) hlt hn
theorem Stable.imp {B : Nat} {w : World} {Own : Nat → Prop} {Q Q' : World → Prop} (h : Stable B w Own Q) (k : ∀ w, Q w → Q' w) : Stable B w Own Q' := fun w2 h2 => k _ (h w2 h2)

/-- What readPacket comes to. -/
def PackOut (N B R A : Nat) (l : List UInt8) (i : Nat) (r : Ber.Res) (e : Ending) (w' : World) : Prop :=
  match r with
  | .bad => True
  | .err => ∃ n ev, e = .returned (.tuple #[.pointer none, .int .i64 n, ev]) ∧ ErrAt N B w' ev
  | .ok p rest => ∃ q k : Nat, e = .returned (.tuple #[.pointer (some ⟨q, 0, none⟩), .int .i64 k, .nilIface]) ∧ B ≤ q ∧ Stable B w' (fun _ => False) (fun w2 => Tree w2 q p) ∧ Rd w' R A l (i + k) ∧ rest = l.drop (i + k)

theorem parse_all (w : World) (G c : Nat) (l : List UInt8) (hl : l.length < 1000000000000) (hsrc : ∀ j v, (Lib.byteCells l)[j]? = some v → w.cell? ⟨G, j, none⟩ = some v) :
    Calls Tryd.prog 49 #[.slice (some ⟨G, 0, none⟩) l.length c] w fun e w' => (∃ ev, e = .returned (.tuple #[.int .i64 (parseOf l), ev])) ∧ Below w.heap.size w w' := by
  by_cases h8 : l.length ≤ 8
  · exact (parse_any w G c l h8 hsrc).mono fun e w' ⟨h1, h2⟩ => by subst h2; exact ⟨⟨_, h1⟩, Below.refl _ _⟩
  · have hp : parseOf l = 0 := by unfold parseOf; rw [if_pos (by omega)]
    rw [hp]
    go_enter Tryd.func49, Tryd.ntmps49
    go_wp2_with fail
    refine (new_any _ _).mono ?_
    rintro e w1 ⟨rfl, hw⟩
    have hb : Below w.heap.size w w1 := by rw [← hw]; exact (Below.refl _ w).alloc (Nat.le_refl _) _
    have HB := Lib.hid hb
    clear hb hw
    go_wp2
    go_ret2
    exact ⟨⟨_, rfl⟩, HB.out⟩
end Go.Proofs.YtdfehaonngccjaaDoor

/- readIdentifier. -/
namespace Go.Proofs.YtdfehaonngccjaaDoor
open Go Go.RowKit

/-- No byte is left. -/
theorem ident_end (N : Nat) (w : World) (R A : Nat) (l : List UInt8) (h : Rd w R A l l.length) (hE : Env N w) :
    Calls Tryd.prog 60 #[.iface 53 (.pointer (some ⟨R, 0, none⟩))] w fun e w' => ∃ ev n, e = .returned (.tuple #[noTag, .int .i64 n, ev]) ∧ ErrAt N w.heap.size w' ev ∧ Below w.heap.size w w' := by
  obtain ⟨a, ha, hae⟩ := hE.eofErr w.heap.size
  go_enter Tryd.func60, Tryd.ntmps60
  go_wp2_with fail
  refine (byte_end _ R A l ((h.alloc _).alloc _) _ a (cell_alloc (cell_alloc ha _) _)).mono ?_
  rintro e w1 ⟨rfl, hb⟩
  have hk1 : w1.heap[w.heap.size]? = some (.cells #[.int .u8 0, .int .u8 0, .int .u64 0] 74 (0, 0)) := (hb.block _ (by simp; omega)).trans ((Below.heap_alloc _ _ _ (by simp)).trans (heap_alloc_new w _))
  have c0 : w1.cell? ⟨w.heap.size, 0, none⟩ = some (.int .u8 0) := blockCell hk1 0
  have c1 : w1.cell? ⟨w.heap.size, 1, none⟩ = some (.int .u8 0) := blockCell hk1 1
  have c2 : w1.cell? ⟨w.heap.size, 2, none⟩ = some (.int .u64 0) := blockCell hk1 2
  have f0 := blockFrozen hk1 0
  have f1 := blockFrozen hk1 1
  have f2 := blockFrozen hk1 2
  have HK1 := Lib.hid hk1
  clear hk1
  go_wp2
  have K := three_set HK1.out (.int .u8 0) (.int .u8 0) (.int .u64 0)
  have k0 := blockCell K 0
  have k1 := blockCell K 1
  have k2 := blockCell K 2
  have hb2 : Below w.heap.size w (((w1.setCell ⟨w.heap.size, 0, none⟩ (.int .u8 0)).setCell ⟨w.heap.size, 1, none⟩ (.int .u8 0)).setCell ⟨w.heap.size, 2, none⟩ (.int .u64 0)) :=
    (((((((Below.refl _ w).alloc (Nat.le_refl _) _).alloc (by simp) _).trans (hb.mono (by simp; omega))).setCell (by simp) _).setCell (by simp) _).setCell (by simp) _)
  exact bodyPost_ret (v := .tuple #[noTag, .int .i64 0, .iface 122 (.pointer (some a))]) (by simp [results, Tryd.results60, go_sem, k0, k1, k2, noTag]) rfl ⟨_, _, rfl, hae.below hb2, hb2⟩

theorem ident_short (w : World) (R A : Nat) (l : List UInt8) (i : Nat) (h : Rd w R A l i) (hi : i < l.length) (h31 : (l[i]).toNat % 32 ≠ 31) :
    Calls Tryd.prog 60 #[.iface 53 (.pointer (some ⟨R, 0, none⟩))] w fun e w' =>
      e = .returned (.tuple #[tagValue ((l[i]).toNat / 64) (decide ((l[i]).toNat / 32 % 2 = 1)) ((l[i]).toNat % 32), .int .i64 1, .nilIface]) ∧ Keep w.heap.size R w w' ∧ Rd w' R A l (i + 1) := by
  have hR := h.lt
  have hb256 : (l[i]).toNat < 256 := (l[i]).toNat_lt
  have e192 := and192 hb256
  have e32 := and32 hb256
  have e31 := and31 hb256
  have ne31 : ((((l[i]).toNat % 32 : Nat) : Int) != 31) = true := by rw [bne_iff_ne]; omega
  go_enter Tryd.func60, Tryd.ntmps60
  go_wp2_with fail
  refine (byte_one _ R A l i ((h.alloc _).alloc _) hi).mono ?_
  rintro e w1 ⟨rfl, hk, hr⟩
  have hk0 : w1.heap[w.heap.size]? = some (.cells #[.int .u8 0, .int .u8 0, .int .u64 0] 74 (0, 0)) := (hk.block _ (by simp; omega) (by omega)).trans ((Below.heap_alloc _ _ _ (by simp)).trans (heap_alloc_new w _))
  have hk1 : w1.heap[w.heap.size + 1]? = some (.cells #[.int .u8 0, .int .u8 0, .int .u64 0] 74 (0, 0)) := (hk.block _ (by simp) (by omega)).trans (by have := heap_alloc_new (w.alloc (.cells #[.int .u8 0, .int .u8 0, .int .u64 0] 74)) (.cells #[.int .u8 0, .int .u8 0, .int .u64 0] 74); simpa using this)
  have c0 : w1.cell? ⟨w.heap.size, 0, none⟩ = some (.int .u8 0) := blockCell hk0 0
  have c1 : w1.cell? ⟨w.heap.size, 1, none⟩ = some (.int .u8 0) := blockCell hk0 1
  have c2 : w1.cell? ⟨w.heap.size, 2, none⟩ = some (.int .u64 0) := blockCell hk0 2
  have f0 := blockFrozen hk0 0
  have f1 := blockFrozen hk0 1
  have f2 := blockFrozen hk0 2
  have d0 : w1.cell? ⟨w.heap.size + 1, 0, none⟩ = some (.int .u8 0) := blockCell hk1 0
  have d1 : w1.cell? ⟨w.heap.size + 1, 1, none⟩ = some (.int .u8 0) := blockCell hk1 1
  have d2 : w1.cell? ⟨w.heap.size + 1, 2, none⟩ = some (.int .u64 0) := blockCell hk1 2
  have g0 := blockFrozen hk1 0
  have g1 := blockFrozen hk1 1
  have g2 := blockFrozen hk1 2
  have HK0 := Lib.hid hk0
  have HK1 := Lib.hid hk1
  clear hk0 hk1
  go_wp2
  have K1 := three_set HK1.out (.int .u8 (((l[i]).toNat : Int) / 64 * 64)) (.int .u8 (((l[i]).toNat : Int) / 32 % 2 * 32)) (.int .u64 (((l[i]).toNat : Int) % 32))
  have K0 := three_set ((three_other (w := w1) (g := w.heap.size + 1) (k := w.heap.size) (by omega) (.int .u8 (((l[i]).toNat : Int) / 64 * 64)) (.int .u8 (((l[i]).toNat : Int) / 32 % 2 * 32)) (.int .u64 (((l[i]).toNat : Int) % 32))).trans HK0.out)
    (.int .u8 (((l[i]).toNat : Int) / 64 * 64)) (.int .u8 (((l[i]).toNat : Int) / 32 % 2 * 32)) (.int .u64 (((l[i]).toNat : Int) % 32))
  have k0 := blockCell K0 0
  have k1 := blockCell K0 1
  have k2 := blockCell K0 2
  refine bodyPost_ret (v := .tuple #[.agg #[.int .u8 (((l[i]).toNat : Int) / 64 * 64), .int .u8 (((l[i]).toNat : Int) / 32 % 2 * 32), .int .u64 (((l[i]).toNat : Int) % 32)], .int .i64 1, .nilIface])
    (by simp [results, Tryd.results60, go_sem, k0, k1, k2]) rfl ⟨?_, ?_, ?_⟩
  · rw [show (((l[i]).toNat : Int) % 32) = (((l[i]).toNat % 32 : Nat) : Int) by omega, tagValue_eq]
  · refine three_keep (three_keep ?_ (by omega) _ _ _) (Nat.le_refl _) _ _ _
    exact (((Keep.refl _ R w).alloc (Nat.le_refl _) _).alloc (by simp) _).trans (hk.mono (by simp; omega))
  · have hA := h.ltA (by omega)
    exact (hr.three (by omega) (by omega) _ _ _).three (by omega) (by omega) _ _ _
end Go.Proofs.YtdfehaonngccjaaDoor

/- readIdentifier, tags of several bytes. -/
namespace Go.Proofs.YtdfehaonngccjaaDoor
open Go Go.RowKit

/-- What readIdentifier comes to. -/
def IdentOut (N B R A : Nat) (l : List UInt8) (i : Nat) (e : Ending) (w' : World) : Prop :=
  match Ber.ident (l.drop i) with
  | none => ∃ ev n, e = .returned (.tuple #[noTag, .int .i64 n, ev]) ∧ ErrAt N B w' ev
  | some (c, b, t, rest) => ∃ k : Nat, e = .returned (.tuple #[tagValue c b t, .int .i64 k, .nilIface]) ∧ Rd w' R A l (i + k) ∧ rest = l.drop (i + k)

/-- The round's head. -/
def HighInv (B R A : Nat) (l : List UInt8) (i : Nat) (w : World) (cv dv : Value) (t6 t10 : Value) (wr : World) : Prop :=
  ∃ k acc : Nat, k ≤ 9 ∧ acc < 2 ^ (7 * k) ∧ t10 = .int .i64 k ∧ t6 = .int .i64 ((k + 1 : Nat) : Int) ∧ Rd wr R A l (i + 1 + k) ∧ Keep B R w wr ∧ B + 2 ≤ wr.heap.size ∧
    wr.heap[B]? = some (.cells #[.int .u8 0, .int .u8 0, .int .u64 0] 74 (0, 0)) ∧
    wr.heap[B + 1]? = some (.cells #[cv, dv, .int .u64 acc] 74 (0, 0)) ∧
    Ber.high (l.drop (i + 1)) 0 0 = Ber.high (l.drop (i + 1 + k)) acc k

theorem ident_drop {l : List UInt8} {i : Nat} (hi : i < l.length) (h31 : (l[i]).toNat % 32 = 31) :
    Ber.ident (l.drop i) = (Ber.high (l.drop (i + 1)) 0 0).map fun r => ((l[i]).toNat / 64, decide ((l[i]).toNat / 32 % 2 = 1), r.1, r.2) := by
  rw [List.drop_eq_getElem_cons hi]; simp [Ber.ident, h31]
theorem high_end {l : List UInt8} {n acc k : Nat} (h : l.length ≤ n) : Ber.high (l.drop n) acc k = none := by
  rw [List.drop_of_length_le h]; rfl
theorem high_step {l : List UInt8} {n acc k : Nat} (h : n < l.length) : Ber.high (l.drop n) acc k =
    if k = 0 ∧ (l[n]).toNat % 128 = 0 then none else if 9 ≤ k then none else if (l[n]).toNat < 128 then some (acc * 128 + (l[n]).toNat % 128, l.drop (n + 1)) else Ber.high (l.drop (n + 1)) (acc * 128 + (l[n]).toNat % 128) (k + 1) := by
  rw [List.drop_eq_getElem_cons h]; rfl

theorem or_step {acc v k : Nat} (hacc : acc < 2 ^ (7 * k)) (hk : k ≤ 8) : bits .or .u64 (IntKind.u64.wrap ((acc : Int) * 128)) ((v : Int) % 128) = (acc : Int) * 128 + (v : Int) % 128 := by
  have h56 : acc < 2 ^ 56 := Nat.lt_of_lt_of_le hacc (Nat.pow_le_pow_right (by decide) (by omega))
  have hw : IntKind.u64.wrap ((acc : Int) * 128) = ((acc * 128 : Nat) : Int) := by rw [wraps_u64 _ (by omega) (by omega)]; omega
  have hm : ((v : Int) % 128) = ((v % 128 : Nat) : Int) := by omega
  rw [hw, hm, or_low (by omega) (by omega) (by omega)]; omega
theorem acc_step {acc v k : Nat} (hacc : acc < 2 ^ (7 * k)) : acc * 128 + v % 128 < 2 ^ (7 * (k + 1)) := by
  have : 2 ^ (7 * (k + 1)) = 2 ^ (7 * k) * 128 := by rw [Nat.mul_add, Nat.pow_add]
  omega

/-- A way out with an error. -/
theorem ident_fail (N R A : Nat) (l : List UInt8) (i : Nat) (w wx : World) (ev : Value) (n : Int) (hk : Keep w.heap.size R w wx) (he : ErrAt N (w.heap.size + 2) wx ev) (hN : N ≤ w.heap.size)
    (hnone : Ber.ident (l.drop i) = none) :
    IdentOut N w.heap.size R A l i (.returned (.tuple #[noTag, .int .i64 n, ev])) (((wx.setCell ⟨w.heap.size, 0, none⟩ (.int .u8 0)).setCell ⟨w.heap.size, 1, none⟩ (.int .u8 0)).setCell ⟨w.heap.size, 2, none⟩ (.int .u64 0)) ∧
      Keep w.heap.size R w (((wx.setCell ⟨w.heap.size, 0, none⟩ (.int .u8 0)).setCell ⟨w.heap.size, 1, none⟩ (.int .u8 0)).setCell ⟨w.heap.size, 2, none⟩ (.int .u64 0)) := by
  refine ⟨?_, three_keep hk (Nat.le_refl _) _ _ _⟩
  unfold IdentOut
  rw [hnone]
  exact ⟨ev, n, rfl, (((he.setCell (by simpa using hN) (by simp) _).setCell (by simpa using hN) (by simp) _).setCell (by simpa using hN) (by simp) _).mono (by omega)⟩

/-- The way out with a tag. -/
theorem ident_done (N B R A : Nat) (l : List UInt8) (i : Nat) (wx : World) (x t k : Nat) (n : Int) (hn : n = ((k + 2 : Nat) : Int)) (tt : Int) (ht : tt = (t : Int)) (hr : Rd wx R A l (i + (k + 2)))
    (h : Ber.ident (l.drop i) = some (x / 64, decide (x / 32 % 2 = 1), t, l.drop (i + 1 + k + 1))) :
    IdentOut N B R A l i (.returned (.tuple #[.agg #[.int .u8 ((x : Int) / 64 * 64), .int .u8 ((x : Int) / 32 % 2 * 32), .int .u64 tt], .int .i64 n, .nilIface])) wx := by
  unfold IdentOut
  rw [h, hn, ht]
  exact ⟨k + 2, by rw [tagValue_eq], hr, by rw [show i + 1 + k + 1 = i + (k + 2) by omega]⟩

set_option maxHeartbeats 4000000 in
theorem ident_high (N : Nat) (w : World) (R A : Nat) (l : List UInt8) (i : Nat) (h : Rd w R A l i) (hi : i < l.length) (h31 : (l[i]).toNat % 32 = 31) (hE : Env N w) (hN : N ≤ R) :
    Calls Tryd.prog 60 #[.iface 53 (.pointer (some ⟨R, 0, none⟩))] w fun e w' => IdentOut N w.heap.size R A l i e w' ∧ Keep w.heap.size R w w' := by
  have hR := h.lt
  have hlen := h.len
  have hA := h.ltA (by omega)
  have hb256 : (l[i]).toNat < 256 := (l[i]).toNat_lt
  have e192 := and192 hb256
  have e32 := and32 hb256
  have e31 := and31 hb256
  have ne31 : ((((l[i]).toNat % 32 : Nat) : Int) != 31) = false := by rw [bne_eq_false_iff_eq]; omega
  go_enter Tryd.func60, Tryd.ntmps60
  go_wp2_with fail
  refine (byte_one _ R A l i ((h.alloc _).alloc _) hi).mono ?_
  rintro e w1 ⟨rfl, hk, hr⟩
  have hk0 : w1.heap[w.heap.size]? = some (.cells #[.int .u8 0, .int .u8 0, .int .u64 0] 74 (0, 0)) := (hk.block _ (by simp; omega) (by omega)).trans ((Below.heap_alloc _ _ _ (by simp)).trans (heap_alloc_new w _))
  have hk1 : w1.heap[w.heap.size + 1]? = some (.cells #[.int .u8 0, .int .u8 0, .int .u64 0] 74 (0, 0)) := (hk.block _ (by simp) (by omega)).trans (by have := heap_alloc_new (w.alloc (.cells #[.int .u8 0, .int .u8 0, .int .u64 0] 74)) (.cells #[.int .u8 0, .int .u8 0, .int .u64 0] 74); simpa using this)
  have hkk : Keep w.heap.size R w w1 := (((Keep.refl _ R w).alloc (Nat.le_refl _) _).alloc (by simp) _).trans (hk.mono (by simp; omega))
  have hsz : w.heap.size + 2 ≤ w1.heap.size := by have := hk.size; simp at this; omega
  have d0 : w1.cell? ⟨w.heap.size + 1, 0, none⟩ = some (.int .u8 0) := blockCell hk1 0
  have d1 : w1.cell? ⟨w.heap.size + 1, 1, none⟩ = some (.int .u8 0) := blockCell hk1 1
  have g0 := blockFrozen hk1 0
  have g1 := blockFrozen hk1 1
  have HK0 := Lib.hid hk0
  have HK1 := Lib.hid hk1
  clear hk0 hk1 hk
  go_wp2
  go_loopw [6, 10] (fun t6 t10 wr => HighInv w.heap.size R A l i w (.int .u8 (((l[i]).toNat : Int) / 64 * 64)) (.int .u8 (((l[i]).toNat : Int) / 32 % 2 * 32)) t6 t10 wr) (fun t6 _ _ => l.length + 10 - (intOf t6).toNat)
  case atStart =>
    refine ⟨0, 0, by omega, by decide, rfl, rfl, ?_, ?_, ?_, ?_, ?_, rfl⟩
    · exact hr.stays (by rw [Below.heap_setCell _ _ _ _ (by simp; omega), Below.heap_setCell _ _ _ _ (by simp; omega)]) (by rw [Below.heap_setCell _ _ _ _ (by simp; omega), Below.heap_setCell _ _ _ _ (by simp; omega)])
    · exact (hkk.setCell (Or.inl (by simp)) _).setCell (Or.inl (by simp)) _
    · simpa [World.setCell] using hsz
    · rw [Below.heap_setCell _ _ _ _ (by simp), Below.heap_setCell _ _ _ _ (by simp)]; exact HK0.out
    · have := blockSet (blockSet HK1.out 0 (.int .u8 (((l[i]).toNat : Int) / 64 * 64))) 1 (.int .u8 (((l[i]).toNat : Int) / 32 % 2 * 32))
      simpa using this
  case round =>
    obtain ⟨k, acc, hk9, hacc, rfl, rfl, hrr, hkp, hsz2, hb0, hb1, hhigh⟩ := hrel
    have hE' := Lib.hid (hE.keep hkp (by omega) hN)
    obtain ⟨a, ha, hae⟩ := hE'.out.eofErr (w.heap.size + 2)
    have HB0 := Lib.hid hb0
    have HB1 := Lib.hid hb1
    have HH := Lib.hid hhigh
    clear hb0 hb1 hhigh
    by_cases hend : i + 1 + k = l.length
    · have hr' : Rd wr R A l l.length := hend ▸ hrr
      clear hrr
      go_wp2_with fail
      refine (byte_end _ R A l hr' _ a ha).mono ?_
      rintro e w2 ⟨rfl, hb⟩
      have hae2 := hae.below hb
      have hb2 : w2.heap[w.heap.size]? = some (.cells #[.int .u8 0, .int .u8 0, .int .u64 0] 74 (0, 0)) := (hb.block _ (by omega)).trans HB0.out
      have hE2 := Lib.hid (hE'.out.below hb (by omega))
      have c0 : w2.cell? ⟨w.heap.size, 0, none⟩ = some (.int .u8 0) := blockCell hb2 0
      have c1 : w2.cell? ⟨w.heap.size, 1, none⟩ = some (.int .u8 0) := blockCell hb2 1
      have c2 : w2.cell? ⟨w.heap.size, 2, none⟩ = some (.int .u64 0) := blockCell hb2 2
      have f0 := blockFrozen hb2 0
      have f1 := blockFrozen hb2 1
      have f2 := blockFrozen hb2 2
      have HB2 := Lib.hid hb2
      clear hb2
      go_wp2_with fail
      refine (uneof_any N (w.heap.size + 2) w2 hE2.out _ hae2).mono ?_
      rintro e w3 ⟨ev, rfl, hev, rfl⟩
      go_wp2
      have K := three_set HB2.out (.int .u8 0) (.int .u8 0) (.int .u64 0)
      have k0 := blockCell K 0
      have k1 := blockCell K 1
      have k2 := blockCell K 2
      refine bodyPost_ret (v := .tuple #[noTag, .int .i64 ((k : Int) + 1), ev]) (by simp [results, Tryd.results60, go_sem, k0, k1, k2, noTag]) rfl ?_
      exact ident_fail N R A l i w w2 ev _ (hkp.trans (Keep.ofBelow (hb.mono (by omega)))) hev (by omega) (by rw [ident_drop hi h31, HH.out, high_end (by omega)]; rfl)
    · have hlt : i + 1 + k < l.length := by have := hrr.pos; omega
      have hv256 : (l[i + 1 + k]).toNat < 256 := (l[i + 1 + k]).toNat_lt
      have v127 := and127 hv256
      have v128 := and128 hv256
      have hc0 : wr.cell? ⟨w.heap.size, 0, none⟩ = some (.int .u8 0) := blockCell HB0.out 0
      go_wp2_with fail
      refine (byte_one _ R A l _ hrr hlt).mono ?_
      rintro e w2 ⟨rfl, hk2, hr2⟩
      have hb20 : w2.heap[w.heap.size]? = some (.cells #[.int .u8 0, .int .u8 0, .int .u64 0] 74 (0, 0)) := (hk2.block _ (by omega) (by omega)).trans HB0.out
      have hb21 := (hk2.block _ (by omega) (by omega)).trans HB1.out
      have c0 : w2.cell? ⟨w.heap.size, 0, none⟩ = some (.int .u8 0) := blockCell hb20 0
      have c1 : w2.cell? ⟨w.heap.size, 1, none⟩ = some (.int .u8 0) := blockCell hb20 1
      have c2 : w2.cell? ⟨w.heap.size, 2, none⟩ = some (.int .u64 0) := blockCell hb20 2
      have f0 := blockFrozen hb20 0
      have f1 := blockFrozen hb20 1
      have f2 := blockFrozen hb20 2
      have d2 : w2.cell? ⟨w.heap.size + 1, 2, none⟩ = some (.int .u64 acc) := blockCell hb21 2
      have g2 := blockFrozen hb21 2
      have HB20 := Lib.hid hb20
      have HB21 := Lib.hid hb21
      clear hb20 hb21
      have d0 : w2.cell? ⟨w.heap.size + 1, 0, none⟩ = some (.int .u8 (((l[i]).toNat : Int) / 64 * 64)) := blockCell HB21.out 0
      have d1 : w2.cell? ⟨w.heap.size + 1, 1, none⟩ = some (.int .u8 (((l[i]).toNat : Int) / 32 % 2 * 32)) := blockCell HB21.out 1
      have hsz3 := hk2.size
      have hkk2 : Keep w.heap.size R w w2 := hkp.trans (hk2.mono (by omega))
      have hstep := high_step (acc := acc) (k := k) hlt
      have HS := Lib.hid hstep
      clear hstep
      by_cases h9 : k = 9
      · have h9' : 9 ≤ k := by omega
        clear h9
        go_wp2_with fail
        refine (new_err _ (by decide) (by decide) N _).mono ?_
        rintro e w3 ⟨ev, rfl, hev, hb3⟩
        have hb30 : w3.heap[w.heap.size]? = some (.cells #[.int .u8 0, .int .u8 0, .int .u64 0] 74 (0, 0)) := (hb3.block _ (by simp [World.setCell]; omega)).trans (by rw [Below.heap_setCell _ _ _ _ (by simp), Below.heap_setCell _ _ _ _ (by simp)]; exact HB20.out)
        have hkk3 : Keep w.heap.size R w w3 := ((hkk2.setCell (Or.inl (by simp)) _).setCell (Or.inl (by simp)) _).trans (Keep.ofBelow (hb3.mono (by simp [World.setCell]; omega)))
        have e0 : w3.cell? ⟨w.heap.size, 0, none⟩ = some (.int .u8 0) := blockCell hb30 0
        have e1 : w3.cell? ⟨w.heap.size, 1, none⟩ = some (.int .u8 0) := blockCell hb30 1
        have e2 : w3.cell? ⟨w.heap.size, 2, none⟩ = some (.int .u64 0) := blockCell hb30 2
        have p0 := blockFrozen hb30 0
        have p1 := blockFrozen hb30 1
        have p2 := blockFrozen hb30 2
        have HB30 := Lib.hid hb30
        clear hb30
        go_wp2
        have K := three_set HB30.out (.int .u8 0) (.int .u8 0) (.int .u64 0)
        have k0 := blockCell K 0
        have k1 := blockCell K 1
        have k2 := blockCell K 2
        refine bodyPost_ret (v := .tuple #[noTag, .int .i64 ((k : Int) + 1 + 1), ev]) (by simp [results, Tryd.results60, go_sem, k0, k1, k2, noTag]) rfl ?_
        exact ident_fail N R A l i w w3 ev _ hkk3 (hev.mono (by simp [World.setCell]; omega)) (by omega) (by rw [ident_drop hi h31, HH.out, HS.out]; simp [h9'])
      · have hk8 : k ≤ 8 := by omega
        clear h9
        have hO := or_step (v := (l[i + 1 + k]).toNat) hacc hk8
        have hacc1 := acc_step (v := (l[i + 1 + k]).toNat) hacc
        have HA1 := Lib.hid hacc1
        have HA0 := Lib.hid hacc
        clear hacc hacc1
        by_cases h0 : k = 0 ∧ (l[i + 1 + k]).toNat % 128 = 0
        · have hacc0 : acc = 0 := by have := HA0.out; rw [h0.1] at this; omega
          have hT : ((acc : Int) * 128 + ((l[i + 1 + k]).toNat : Int) % 128 == 0) = true := by rw [beq_iff_eq]; omega
          have hk0 : k ≤ 0 := by omega
          have H0 := Lib.hid h0
          clear h0 hacc0
          go_wp2_with fail
          refine (new_err _ (by decide) (by decide) N _).mono ?_
          rintro e w3 ⟨ev, rfl, hev, hb3⟩
          have hb30 : w3.heap[w.heap.size]? = some (.cells #[.int .u8 0, .int .u8 0, .int .u64 0] 74 (0, 0)) := (hb3.block _ (by simp [World.setCell]; omega)).trans (by rw [Below.heap_setCell _ _ _ _ (by simp), Below.heap_setCell _ _ _ _ (by simp)]; exact HB20.out)
          have hkk3 : Keep w.heap.size R w w3 := ((hkk2.setCell (Or.inl (by simp)) _).setCell (Or.inl (by simp)) _).trans (Keep.ofBelow (hb3.mono (by simp [World.setCell]; omega)))
          have e0 : w3.cell? ⟨w.heap.size, 0, none⟩ = some (.int .u8 0) := blockCell hb30 0
          have e1 : w3.cell? ⟨w.heap.size, 1, none⟩ = some (.int .u8 0) := blockCell hb30 1
          have e2 : w3.cell? ⟨w.heap.size, 2, none⟩ = some (.int .u64 0) := blockCell hb30 2
          have p0 := blockFrozen hb30 0
          have p1 := blockFrozen hb30 1
          have p2 := blockFrozen hb30 2
          have HB30 := Lib.hid hb30
          clear hb30
          go_wp2
          have K := three_set HB30.out (.int .u8 0) (.int .u8 0) (.int .u64 0)
          have k0 := blockCell K 0
          have k1 := blockCell K 1
          have k2 := blockCell K 2
          refine bodyPost_ret (v := .tuple #[noTag, .int .i64 2, ev]) (by simp [results, Tryd.results60, go_sem, k0, k1, k2, noTag]) rfl ?_
          exact ident_fail N R A l i w w3 ev _ hkk3 (hev.mono (by simp [World.setCell]; omega)) (by omega) (by rw [ident_drop hi h31, HH.out, HS.out, if_pos H0.out]; rfl)
        · have hT : k ≤ 0 → ((acc : Int) * 128 + ((l[i + 1 + k]).toNat : Int) % 128 == 0) = false := fun hk0 => by rw [beq_eq_false_iff_ne]; omega
          have K21 : ∀ x y : Value, ((w2.setCell ⟨w.heap.size + 1, 2, none⟩ x).setCell ⟨w.heap.size + 1, 2, none⟩ y).heap[w.heap.size + 1]? = some (.cells #[.int .u8 (((l[i]).toNat : Int) / 64 * 64), .int .u8 (((l[i]).toNat : Int) / 32 % 2 * 32), y] 74 (0, 0)) := fun x y => by
            have := blockSet (blockSet HB21.out 2 x) 2 y
            simpa using this
          have K20 : ∀ x y : Value, ((w2.setCell ⟨w.heap.size + 1, 2, none⟩ x).setCell ⟨w.heap.size + 1, 2, none⟩ y).heap[w.heap.size]? = some (.cells #[.int .u8 0, .int .u8 0, .int .u64 0] 74 (0, 0)) := fun x y => by
            rw [Below.heap_setCell _ _ _ _ (by simp), Below.heap_setCell _ _ _ _ (by simp)]; exact HB20.out
          have H21 := Lib.hid K21
          have H20 := Lib.hid K20
          clear K21 K20
          by_cases h128 : (l[i + 1 + k]).toNat < 128
          · have t128 : (((l[i + 1 + k]).toNat : Int) / 128 * 128 == 0) = true := by rw [beq_iff_eq]; omega
            have HN0 := Lib.hid h0
            clear h0
            by_cases hk0 : k ≤ 0
            all_goals
              go_wp2_with fail
              have K := three_set (H20.out (.int .u64 (IntKind.u64.wrap ((acc : Int) * 128))) (.int .u64 ((acc : Int) * 128 + ((l[i + 1 + k]).toNat : Int) % 128))) (.int .u8 (((l[i]).toNat : Int) / 64 * 64)) (.int .u8 (((l[i]).toNat : Int) / 32 % 2 * 32)) (.int .u64 ((acc : Int) * 128 + ((l[i + 1 + k]).toNat : Int) % 128))
              have k0 := blockCell K 0
              have k1 := blockCell K 1
              have k2 := blockCell K 2
              have hid : Ber.ident (l.drop i) = some ((l[i]).toNat / 64, decide ((l[i]).toNat / 32 % 2 = 1), acc * 128 + (l[i + 1 + k]).toNat % 128, l.drop (i + 1 + k + 1)) := by
                rw [ident_drop hi h31, HH.out, HS.out, if_neg HN0.out, if_neg (by omega), if_pos h128]; rfl
              have hr3 : Rd w2 R A l (i + (k + 2)) := by rw [show i + (k + 2) = i + 1 + k + 1 by omega]; exact hr2
              have hr4 := ((hr3.stays (w' := (w2.setCell ⟨w.heap.size + 1, 2, none⟩ (.int .u64 (IntKind.u64.wrap ((acc : Int) * 128)))).setCell ⟨w.heap.size + 1, 2, none⟩ (.int .u64 ((acc : Int) * 128 + ((l[i + 1 + k]).toNat : Int) % 128)))
                (by rw [Below.heap_setCell _ _ _ _ (by simp; omega), Below.heap_setCell _ _ _ _ (by simp; omega)]) (by rw [Below.heap_setCell _ _ _ _ (by simp; omega), Below.heap_setCell _ _ _ _ (by simp; omega)])).three (g := w.heap.size) (by omega) (by omega) (.int .u8 (((l[i]).toNat : Int) / 64 * 64)) (.int .u8 (((l[i]).toNat : Int) / 32 % 2 * 32)) (.int .u64 ((acc : Int) * 128 + ((l[i + 1 + k]).toNat : Int) % 128)))
              have hkk4 := three_keep ((hkk2.setCell (p := ⟨w.heap.size + 1, 2, none⟩) (Or.inl (by simp)) (.int .u64 (IntKind.u64.wrap ((acc : Int) * 128)))).setCell (p := ⟨w.heap.size + 1, 2, none⟩) (Or.inl (by simp)) (.int .u64 ((acc : Int) * 128 + ((l[i + 1 + k]).toNat : Int) % 128))) (Nat.le_refl _) (.int .u8 (((l[i]).toNat : Int) / 64 * 64)) (.int .u8 (((l[i]).toNat : Int) / 32 % 2 * 32)) (.int .u64 ((acc : Int) * 128 + ((l[i + 1 + k]).toNat : Int) % 128))
              first
                | (refine bodyPost_ret (v := .tuple #[.agg #[.int .u8 (((l[i]).toNat : Int) / 64 * 64), .int .u8 (((l[i]).toNat : Int) / 32 % 2 * 32), .int .u64 ((acc : Int) * 128 + ((l[i + 1 + k]).toNat : Int) % 128)], .int .i64 2, .nilIface]) (by simp [results, Tryd.results60, go_sem, k0, k1, k2]) rfl ?_
                   exact ⟨ident_done N _ R A l i _ _ _ k 2 (by omega) _ (by omega) hr4 hid, hkk4⟩)
                | (refine bodyPost_ret (v := .tuple #[.agg #[.int .u8 (((l[i]).toNat : Int) / 64 * 64), .int .u8 (((l[i]).toNat : Int) / 32 % 2 * 32), .int .u64 ((acc : Int) * 128 + ((l[i + 1 + k]).toNat : Int) % 128)], .int .i64 ((k : Int) + 1 + 1), .nilIface]) (by simp [results, Tryd.results60, go_sem, k0, k1, k2]) rfl ?_
                   exact ⟨ident_done N _ R A l i _ _ _ k _ (by omega) _ (by omega) hr4 hid, hkk4⟩)
          · have t128 : (((l[i + 1 + k]).toNat : Int) / 128 * 128 == 0) = false := by rw [beq_eq_false_iff_ne]; omega
            have HN0 := Lib.hid h0
            clear h0
            have hr4 := (hr2.stays (w' := (w2.setCell ⟨w.heap.size + 1, 2, none⟩ (.int .u64 (IntKind.u64.wrap ((acc : Int) * 128)))).setCell ⟨w.heap.size + 1, 2, none⟩ (.int .u64 ((acc : Int) * 128 + ((l[i + 1 + k]).toNat : Int) % 128)))
                (by rw [Below.heap_setCell _ _ _ _ (by simp; omega), Below.heap_setCell _ _ _ _ (by simp; omega)]) (by rw [Below.heap_setCell _ _ _ _ (by simp; omega), Below.heap_setCell _ _ _ _ (by simp; omega)]))
            have hkk4 := ((hkk2.setCell (p := ⟨w.heap.size + 1, 2, none⟩) (Or.inl (by simp)) (.int .u64 (IntKind.u64.wrap ((acc : Int) * 128)))).setCell (p := ⟨w.heap.size + 1, 2, none⟩) (Or.inl (by simp)) (.int .u64 ((acc : Int) * 128 + ((l[i + 1 + k]).toNat : Int) % 128)))
            have hnext : Ber.high (l.drop (i + 1)) 0 0 = Ber.high (l.drop (i + 1 + k + 1)) (acc * 128 + (l[i + 1 + k]).toNat % 128) (k + 1) := by rw [HH.out, HS.out, if_neg HN0.out, if_neg (by omega), if_neg h128]
            have HNX := Lib.hid hnext
            have HR4 := Lib.hid hr4
            have HK4 := Lib.hid hkk4
            clear hnext hr4 hkk4
            by_cases hk0 : k ≤ 0
            all_goals
              go_wp2_with fail
              go_roundw
              case rel => exact ⟨k + 1, acc * 128 + (l[i + 1 + k]).toNat % 128, by omega, HA1.out, by first | rfl | go_num, by first | rfl | go_num, HR4.out, HK4.out, by simp [World.setCell]; omega, H20.out _ _, by simpa using H21.out _ _, HNX.out⟩
              case measure => simp [intOf]; omega
end Go.Proofs.YtdfehaonngccjaaDoor

/- readIdentifier, every input. -/
namespace Go.Proofs.YtdfehaonngccjaaDoor
open Go Go.RowKit

theorem ident_any (N : Nat) (w : World) (R A : Nat) (l : List UInt8) (i : Nat) (h : Rd w R A l i) (hE : Env N w) (hN : N ≤ R) :
    Calls Tryd.prog 60 #[.iface 53 (.pointer (some ⟨R, 0, none⟩))] w fun e w' => IdentOut N w.heap.size R A l i e w' ∧ Keep w.heap.size R w w' := by
  have hp := h.pos
  by_cases hi : i < l.length
  · by_cases h31 : (l[i]).toNat % 32 = 31
    · exact ident_high N w R A l i h hi h31 hE hN
    · refine (ident_short w R A l i h hi h31).mono fun e w' ⟨he, hk, hr⟩ => ⟨?_, hk⟩
      unfold IdentOut
      have : Ber.ident (l.drop i) = some ((l[i]).toNat / 64, decide ((l[i]).toNat / 32 % 2 = 1), (l[i]).toNat % 32, l.drop (i + 1)) := by
        rw [List.drop_eq_getElem_cons hi]; simp [Ber.ident, h31]
      rw [this]
      exact ⟨1, by rw [he]; rfl, hr, rfl⟩
  · obtain rfl : i = l.length := by omega
    refine (ident_end N w R A l h hE).mono fun e w' ⟨ev, n, he, hev, hb⟩ => ⟨?_, Keep.ofBelow hb⟩
    unfold IdentOut
    rw [show l.drop l.length = [] by simp]
    exact ⟨ev, n, he, hev⟩
end Go.Proofs.YtdfehaonngccjaaDoor

/- readHeader, every input. -/
namespace Go.Proofs.YtdfehaonngccjaaDoor
open Go Go.RowKit

def three_ (w : World) (g : Nat) (a b c : Value) : World := ((w.setCell ⟨g, 0, none⟩ a).setCell ⟨g, 1, none⟩ b).setCell ⟨g, 2, none⟩ c

/-- What readHeader comes to. -/
def HeadOut (N B R A : Nat) (l : List UInt8) (i : Nat) (e : Ending) (w' : World) : Prop :=
  match Ber.header (l.drop i) with
  | none => ∃ a b ev, e = .returned (.tuple #[noTag, .int .i64 a, .int .i64 b, ev]) ∧ ErrAt N B w' ev
  | some (c, b, t, len, rest) => ∃ k : Nat, e = .returned (.tuple #[tagValue c b t, .int .i64 (lenInt len), .int .i64 k, .nilIface]) ∧ Rd w' R A l (i + k) ∧ rest = l.drop (i + k)

theorem head_fail (N R A : Nat) (l : List UInt8) (i : Nat) (w wx : World) (ev : Value) (n m : Int) (hk : Keep w.heap.size R w wx) (he : ErrAt N (w.heap.size + 2) wx ev) (hN : N ≤ w.heap.size)
    (hnone : Ber.header (l.drop i) = none) :
    HeadOut N w.heap.size R A l i (.returned (.tuple #[noTag, .int .i64 n, .int .i64 m, ev])) (((wx.setCell ⟨w.heap.size, 0, none⟩ (.int .u8 0)).setCell ⟨w.heap.size, 1, none⟩ (.int .u8 0)).setCell ⟨w.heap.size, 2, none⟩ (.int .u64 0)) ∧
      Keep w.heap.size R w (((wx.setCell ⟨w.heap.size, 0, none⟩ (.int .u8 0)).setCell ⟨w.heap.size, 1, none⟩ (.int .u8 0)).setCell ⟨w.heap.size, 2, none⟩ (.int .u64 0)) := by
  refine ⟨?_, three_keep hk (Nat.le_refl _) _ _ _⟩
  unfold HeadOut
  rw [hnone]
  exact ⟨n, m, ev, rfl, (((he.setCell (by simpa using hN) (by simp) _).setCell (by simpa using hN) (by simp) _).setCell (by simpa using hN) (by simp) _).mono (by omega)⟩

theorem tagValue_open (c : Nat) (b : Bool) (t : Nat) : ∃ x y z : Int, tagValue c b t = .agg #[.int .u8 x, .int .u8 y, .int .u64 z] ∧ (b = true → (y == 0) = false) ∧ (b = false → (y == 0) = true) :=
  ⟨_, _, _, rfl, fun h => by subst h; rfl, fun h => by subst h; rfl⟩

set_option maxHeartbeats 1000000 in
theorem head_any (N : Nat) (w : World) (R A : Nat) (l : List UInt8) (i : Nat) (h : Rd w R A l i) (hE : Env N w) (hN : N ≤ R) :
    Calls Tryd.prog 44 #[.iface 53 (.pointer (some ⟨R, 0, none⟩))] w fun e w' => HeadOut N w.heap.size R A l i e w' ∧ Keep w.heap.size R w w' := by
  have hR := h.lt
  have hlen := h.len
  go_enter Tryd.func44, Tryd.ntmps44
  go_wp2_with fail
  have hE0 := (hE.stays (w' := (w.alloc (.cells #[.int .u8 0, .int .u8 0, .int .u64 0] 74)).alloc (.cells #[.int .u8 0, .int .u8 0, .int .u64 0] 74)) (fun b hb => by rw [Below.heap_alloc _ _ _ (by simp; omega), Below.heap_alloc _ _ _ (by omega)]))
  refine (ident_any N _ R A l i ((h.alloc _).alloc _) hE0 hN).mono ?_
  rintro e w1 ⟨ho, hk⟩
  have hk0 : w1.heap[w.heap.size]? = some (.cells #[.int .u8 0, .int .u8 0, .int .u64 0] 74 (0, 0)) := (hk.block _ (by simp; omega) (by omega)).trans ((Below.heap_alloc _ _ _ (by simp)).trans (heap_alloc_new w _))
  have hk1 : w1.heap[w.heap.size + 1]? = some (.cells #[.int .u8 0, .int .u8 0, .int .u64 0] 74 (0, 0)) := (hk.block _ (by simp) (by omega)).trans (by have := heap_alloc_new (w.alloc (.cells #[.int .u8 0, .int .u8 0, .int .u64 0] 74)) (.cells #[.int .u8 0, .int .u8 0, .int .u64 0] 74); simpa using this)
  have hkk : Keep w.heap.size R w w1 := (((Keep.refl _ R w).alloc (Nat.le_refl _) _).alloc (by simp) _).trans (hk.mono (by simp; omega))
  have hsz : w.heap.size + 2 ≤ w1.heap.size := by have := hk.size; simp at this; omega
  have HE1 := Lib.hid (hE0.keep hk (by simp; omega) hN)
  clear hE0 hk
  have c0 : w1.cell? ⟨w.heap.size, 0, none⟩ = some (.int .u8 0) := blockCell hk0 0
  have c1 : w1.cell? ⟨w.heap.size, 1, none⟩ = some (.int .u8 0) := blockCell hk0 1
  have c2 : w1.cell? ⟨w.heap.size, 2, none⟩ = some (.int .u64 0) := blockCell hk0 2
  have f0 := blockFrozen hk0 0
  have f1 := blockFrozen hk0 1
  have f2 := blockFrozen hk0 2
  have d0 : w1.cell? ⟨w.heap.size + 1, 0, none⟩ = some (.int .u8 0) := blockCell hk1 0
  have d1 : w1.cell? ⟨w.heap.size + 1, 1, none⟩ = some (.int .u8 0) := blockCell hk1 1
  have d2 : w1.cell? ⟨w.heap.size + 1, 2, none⟩ = some (.int .u64 0) := blockCell hk1 2
  have g0 := blockFrozen hk1 0
  have g1 := blockFrozen hk1 1
  have g2 := blockFrozen hk1 2
  have HK0 := Lib.hid hk0
  have HK1 := Lib.hid hk1
  clear hk0 hk1
  unfold IdentOut at ho
  cases hid : Ber.ident (l.drop i) with
  | none =>
    rw [hid] at ho
    obtain ⟨ev, n, rfl, hev⟩ := ho
    obtain ⟨a, rfl⟩ := hev.iface
    have HID := Lib.hid hid
    clear hid
    unfold noTag
    go_wp2
    have K0 := three_set ((three_other (w := w1) (g := w.heap.size + 1) (k := w.heap.size) (by omega) (.int .u8 0) (.int .u8 0) (.int .u64 0)).trans HK0.out) (.int .u8 0) (.int .u8 0) (.int .u64 0)
    have k0 := blockCell K0 0
    have k1 := blockCell K0 1
    have k2 := blockCell K0 2
    refine bodyPost_ret (v := .tuple #[noTag, .int .i64 0, .int .i64 0, .iface 122 (.pointer (some a))]) (by simp [results, Tryd.results44, go_sem, k0, k1, k2, noTag]) rfl ?_
    refine head_fail N R A l i w (((w1.setCell ⟨w.heap.size + 1, 0, none⟩ (.int .u8 0)).setCell ⟨w.heap.size + 1, 1, none⟩ (.int .u8 0)).setCell ⟨w.heap.size + 1, 2, none⟩ (.int .u64 0)) _ _ _ (three_keep hkk (by omega) _ _ _) ?_ (by omega) (by simp only [Ber.header]; rw [HID.out])
    have h2 : ErrAt N (w.heap.size + 2) w1 (.iface 122 (.pointer (some a))) := hev.mono (by simp)
    exact ((h2.setCell (by simp; omega) (by simp) _).setCell (by simp; omega) (by simp) _).setCell (by simp; omega) (by simp) _
  | some r =>
    obtain ⟨c, b, t, rest⟩ := r
    rw [hid] at ho
    obtain ⟨k, rfl, hr, hrest⟩ := ho
    obtain ⟨x, y, z, htv, hy1, hy0⟩ := tagValue_open c b t
    rw [htv]
    have HTV := Lib.hid htv
    have HID := Lib.hid hid
    have HREST := Lib.hid hrest
    have hkp := hr.pos
    have hA : l ≠ [] → A < w.heap.size := fun hl => h.ltA (by cases l with | nil => exact absurd rfl hl | cons a t => simp)
    clear htv hid hrest
    go_wp2_with fail
    have hne : l ≠ [] := by
      rintro rfl
      have := HID.out
      simp [Ber.ident] at this
    have hA' := hA hne
    have hK1 := (three_other (w := three_ w1 (w.heap.size + 1) (.int .u8 x) (.int .u8 y) (.int .u64 z)) (g := w.heap.size) (k := w.heap.size + 1) (by omega) (.int .u8 x) (.int .u8 y) (.int .u64 z)).trans (three_set HK1.out (.int .u8 x) (.int .u8 y) (.int .u64 z))
    have hK0 := three_set ((three_other (w := w1) (g := w.heap.size + 1) (k := w.heap.size) (by omega) (.int .u8 x) (.int .u8 y) (.int .u64 z)).trans HK0.out) (.int .u8 x) (.int .u8 y) (.int .u64 z)
    have hr2 := (hr.three (g := w.heap.size + 1) (by omega) (by omega) (.int .u8 x) (.int .u8 y) (.int .u64 z)).three (g := w.heap.size) (by omega) (by omega) (.int .u8 x) (.int .u8 y) (.int .u64 z)
    have hkk2 := three_keep (three_keep hkk (g := w.heap.size + 1) (by omega) (.int .u8 x) (.int .u8 y) (.int .u64 z)) (g := w.heap.size) (by omega) (.int .u8 x) (.int .u8 y) (.int .u64 z)
    have hsz2 : w.heap.size + 2 ≤ (three_ (three_ w1 (w.heap.size + 1) (.int .u8 x) (.int .u8 y) (.int .u64 z)) w.heap.size (.int .u8 x) (.int .u8 y) (.int .u64 z)).heap.size := by simpa [three_, World.setCell] using hsz
    unfold three_ at hK1 hsz2
    generalize ((((((w1.setCell ⟨w.heap.size + 1, 0, none⟩ (.int .u8 x)).setCell ⟨w.heap.size + 1, 1, none⟩ (.int .u8 y)).setCell ⟨w.heap.size + 1, 2, none⟩ (.int .u64 z)).setCell ⟨w.heap.size, 0, none⟩ (.int .u8 x)).setCell ⟨w.heap.size, 1, none⟩ (.int .u8 y)).setCell ⟨w.heap.size, 2, none⟩ (.int .u64 z)) = W2 at *
    clear c0 c1 c2 f0 f1 f2 d0 d1 d2 g0 g1 g2 HK0 HK1 HE1
    have HE2 := Lib.hid (hE.keep hkk2 (by omega) hN)
    refine (len_any N W2 R A l (i + k) hr2 HE2.out hN).mono ?_
    rintro e w3 ⟨ho, hk3⟩
    have hK0' := (hk3.block _ (by omega) (by omega)).trans hK0
    have hkk3 := hkk2.trans (hk3.mono (by omega))
    have HK3sz := Lib.hid hk3.size
    have c0 : w3.cell? ⟨w.heap.size, 0, none⟩ = some (.int .u8 x) := blockCell hK0' 0
    have c1 : w3.cell? ⟨w.heap.size, 1, none⟩ = some (.int .u8 y) := blockCell hK0' 1
    have c2 : w3.cell? ⟨w.heap.size, 2, none⟩ = some (.int .u64 z) := blockCell hK0' 2
    have f0 := blockFrozen hK0' 0
    have f1 := blockFrozen hK0' 1
    have f2 := blockFrozen hK0' 2
    have HK0 := Lib.hid hK0'
    clear hK0 hK0' hK1 hk3
    unfold LenOut at ho
    cases hl : Ber.lenOf (l.drop (i + k)) with
    | none =>
      rw [hl] at ho
      obtain ⟨n, m, ev, rfl, hev⟩ := ho
      obtain ⟨a, rfl⟩ := hev.iface
      have HL := Lib.hid hl
      clear hl
      go_wp2
      have K0 := three_set HK0.out (.int .u8 0) (.int .u8 0) (.int .u64 0)
      have k0 := blockCell K0 0
      have k1 := blockCell K0 1
      have k2 := blockCell K0 2
      refine bodyPost_ret (v := .tuple #[noTag, .int .i64 0, .int .i64 k, .iface 122 (.pointer (some a))]) (by simp [results, Tryd.results44, go_sem, k0, k1, k2, noTag]) rfl ?_
      exact head_fail N R A l i w w3 _ _ _ hkk3 (hev.mono hsz2) (by omega) (by simp only [Ber.header]; rw [HID.out]; simp only []; rw [HREST.out, HL.out])
    | some r =>
      obtain ⟨len, rest2⟩ := r
      rw [hl] at ho
      obtain ⟨k', rfl, hr3, hrest2⟩ := ho
      have HL := Lib.hid hl
      have HREST2 := Lib.hid hrest2
      have hkp3 := hr3.pos
      clear hl hrest2
      have K0 := three_set HK0.out (.int .u8 x) (.int .u8 y) (.int .u64 z)
      have k0 := blockCell K0 0
      have k1 := blockCell K0 1
      have k2 := blockCell K0 2
      have hhd : Ber.header (l.drop i) = if len = none ∧ b = false then none else some (c, b, t, len, rest2) := by
        simp only [Ber.header]; rw [HID.out]; simp only []; rw [HREST.out, HL.out]
      have HHD := Lib.hid hhd
      have HD0 := Lib.hid k0
      have HD1 := Lib.hid k1
      have HD2 := Lib.hid k2
      clear hhd k0 k1 k2 K0
      have hdone : ∀ (n m : Int), n = lenInt len → m = ((k + k' : Nat) : Int) → (len = none → b = true) → HeadOut N w.heap.size R A l i (.returned (.tuple #[.agg #[.int .u8 x, .int .u8 y, .int .u64 z], .int .i64 n, .int .i64 m, .nilIface])) (three_ w3 w.heap.size (.int .u8 x) (.int .u8 y) (.int .u64 z)) := by
        rintro n m rfl rfl hlb
        unfold HeadOut
        rw [HHD.out, if_neg (by rintro ⟨e1, e2⟩; rw [hlb e1] at e2; cases e2)]
        exact ⟨k + k', by rw [HTV.out], by rw [← Nat.add_assoc]; exact hr3.three (by omega) (by omega) _ _ _, by rw [HREST2.out]; congr 1; omega⟩
      have hkk4 : Keep w.heap.size R w (three_ w3 w.heap.size (.int .u8 x) (.int .u8 y) (.int .u64 z)) := three_keep hkk3 (Nat.le_refl _) _ _ _
      have HDN := Lib.hid hdone
      clear hdone
      cases len with
      | some n =>
        have hn1 : ((n : Int) == -1) = false := by rw [beq_eq_false_iff_ne]; omega
        simp only [lenInt]
        go_wp2
        refine bodyPost_ret (v := .tuple #[.agg #[.int .u8 x, .int .u8 y, .int .u64 z], .int .i64 n, .int .i64 ((k : Int) + k'), .nilIface]) (by simp [results, Tryd.results44, go_sem, HD0.out, HD1.out, HD2.out]) rfl ?_
        exact ⟨HDN.out _ _ rfl (by omega) (by simp), hkk4⟩
      | none =>
        simp only [lenInt]
        cases b with
        | true =>
          have hy := hy1 rfl
          go_wp2
          refine bodyPost_ret (v := .tuple #[.agg #[.int .u8 x, .int .u8 y, .int .u64 z], .int .i64 (-1), .int .i64 ((k : Int) + k'), .nilIface]) (by simp [results, Tryd.results44, go_sem, HD0.out, HD1.out, HD2.out]) rfl ?_
          exact ⟨HDN.out _ _ rfl (by omega) (by simp), hkk4⟩
        | false =>
          have hy := hy0 rfl
          go_wp2_with fail
          have hsz3 : w.heap.size + 2 ≤ w3.heap.size := by have := (HK3sz).out; omega
          refine (new_err _ (by decide) (by decide) N w3).mono ?_
          rintro e w4 ⟨ev, rfl, hev, hb4⟩
          have hK4 := (hb4.block _ (by omega)).trans HK0.out
          have hkk5 := hkk3.trans (Keep.ofBelow (hb4.mono (by omega)))
          have p0 : w4.cell? ⟨w.heap.size, 0, none⟩ = some (.int .u8 x) := blockCell hK4 0
          have p1 : w4.cell? ⟨w.heap.size, 1, none⟩ = some (.int .u8 y) := blockCell hK4 1
          have p2 : w4.cell? ⟨w.heap.size, 2, none⟩ = some (.int .u64 z) := blockCell hK4 2
          have q0 := blockFrozen hK4 0
          have q1 := blockFrozen hK4 1
          have q2 := blockFrozen hK4 2
          have HK4 := Lib.hid hK4
          clear hK4
          go_wp2
          have K0 := three_set HK4.out (.int .u8 0) (.int .u8 0) (.int .u64 0)
          have k0 := blockCell K0 0
          have k1 := blockCell K0 1
          have k2 := blockCell K0 2
          refine bodyPost_ret (v := .tuple #[noTag, .int .i64 0, .int .i64 ((k : Int) + k'), ev]) (by simp [results, Tryd.results44, go_sem, k0, k1, k2, noTag]) rfl ?_
          exact head_fail N R A l i w w4 _ _ _ hkk5 (hev.mono hsz3) (by omega) (by rw [HHD.out]; simp)
end Go.Proofs.YtdfehaonngccjaaDoor

/- readPacket: what is laid at a packet's start; what stands when a primitive one is read. -/
namespace Go.Proofs.YtdfehaonngccjaaDoor
open Go Go.RowKit

theorem make0 (w : World) : (Instr.makeSlice 37 (.int .i64 0) (.int .i64 0)).run Tryd.prog w = .ok (.slice (some ⟨w.heap.size, 0, none⟩) 0 0) (w.alloc (.cells #[] 5)) := by kernel_rfl
theorem make2 (w : World) : (Instr.makeSlice 76 (.int .i64 0) (.int .i64 2)).run Tryd.prog w = .ok (.slice (some ⟨w.heap.size, 0, none⟩) 0 2) (w.alloc (.cells #[.pointer none, .pointer none] 55)) := by kernel_rfl

/-- The four blocks of a packet's start. -/
def startW (w : World) (x y z : Int) : World :=
  (((w.alloc (.cells #[.int .u8 x, .int .u8 y, .int .u64 z] 74)).alloc
    (.cells (PkCells x y z .nilIface (.slice none 0 0) (w.heap.size + 1 + 1) (.slice (some ⟨w.heap.size + 1 + 1 + 1, 0, none⟩) 0 2) (.string ⟨#[]⟩)) 78)).alloc
    (.cells #[.slice none 0 0, .int .i64 0, .int .i8 0] 96)).alloc (.cells #[.pointer none, .pointer none] 55)

theorem heap4 (w : World) (a b c d : Obj) (k : Nat) (hk : k < w.heap.size) : ((((w.alloc a).alloc b).alloc c).alloc d).heap[k]? = w.heap[k]? := by
  rw [Below.heap_alloc _ _ _ (by simp; omega), Below.heap_alloc _ _ _ (by simp; omega), Below.heap_alloc _ _ _ (by simp; omega), Below.heap_alloc _ _ _ hk]

theorem startW_size (w : World) (x y z : Int) : (startW w x y z).heap.size = w.heap.size + 4 := by simp [startW]
theorem startW_P (w : World) (x y z : Int) : (startW w x y z).heap[w.heap.size + 1]? = some (.cells (PkCells x y z .nilIface (.slice none 0 0) (w.heap.size + 1 + 1) (.slice (some ⟨w.heap.size + 1 + 1 + 1, 0, none⟩) 0 2) (.string ⟨#[]⟩)) 78 (0, 0)) := by
  unfold startW
  rw [Below.heap_alloc _ _ _ (by simp), Below.heap_alloc _ _ _ (by simp)]
  exact alloc2_new w _ _
theorem startW_D (w : World) (x y z : Int) : BufAt (startW w x y z) (w.heap.size + 1 + 1) none (Lib.byteCells []) := by
  refine ⟨rfl, 0, ?_⟩
  unfold startW
  rw [Below.heap_alloc _ _ _ (by simp)]
  have := alloc2_new (w.alloc (.cells #[.int .u8 x, .int .u8 y, .int .u64 z] 74)) (.cells (PkCells x y z .nilIface (.slice none 0 0) (w.heap.size + 1 + 1) (.slice (some ⟨w.heap.size + 1 + 1 + 1, 0, none⟩) 0 2) (.string ⟨#[]⟩)) 78) (.cells #[.slice none 0 0, .int .i64 0, .int .i8 0] 96)
  simpa using this
theorem startW_C (w : World) (x y z : Int) : KidRow (startW w x y z) (w.heap.size + 1 + 1 + 1) 2 [] := by
  refine ⟨#[.pointer none, .pointer none], ?_, by simp, by decide, rfl, rfl⟩
  unfold startW
  have := heap_alloc_new (((w.alloc (.cells #[.int .u8 x, .int .u8 y, .int .u64 z] 74)).alloc
    (.cells (PkCells x y z .nilIface (.slice none 0 0) (w.heap.size + 1 + 1) (.slice (some ⟨w.heap.size + 1 + 1 + 1, 0, none⟩) 0 2) (.string ⟨#[]⟩)) 78)).alloc
    (.cells #[.slice none 0 0, .int .i64 0, .int .i8 0] 96)) (.cells #[.pointer none, .pointer none] 55)
  simpa using this
theorem startW_below (w : World) (x y z : Int) : Below w.heap.size w (startW w x y z) :=
  ((((Below.refl _ w).alloc (Nat.le_refl _) _).alloc (by simp) _).alloc (by simp; omega) _).alloc (by simp; omega) _

theorem pk0 {w : World} {p D : Nat} {a0 a1 a2 : Int} {val bv kv ds : Value} {t : TypeId} {fr : Nat × Nat} (h : w.heap[p]? = some (.cells (PkCells a0 a1 a2 val bv D kv ds) t fr)) : w.cell? ⟨p, 0, none⟩ = some (.int .u8 a0) := blockCell h 0
theorem pk1 {w : World} {p D : Nat} {a0 a1 a2 : Int} {val bv kv ds : Value} {t : TypeId} {fr : Nat × Nat} (h : w.heap[p]? = some (.cells (PkCells a0 a1 a2 val bv D kv ds) t fr)) : w.cell? ⟨p, 1, none⟩ = some (.int .u8 a1) := blockCell h 1
theorem pk2 {w : World} {p D : Nat} {a0 a1 a2 : Int} {val bv kv ds : Value} {t : TypeId} {fr : Nat × Nat} (h : w.heap[p]? = some (.cells (PkCells a0 a1 a2 val bv D kv ds) t fr)) : w.cell? ⟨p, 2, none⟩ = some (.int .u64 a2) := blockCell h 2
theorem pk3 {w : World} {p D : Nat} {a0 a1 a2 : Int} {val bv kv ds : Value} {t : TypeId} {fr : Nat × Nat} (h : w.heap[p]? = some (.cells (PkCells a0 a1 a2 val bv D kv ds) t fr)) : w.cell? ⟨p, 3, none⟩ = some val := blockCell h 3
theorem pk4 {w : World} {p D : Nat} {a0 a1 a2 : Int} {val bv kv ds : Value} {t : TypeId} {fr : Nat × Nat} (h : w.heap[p]? = some (.cells (PkCells a0 a1 a2 val bv D kv ds) t fr)) : w.cell? ⟨p, 4, none⟩ = some bv := blockCell h 4
theorem pk5 {w : World} {p D : Nat} {a0 a1 a2 : Int} {val bv kv ds : Value} {t : TypeId} {fr : Nat × Nat} (h : w.heap[p]? = some (.cells (PkCells a0 a1 a2 val bv D kv ds) t fr)) : w.cell? ⟨p, 5, none⟩ = some (.pointer (some ⟨D, 0, none⟩)) := blockCell h 5
theorem pk6 {w : World} {p D : Nat} {a0 a1 a2 : Int} {val bv kv ds : Value} {t : TypeId} {fr : Nat × Nat} (h : w.heap[p]? = some (.cells (PkCells a0 a1 a2 val bv D kv ds) t fr)) : w.cell? ⟨p, 6, none⟩ = some kv := blockCell h 6

/-- A primitive packet stands. -/
theorem prim_stable {B : Nat} {w : World} {p D C cap c t : Nat} {row : Option Nat} {bv : Value} {data : List UInt8} (hc : c < 4) (ht : t < 2 ^ 64)
    (hp : w.heap[p]? = some (.cells (PkCells ((c * 64 : Nat) : Int) 0 t (valOf c false t data) bv D (.slice (some ⟨C, 0, none⟩) 0 cap) (.string ⟨#[]⟩)) 78 (0, 0)))
    (hb : BufAt w D row (Lib.byteCells data)) (hk : KidRow w C cap []) (hpB : B ≤ p) (hDB : B ≤ D) (hCB : B ≤ C) (hrB : ∀ g, row = some g → B ≤ g)
    (hbv : (c ≠ 0 ∧ bv = .slice none 0 0) ∨ c = 0 ∧ ∃ G cp, bv = .slice (some ⟨G, 0, none⟩) data.length cp ∧ B ≤ G ∧ G < w.heap.size ∧ ∀ j v, (Lib.byteCells data)[j]? = some v → w.cell? ⟨G, j, none⟩ = some v) :
    Stable B w (fun _ => False) (fun w2 => Tree w2 p (.mk c false t data [])) := by
  intro w2 h2
  have hplt := blockLt hp
  unfold Tree
  refine ⟨D, row, C, cap, bv, [], hc, ht, (h2 p hpB hplt id).trans hp, hb.kept (h2 D hDB hb.ltD id) (fun g e => h2 g (hrB g e) (by subst e; exact hb.ltG) id), hk.stays (h2 C hCB hk.lt id), ?_, fun _ => rfl, (fun h => by cases h), rfl⟩
  unfold BvAt
  rcases hbv with ⟨h0, rfl⟩ | ⟨h0, G, cp, rfl, hG, hGl, hs⟩
  · rw [if_neg (by rintro ⟨h, _⟩; exact h0 h)]
  · rw [if_pos ⟨h0, rfl⟩]
    exact ⟨G, cp, rfl, fun j v hj => (World.cell?_of_block (w := w) (h2 G hG hGl id)).trans (hs j v hj)⟩
end Go.Proofs.YtdfehaonngccjaaDoor

/- Plain facts on the reading of bytes. -/
namespace Go.Proofs.YtdfehaonngccjaaDoor.Ber

theorem high_bound : ∀ (s : List UInt8) (acc k : Nat), acc < 128 ^ k → ∀ t r, high s acc k = some (t, r) → t < 2 ^ 63 ∧ ∃ m, 1 ≤ m ∧ r = s.drop m ∧ m ≤ s.length
  | [], _, _, _, t, r, h => by simp [high] at h
  | b :: s, acc, k, hacc, t, r, h => by
    simp only [high] at h
    split at h
    · cases h
    · split at h
      · cases h
      · rename_i h9
        have hk : acc * 128 + b.toNat % 128 < 128 ^ (k + 1) := by rw [Nat.pow_succ]; have := Nat.mod_lt b.toNat (show 0 < 128 by decide); omega
        split at h
        · injection h with h; injection h with h1 h2
          subst h1 h2
          exact ⟨Nat.lt_of_lt_of_le hk (Nat.le_trans (Nat.pow_le_pow_right (by decide) (by omega : k + 1 ≤ 9)) (by decide)), 1, Nat.le_refl _, rfl, by simp⟩
        · obtain ⟨h1, m, h2, h3, h4⟩ := high_bound s _ _ hk t r h
          exact ⟨h1, m + 1, by omega, by rw [h3]; rfl, by simp; omega⟩

theorem ident_bound {s : List UInt8} {c t : Nat} {b : Bool} {r : List UInt8} (h : ident s = some (c, b, t, r)) : c < 4 ∧ t < 2 ^ 63 ∧ ∃ m, 1 ≤ m ∧ r = s.drop m ∧ m ≤ s.length := by
  cases s with
  | nil => simp [ident] at h
  | cons x s =>
    have hx := x.toNat_lt
    simp only [ident] at h
    split at h
    · obtain ⟨⟨t', r'⟩, h1, h2⟩ := Option.map_eq_some_iff.1 h
      simp only [Prod.mk.injEq] at h2
      obtain ⟨rfl, _, rfl, rfl⟩ := h2
      obtain ⟨k1, m, k2, k3, k4⟩ := high_bound s 0 0 (by decide) _ _ h1
      exact ⟨by omega, k1, m + 1, by omega, by rw [k3]; rfl, by simp; omega⟩
    · injection h with h
      simp only [Prod.mk.injEq] at h
      obtain ⟨rfl, _, rfl, rfl⟩ := h
      exact ⟨by omega, by omega, 1, Nat.le_refl _, rfl, by simp⟩

theorem lenOf_bound {s : List UInt8} {len : Option Nat} {r : List UInt8} (h : lenOf s = some (len, r)) : (∀ n, len = some n → n < 2 ^ 63) ∧ ∃ m, 1 ≤ m ∧ r = s.drop m ∧ m ≤ s.length := by
  cases s with
  | nil => simp [lenOf] at h
  | cons x s =>
    have hx := x.toNat_lt
    simp only [lenOf] at h
    split at h
    · cases h
    · split at h
      · injection h with h; simp only [Prod.mk.injEq] at h; obtain ⟨rfl, rfl⟩ := h
        exact ⟨fun n hn => by (cases hn), 1, Nat.le_refl _, rfl, by simp⟩
      · split at h
        · injection h with h; simp only [Prod.mk.injEq] at h; obtain ⟨rfl, rfl⟩ := h
          exact ⟨fun n hn => by injection hn with hn; omega, 1, Nat.le_refl _, rfl, by simp⟩
        · split at h
          · cases h
          · split at h
            · cases h
            · split at h
              · cases h
              · injection h with h; simp only [Prod.mk.injEq] at h; obtain ⟨rfl, rfl⟩ := h
                rename_i h5 h6
                refine ⟨fun n hn => ?_, x.toNat - 128 + 1, by omega, (List.drop_succ_cons ..).symm, by rw [List.length_cons]; omega⟩
                have hn := Option.some.inj hn
                rw [← hn]
                exact Nat.lt_of_not_le h6

theorem header_bound {s : List UInt8} {c t : Nat} {b : Bool} {len : Option Nat} {r : List UInt8} (h : header s = some (c, b, t, len, r)) :
    c < 4 ∧ t < 2 ^ 63 ∧ (∀ n, len = some n → n < 2 ^ 63) ∧ ∃ m, 2 ≤ m ∧ r = s.drop m ∧ m ≤ s.length := by
  simp only [header] at h
  split at h
  · cases h
  · rename_i c' b' t' s1 h1
    split at h
    · cases h
    · rename_i len' s2 h2
      split at h
      · cases h
      · injection h with h
        simp only [Prod.mk.injEq] at h
        obtain ⟨rfl, rfl, rfl, rfl, rfl⟩ := h
        obtain ⟨k1, k2, m1, k3, k4, k5⟩ := ident_bound h1
        obtain ⟨j1, m2, j2, j3, j4⟩ := lenOf_bound h2
        refine ⟨k1, k2, j1, m1 + m2, by omega, by rw [j3, k4, List.drop_drop], ?_⟩
        rw [k4, List.length_drop] at j4
        omega
end Go.Proofs.YtdfehaonngccjaaDoor.Ber

/- readPacket: what is refused. -/
namespace Go.Proofs.YtdfehaonngccjaaDoor
open Go Go.RowKit

theorem new_keep (s : ByteArray) (hs : 0 < s.size) (hs2 : s.size < 1000) (N B : Nat) (w : World) (hB : B ≤ w.heap.size) :
    Calls Tryd.prog 43 #[.string s] w fun e w' => ∃ a, e = .returned (.iface 122 (.pointer (some a))) ∧ ErrAt N B w' (.iface 122 (.pointer (some a))) ∧ Below w.heap.size w w' := by
  refine (new_err s hs hs2 N w).mono fun e w' ⟨ev, he, h1, h2⟩ => ?_
  obtain ⟨a, rfl⟩ := h1.iface
  exact ⟨a, he, h1.mono hB, h2⟩

set_option maxRecDepth 100000 in
set_option maxHeartbeats 4000000 in
theorem pack_deep (N : Nat) (w : World) (R A : Nat) (l : List UInt8) (i : Nat) (d : Nat) (hd : 1000 ≤ d) (hd2 : d < 1000000) :
    Calls Tryd.prog 33 #[.iface 53 (.pointer (some ⟨R, 0, none⟩)), .int .i64 d] w fun e w' => PackOut N w.heap.size R A l i .err e w' ∧ Keep w.heap.size R w w' := by
  have hdi : decide ((d : Int) ≥ 1000) = true := by simp; omega
  go_enter Tryd.func33, Tryd.ntmps33
  go_wp2_with fail
  refine (new_keep _ (by decide) (by decide) N w.heap.size _ (Nat.le_refl _)).mono ?_
  rintro e w1 ⟨a, rfl, he, hb⟩
  have HE := Lib.hid he
  have HB := Lib.hid hb
  clear he hb
  go_wp2
  go_ret3
  exact ⟨⟨_, _, rfl, HE.out⟩, Keep.ofBelow HB.out⟩

set_option maxRecDepth 100000 in
set_option maxHeartbeats 4000000 in
theorem pack_head (N : Nat) (w : World) (R A : Nat) (l : List UInt8) (i : Nat) (h : Rd w R A l i) (hE : Env N w) (hN : N ≤ R) (d : Nat) (hd : d < 1000) (hh : Ber.header (l.drop i) = none) :
    Calls Tryd.prog 33 #[.iface 53 (.pointer (some ⟨R, 0, none⟩)), .int .i64 d] w fun e w' => PackOut N w.heap.size R A l i .err e w' ∧ Keep w.heap.size R w w' := by
  have hhd := head_any N w R A l i h hE hN
  have hdi : decide ((d : Int) ≥ 1000) = false := by simp; omega
  have hRlt := h.lt
  have HHD := Lib.hid hhd
  have HH := Lib.hid hh
  clear hhd hh h hE
  go_enter Tryd.func33, Tryd.ntmps33
  go_wp2_with fail
  refine HHD.out.mono ?_
  rintro e w1 ⟨ho, hk⟩
  unfold HeadOut at ho
  rw [HH.out] at ho
  obtain ⟨x, y, ev, rfl, he⟩ := ho
  obtain ⟨a, rfl⟩ := he.iface
  simp only [noTag]
  have HE := Lib.hid (he.alloc (.cells #[.int .u8 0, .int .u8 0, .int .u64 0] 74))
  have HK := Lib.hid (hk.trans ((Keep.refl w.heap.size R w1).alloc hk.size (.cells #[.int .u8 0, .int .u8 0, .int .u64 0] 74)))
  clear he hk
  go_wp2
  go_ret3
  exact ⟨⟨_, _, rfl, HE.out⟩, HK.out⟩

set_option maxRecDepth 100000 in
set_option maxHeartbeats 4000000 in
theorem pack_long (N : Nat) (w : World) (R A : Nat) (l : List UInt8) (i : Nat) (h : Rd w R A l i) (hE : Env N w) (hN : N ≤ R) (d : Nat) (hd : d < 1000) (c t n : Nat) (b : Bool) (rest : List UInt8) (hh : Ber.header (l.drop i) = some (c, b, t, some n, rest)) (hn : 2147483647 < n) :
    Calls Tryd.prog 33 #[.iface 53 (.pointer (some ⟨R, 0, none⟩)), .int .i64 d] w fun e w' => PackOut N w.heap.size R A l i .err e w' ∧ Keep w.heap.size R w w' := by
  have hhd := head_any N w R A l i h hE hN
  have hdi : decide ((d : Int) ≥ 1000) = false := by simp; omega
  have hRlt := h.lt
  have hnb : decide ((n : Int) > 2147483647) = true := by simp; omega
  have hn1 : ((n : Int) != -1) = true := by rw [bne_iff_ne]; omega
  have HHD := Lib.hid hhd
  have HH := Lib.hid hh
  clear hhd hh h hE
  go_enter Tryd.func33, Tryd.ntmps33
  go_wp2_with fail
  refine HHD.out.mono ?_
  rintro e w1 ⟨ho, hk⟩
  unfold HeadOut at ho
  rw [HH.out] at ho
  obtain ⟨k, rfl, hr1, hrest⟩ := ho
  obtain ⟨x, y, z, htv, -⟩ := tagValue_open c b t
  rw [htv]
  simp only [lenInt]
  have hsz1 := hk.size
  have HK := Lib.hid (hk.trans ((Keep.refl w.heap.size R w1).alloc hk.size (.cells #[.int .u8 x, .int .u8 y, .int .u64 z] 74)))
  clear hr1 hrest hk htv
  go_wp2_with fail
  refine (new_keep _ (by decide) (by decide) N w.heap.size _ (by simp; omega)).mono ?_
  rintro e w3 ⟨a, rfl, he, hb⟩
  have HE := Lib.hid he
  have HB := Lib.hid (HK.out.trans (Keep.ofBelow (hb.mono (by simp; omega))))
  clear he hb
  go_wp2
  go_ret3
  exact ⟨⟨_, _, rfl, HE.out⟩, HB.out⟩
end Go.Proofs.YtdfehaonngccjaaDoor

/- readPacket: contents that end too early. -/
namespace Go.Proofs.YtdfehaonngccjaaDoor
open Go Go.RowKit

set_option maxRecDepth 100000 in
set_option maxHeartbeats 8000000 in
theorem pack_short (N : Nat) (w : World) (R A : Nat) (l : List UInt8) (i : Nat) (h : Rd w R A l i) (hE : Env N w) (hN : N ≤ R) (d : Nat) (hd : d < 1000) (c t n : Nat) (rest : List UInt8)
    (hh : Ber.header (l.drop i) = some (c, false, t, some n, rest)) (hn : n ≤ 2147483647) (hm480 : rest.length ≤ 480) (hlen : rest.length < n) :
    Calls Tryd.prog 33 #[.iface 53 (.pointer (some ⟨R, 0, none⟩)), .int .i64 d] w fun e w' => PackOut N w.heap.size R A l i .err e w' ∧ Keep w.heap.size R w w' := by
  have hhd := head_any N w R A l i h hE hN
  have hm2 := make2
  have hdi : decide ((d : Int) ≥ 1000) = false := by simp; omega
  have hRlt := h.lt
  have hAlt := h.ltA (by rcases Nat.eq_zero_or_pos l.length with h0 | h0; · rw [List.length_eq_zero_iff.1 h0] at hh; simp [Ber.header, Ber.ident] at hh
                         · exact h0)
  have HHD := Lib.hid hhd
  have HH := Lib.hid hh
  have HE := Lib.hid hE
  have HLEN := Lib.hid hlen
  have HM := Lib.hid hm480
  clear hhd hh h hE hlen hm480
  go_enter Tryd.func33, Tryd.ntmps33
  go_wp2_with fail
  refine HHD.out.mono ?_
  rintro e w1 ⟨ho, hk⟩
  unfold HeadOut at ho
  rw [HH.out] at ho
  obtain ⟨k, rfl, hr1, hrest⟩ := ho
  simp only [lenInt, tagValue]
  have hsz1 := hk.size
  obtain ⟨x, hx⟩ : ∃ x : Nat, x = c * 64 := ⟨_, rfl⟩
  rw [← hx]
  obtain ⟨m, hm⟩ : ∃ m, m = rest.length := ⟨_, rfl⟩
  have hrl : m = l.length - (i + k) := by rw [hm, hrest, List.length_drop]
  have hmn : m < n := by rw [hm]; exact HLEN.out
  have hm480 : m ≤ 480 := by rw [hm]; exact HM.out
  have hLl : ((startW w1 x 0 t).alloc (.cells #[.iface 53 (.pointer (some ⟨R, 0, none⟩)), .int .i64 n] 132)).heap[w1.heap.size + 1 + 1 + 1 + 1]? = some (.cells #[.iface 53 (.pointer (some ⟨R, 0, none⟩)), .int .i64 n] 132 (0, 0)) := by
    have := heap_alloc_new (startW w1 x 0 t) (.cells #[.iface 53 (.pointer (some ⟨R, 0, none⟩)), .int .i64 n] 132)
    rw [startW_size] at this
    exact this
  have hszl : ((startW w1 x 0 t).alloc (.cells #[.iface 53 (.pointer (some ⟨R, 0, none⟩)), .int .i64 n] 132)).heap.size = w1.heap.size + 1 + 1 + 1 + 1 + 1 := by rw [World.size_alloc, startW_size]
  have hkl : Keep w.heap.size R w ((startW w1 x 0 t).alloc (.cells #[.iface 53 (.pointer (some ⟨R, 0, none⟩)), .int .i64 n] 132)) := hk.trans (Keep.ofBelow ((startW_below w1 x 0 t).trans ((Below.refl _ _).alloc (by rw [startW_size]; omega) _) |>.mono hsz1))
  have hEl := HE.out.keep hkl (by omega) hN
  have hRl : Rd ((startW w1 x 0 t).alloc (.cells #[.iface 53 (.pointer (some ⟨R, 0, none⟩)), .int .i64 n] 132)) R A l (i + k) := ((((hr1.alloc _).alloc _).alloc _).alloc _).alloc _
  have hpos := hr1.pos
  have hall : Calls Tryd.prog 47 #[.iface 130 (.pointer (some ⟨w1.heap.size + 1 + 1 + 1 + 1, 0, none⟩))] ((startW w1 x 0 t).alloc (.cells #[.iface 53 (.pointer (some ⟨R, 0, none⟩)), .int .i64 n] 132)) fun e w' =>
      e = .returned (.tuple #[.slice (some ⟨w1.heap.size + 1 + 1 + 1 + 1 + 1, 0, none⟩) m 512, .nilIface]) ∧ Keep w.heap.size R w w' := by
    by_cases hm0 : m = 0
    · have hi0 : i + k = l.length := by omega
      rw [hi0] at hRl
      have hall := all_end N _ (w1.heap.size + 1 + 1 + 1 + 1) R A l hRl n hLl (by omega) (by omega) hEl (by omega) (by omega)
      rw [hszl] at hall
      exact hall.mono fun e w' ⟨he, hkp, _⟩ => ⟨by rw [he, hm0], hkl.trans (⟨hkp.os, hkp.tape, hkp.output, hkp.size, fun q hq _ => hkp.block q (by omega) (by omega)⟩)⟩
    · have hall := all_some N _ (w1.heap.size + 1 + 1 + 1 + 1) R A l (i + k) hRl (by omega) n hLl (by omega) (by omega) hEl hN (by omega) (by omega) m (by omega) hm480
      rw [hszl] at hall
      exact hall.mono fun e w' ⟨he, hkp, _, _⟩ => ⟨he, hkl.trans (hkp.mono (by omega))⟩
  have hnb : decide ((n : Int) > 2147483647) = false := by simp; omega
  have hn1 : ((n : Int) != -1) = true := by rw [bne_iff_ne]; omega
  have hn2 : ((n : Int) == -1) = false := by rw [beq_eq_false_iff_ne]; omega
  have hn3 : decide ((n : Int) > 0) = true := by simp; omega
  have hn4 : decide ((m : Int) < (n : Int)) = true := by simp; omega
  have HALL := Lib.hid hall
  clear hr1 hrest hk hx hLl hszl hkl hall hEl hRl hpos hrl hm
  go_wp2_with fail
  refine (limit_any _ R n).mono ?_
  rintro e w3 ⟨rfl, rfl⟩
  go_wp2_with fail
  refine HALL.out.mono ?_
  rintro e w5 ⟨rfl, hK5⟩
  have hE5 := HE.out.keep hK5 (by omega) hN
  obtain ⟨a, ha, hae⟩ := hE5.eofErr w.heap.size
  have HE5 := Lib.hid hE5
  have HK5 := Lib.hid hK5
  have HAE := Lib.hid hae
  clear hE5 hK5 hae
  go_wp2_with fail
  refine (uneof_any N w.heap.size w5 HE5.out _ HAE.out).mono ?_
  rintro e w6 ⟨ev, rfl, hev, rfl⟩
  have HEV := Lib.hid hev
  obtain ⟨a', rfl⟩ := hev.iface
  clear hev
  go_wp2
  go_ret3
  exact ⟨⟨_, _, rfl, HEV.out⟩, HK5.out⟩
end Go.Proofs.YtdfehaonngccjaaDoor

/- readPacket of a primitive packet. -/
namespace Go.Proofs.YtdfehaonngccjaaDoor
open Go Go.RowKit

theorem known_cases {c t : Nat} (h : Ber.known c t = true) : c ≠ 0 ∨ c = 0 ∧ (t = 0 ∨ t = 1 ∨ t = 2 ∨ t = 4 ∨ t = 5 ∨ t = 10) := by
  simp only [Ber.known, Bool.or_eq_true, Bool.not_eq_true', decide_eq_true_eq, decide_eq_false_iff_not] at h
  omega

theorem prim_end {N : Nat} {w W0 w3 : World} {R A : Nat} {l data rest : List UInt8} {i kk p D C c t : Nat} {m : Int} {row : Option Nat} {bv : Value} (hm : m = (kk : Int)) (hc : c < 4) (ht : t < 2 ^ 63)
    (hK0 : Keep w.heap.size R w W0) (hR0 : Rd W0 R A l (i + kk)) (hC0 : KidRow W0 C 2 []) (hf3 : Only (fun k => k = p ∨ k = D) W0 w3)
    (hp3 : w3.heap[p]? = some (.cells (PkCells ((c * 64 : Nat) : Int) 0 t (valOf c false t data) bv D (.slice (some ⟨C, 0, none⟩) 0 2) (.string ⟨#[]⟩)) 78 (0, 0)))
    (hb3 : BufAt w3 D row (Lib.byteCells data)) (hr : ∀ g, row = some g → w.heap.size ≤ g) (hpB : w.heap.size ≤ p) (hDB : w.heap.size ≤ D) (hCB : w.heap.size ≤ C) (hCp : C ≠ p) (hCD : C ≠ D) (hRlt : R < w.heap.size) (hAlt : A < w.heap.size)
    (hbv : (c ≠ 0 ∧ bv = .slice none 0 0) ∨ c = 0 ∧ ∃ G cp, bv = .slice (some ⟨G, 0, none⟩) data.length cp ∧ w.heap.size ≤ G ∧ G < W0.heap.size ∧ G ≠ p ∧ G ≠ D ∧ ∀ j v, (Lib.byteCells data)[j]? = some v → W0.cell? ⟨G, j, none⟩ = some v)
    (hrest : rest = l.drop (i + kk)) :
    PackOut N w.heap.size R A l i (.ok (.mk c false t data []) rest) (.returned (.tuple #[.pointer (some ⟨p, 0, none⟩), .int .i64 m, .nilIface])) w3 ∧ Keep w.heap.size R w w3 := by
  subst hm
  have hsz := hK0.size
  have hblk : ∀ k, k < W0.heap.size → k ≠ p → k ≠ D → w3.heap[k]? = W0.heap[k]? := fun k hk h1 h2 => hf3.block k hk (by rintro (h | h); exact h1 h; exact h2 h)
  refine ⟨⟨p, kk, rfl, hpB, ?_, ?_, hrest⟩, ?_⟩
  · refine prim_stable hc (by omega) hp3 hb3 (hC0.stays (hblk C hC0.lt hCp hCD)) hpB hDB hCB hr ?_
    rcases hbv with h | ⟨h0, G, cp, h1, h2, h3, h4, h5, h6⟩
    · exact Or.inl h
    · exact Or.inr ⟨h0, G, cp, h1, h2, Nat.lt_of_lt_of_le h3 hf3.size, fun j v hj => (World.cell?_of_block (w := W0) (hblk G h3 h4 h5)).trans (h6 j v hj)⟩
  · exact hR0.stays (hblk R (by omega) (by omega) (by omega)) (hblk A (by omega) (by omega) (by omega))
  · exact hK0.trans (hf3.toKeep (by rintro k (h | h) <;> omega) hsz)

theorem valOf_none {t : Nat} (data : List UInt8) (h : t = 0 ∨ t = 5) : valOf 0 false t data = .nilIface := by
  unfold valOf
  rcases h with rfl | rfl <;> simp

/-- Of the class of universal ones: W4 is what stands behind the storing of ByteValue, and maybe of a call. -/
theorem prim_fin {N : Nat} {w W0 w2 W4 : World} {R A : Nat} {l data rest : List UInt8} {i kk p D C t G cp : Nat} {m : Int} {row : Option Nat} (hm : m = (kk : Int)) (ht : t < 2 ^ 63)
    (hK0 : Keep w.heap.size R w W0) (hR0 : Rd W0 R A l (i + kk)) (hC0 : KidRow W0 C 2 []) (hp0 : p < W0.heap.size)
    (hp2 : w2.heap[p]? = some (.cells (PkCells ((0 * 64 : Nat) : Int) 0 t .nilIface (.slice none 0 0) D (.slice (some ⟨C, 0, none⟩) 0 2) (.string ⟨#[]⟩)) 78 (0, 0)))
    (hb2 : BufAt w2 D row (Lib.byteCells ([] ++ data))) (hr2 : row = none ∨ ∃ g, row = some g ∧ W0.heap.size ≤ g) (hf2 : Only (fun k => k = D ∨ none = some k) W0 w2)
    (hpB : w.heap.size ≤ p) (hDB : w.heap.size ≤ D) (hCB : w.heap.size ≤ C) (hCp : C ≠ p) (hCD : C ≠ D) (hpD : p ≠ D) (hRlt : R < w.heap.size) (hAlt : A < w.heap.size)
    (hGB : w.heap.size ≤ G) (hGl : G < W0.heap.size) (hGp : G ≠ p) (hGD : G ≠ D) (hs : ∀ j v, (Lib.byteCells data)[j]? = some v → W0.cell? ⟨G, j, none⟩ = some v) (hrest : rest = l.drop (i + kk))
    (hbel : Below (w2.setCell ⟨p, 4, none⟩ (.slice (some ⟨G, 0, none⟩) data.length cp)).heap.size (w2.setCell ⟨p, 4, none⟩ (.slice (some ⟨G, 0, none⟩) data.length cp)) W4) :
    (PackOut N w.heap.size R A l i (.ok (.mk 0 false t data []) rest) (.returned (.tuple #[.pointer (some ⟨p, 0, none⟩), .int .i64 m, .nilIface])) (W4.setCell ⟨p, 3, none⟩ (valOf 0 false t data)) ∧ Keep w.heap.size R w (W4.setCell ⟨p, 3, none⟩ (valOf 0 false t data))) ∧
    (valOf 0 false t data = .nilIface → PackOut N w.heap.size R A l i (.ok (.mk 0 false t data []) rest) (.returned (.tuple #[.pointer (some ⟨p, 0, none⟩), .int .i64 m, .nilIface])) W4 ∧ Keep w.heap.size R w W4) ∧
    W4.cell? ⟨p, 3, none⟩ = some .nilIface ∧ W4.frozen? ⟨p, 3, none⟩ = false := by
  have hsz0 := hK0.size
  have hsz2 := hf2.size
  have hsz3 : (w2.setCell ⟨p, 4, none⟩ (.slice (some ⟨G, 0, none⟩) data.length cp)).heap.size = w2.heap.size := by simp [World.setCell]
  have hg2 : ∀ g, row = some g → W0.heap.size ≤ g := fun g e => by
    rcases hr2 with h | ⟨g', h, h'⟩
    · rw [h] at e; cases e
    · rw [h] at e; rw [← Option.some.inj e]; exact h'
  have hp4 : W4.heap[p]? = some (.cells (PkCells ((0 * 64 : Nat) : Int) 0 t .nilIface (.slice (some ⟨G, 0, none⟩) data.length cp) D (.slice (some ⟨C, 0, none⟩) 0 2) (.string ⟨#[]⟩)) 78 (0, 0)) := by
    have h3 := blockSet hp2 4 (.slice (some ⟨G, 0, none⟩) data.length cp)
    refine (hbel.block p (by rw [hsz3]; omega)).trans ?_
    simpa [PkCells] using h3
  have hb4 : BufAt W4 D row (Lib.byteCells data) := by
    rw [List.nil_append] at hb2
    refine hb2.kept ?_ fun g e => ?_
    · rw [hbel.block D (by rw [hsz3]; exact hb2.ltD), Below.heap_setCell _ _ _ _ (by show D ≠ p; omega)]
    · have := hg2 g e
      rw [hbel.block g (by rw [hsz3]; subst e; exact hb2.ltG), Below.heap_setCell _ _ _ _ (by show g ≠ p; omega)]
  have hf4 : Only (fun k => k = p ∨ k = D) W0 W4 := by
    have h1 : Only (fun k => k = p ∨ k = D) W0 w2 := hf2.weaken (by rintro i _ (h | h); exact Or.inr h; cases h)
    exact (h1.setCell (p := ⟨p, 4, none⟩) (Or.inr (Or.inl rfl)) (.slice (some ⟨G, 0, none⟩) data.length cp)).trans (Only.ofBelow hbel)
  refine ⟨?_, fun hn => ?_, pk3 hp4, blockFrozen hp4 3⟩
  · refine prim_end (c := 0) hm (by decide) ht hK0 hR0 hC0 (hf4.setCell (p := ⟨p, 3, none⟩) (Or.inr (Or.inl rfl)) (valOf 0 false t data)) ?_ (hb4.kept (Below.heap_setCell _ _ _ _ (by show D ≠ p; omega)) (fun g e => Below.heap_setCell _ _ _ _ (by have := hg2 g e; show g ≠ p; omega)))
      (fun g e => by have := hg2 g e; omega) hpB hDB hCB hCp hCD hRlt hAlt (Or.inr ⟨rfl, G, cp, rfl, hGB, hGl, hGp, hGD, hs⟩) hrest
    have := blockSet hp4 3 (valOf 0 false t data)
    simpa [PkCells] using this
  · refine prim_end (c := 0) hm (by decide) ht hK0 hR0 hC0 hf4 ?_ hb4 (fun g e => by have := hg2 g e; omega) hpB hDB hCB hCp hCD hRlt hAlt (Or.inr ⟨rfl, G, cp, rfl, hGB, hGl, hGp, hGD, hs⟩) hrest
    rw [hn]; exact hp4

set_option maxRecDepth 100000 in
set_option maxHeartbeats 16000000 in
theorem pack_zero (N : Nat) (w : World) (R A : Nat) (l : List UInt8) (i : Nat) (h : Rd w R A l i) (hE : Env N w) (hN : N ≤ R) (d : Nat) (hd : d < 1000) (c t : Nat) (rest : List UInt8)
    (hh : Ber.header (l.drop i) = some (c, false, t, some 0, rest)) (hkn : Ber.known c t = true) :
    Calls Tryd.prog 33 #[.iface 53 (.pointer (some ⟨R, 0, none⟩)), .int .i64 d] w fun e w' => PackOut N w.heap.size R A l i (.ok (.mk c false t [] []) rest) e w' ∧ Keep w.heap.size R w w' := by
  have hhd := head_any N w R A l i h hE hN
  have hm2 := make2
  have hm0 := make0
  have hdi : decide ((d : Int) ≥ 1000) = false := by simp; omega
  obtain ⟨hc4, ht63, -, -⟩ := Ber.header_bound hh
  have hRlt := h.lt
  have hAlt := h.ltA (by rcases Nat.eq_zero_or_pos l.length with h0 | h0; · rw [List.length_eq_zero_iff.1 h0] at hh; simp [Ber.header, Ber.ident] at hh
                         · exact h0)
  have HHD := Lib.hid hhd
  have HH := Lib.hid hh
  have HR := Lib.hid h
  have hkc := known_cases hkn
  have HKN := Lib.hid hkn
  clear hhd hh h hkn hE
  go_enter Tryd.func33, Tryd.ntmps33
  go_wp2_with fail
  refine HHD.out.mono ?_
  rintro e w1 ⟨ho, hk⟩
  unfold HeadOut at ho
  rw [HH.out] at ho
  obtain ⟨k, rfl, hr1, hrest⟩ := ho
  simp only [lenInt, tagValue]
  have hsz1 := hk.size
  obtain ⟨x, hx⟩ : ∃ x : Nat, x = c * 64 := ⟨_, rfl⟩
  rw [← hx]
  have HX := Lib.hid hx
  have hRA := hr1
  have HO := Lib.hid (And.intro hr1 hrest)
  have HK := Lib.hid hk
  have h0 : ((startW w1 x 0 t).alloc (.cells #[] 5)).heap[w1.heap.size + 1]? = _ := (Below.heap_alloc _ _ _ (by rw [startW_size]; omega)).trans (startW_P w1 x 0 t)
  have hD0 : BufAt ((startW w1 x 0 t).alloc (.cells #[] 5)) (w1.heap.size + 1 + 1) none (Lib.byteCells []) := (startW_D w1 x 0 t).below ((Below.refl _ _).alloc (Nat.le_refl _) _)
  have hC0 : KidRow ((startW w1 x 0 t).alloc (.cells #[] 5)) (w1.heap.size + 1 + 1 + 1) 2 [] := (startW_C w1 x 0 t).stays (Below.heap_alloc _ _ _ (startW_C w1 x 0 t).lt)
  have hR0 : Rd ((startW w1 x 0 t).alloc (.cells #[] 5)) R A l (i + k) := ((((hRA.alloc _).alloc _).alloc _).alloc _).alloc _
  have hK0 : Keep w.heap.size R w ((startW w1 x 0 t).alloc (.cells #[] 5)) := hk.trans (Keep.ofBelow ((startW_below w1 x 0 t).trans ((Below.refl _ _).alloc (by rw [startW_size]; omega) _) |>.mono hsz1))
  have hRd0 : Reads ((startW w1 x 0 t).alloc (.cells #[] 5)) (Lib.byteCells []) (.slice (some ⟨w1.heap.size + 1 + 1 + 1 + 1, 0, none⟩) ([] : List UInt8).length 0) := ⟨_, 0, rfl, Or.inl rfl⟩
  have hsz0 : w.heap.size ≤ ((startW w1 x 0 t).alloc (.cells #[] 5)).heap.size := by rw [World.size_alloc, startW_size]; omega
  have hlim : ([] : List UInt8).length + ([] : List UInt8).length ≤ 140737488355328 := by simp
  have hsrc0 : ∀ j v, (Lib.byteCells ([] : List UInt8))[j]? = some v → ((startW w1 x 0 t).alloc (.cells #[] 5)).cell? ⟨w1.heap.size + 1 + 1 + 1 + 1, j, none⟩ = some v := fun j v hj => by simp [Lib.byteCells] at hj
  have hgb : w.heap.size ≤ w1.heap.size + 1 + 1 + 1 + 1 := by omega
  have hgl : w1.heap.size + 1 + 1 + 1 + 1 < ((startW w1 x 0 t).alloc (.cells #[] 5)).heap.size := by rw [World.size_alloc, startW_size]; omega
  have hdl : ([] : List UInt8).length < 1000000000000 := by simp
  have HSRC := Lib.hid hsrc0
  have HGB := Lib.hid hgb
  have HGL := Lib.hid hgl
  have HDL := Lib.hid hdl
  clear hsrc0 hgb hgl hdl
  have HRD := Lib.hid hRd0
  have HSZ0 := Lib.hid hsz0
  have HLIM := Lib.hid hlim
  have HREST := Lib.hid hrest
  have HP0 := Lib.hid h0
  have HD0 := Lib.hid hD0
  have HC0 := Lib.hid hC0
  have HR0 := Lib.hid hR0
  have HK0 := Lib.hid hK0
  clear hRd0 hsz0 hlim hr1 hrest hk hRA h0 hD0 hC0 hR0 hK0 hx
  have tx : ((x : Int) == 0) = true ∨ ((x : Int) == 0) = false := by cases ((x : Int) == 0) <;> simp
  rcases tx with tx | tx
  · have hc0 : c = 0 := by have := HX.out; simp at tx; omega
    subst hc0
    rcases hkc.resolve_left (fun h => h rfl) with ⟨-, hkt⟩
    rcases hkt with rfl | rfl | rfl | rfl | rfl | rfl
    all_goals
      go_wp2_with fail
      refine (write_bytes _ (w1.heap.size + 1 + 1) none [] ([] : List UInt8) _ HD0.out HRD.out HLIM.out).mono ?_
      rintro e w2 ⟨rfl, row2, hb2, hr2, hf2⟩
      have hp2 := (hf2.block _ (blockLt HP0.out) (by rintro (h | h); omega; cases h)).trans HP0.out
      have c23 := pk3 hp2
      have c22 := pk2 hp2
      have c24 := pk4 hp2
      have f23 := blockFrozen hp2 3
      have f24 := blockFrozen hp2 4
      have hB2 := Lib.hid hb2
      have hR2 := Lib.hid hr2
      have hF2 := Lib.hid hf2
      have hP2 := Lib.hid hp2
      have hF4 := fun W4 hbel => prim_fin (N := N) (W4 := W4) (data := ([] : List UInt8)) (G := (w1.heap.size + 1 + 1 + 1 + 1)) (cp := 0) (show (k : Int) = (k : Int) from rfl) ht63 HK0.out HR0.out HC0.out (blockLt HP0.out) (by rw [HX.out] at hp2; exact hp2) hb2 hr2 hf2 (by omega) (by omega) (by omega) (by omega) (by omega) (by omega) hRlt hAlt HGB.out HGL.out (by omega) (by omega) HSRC.out HREST.out hbel
      have hs3 : ∀ j v, (Lib.byteCells ([] : List UInt8))[j]? = some v → (w2.setCell ⟨w1.heap.size + 1, 4, none⟩ (.slice (some ⟨(w1.heap.size + 1 + 1 + 1 + 1), 0, none⟩) ([] : List UInt8).length 0)).cell? ⟨(w1.heap.size + 1 + 1 + 1 + 1), j, none⟩ = some v := fun j v hj =>
        (World.cell?_of_block (w := w2) (Below.heap_setCell _ _ _ _ (by show (w1.heap.size + 1 + 1 + 1 + 1) ≠ w1.heap.size + 1; omega))).trans ((hf2.cell (p := ⟨(w1.heap.size + 1 + 1 + 1 + 1), j, none⟩) HGL.out (by rintro (h | h); (show False); have h' : (w1.heap.size + 1 + 1 + 1 + 1) = w1.heap.size + 1 + 1 := h; omega; cases h)).trans (HSRC.out j v hj))
      have HF4 := Lib.hid hF4
      have HS3 := Lib.hid hs3
      clear hb2 hr2 hf2 hp2 hF4 hs3
      go_wp2_with fail
    · go_ret3
      exact (HF4.out _ (Below.refl _ _)).2.1 (valOf_none _ (Or.inl rfl))
    · refine (parse_all _ (w1.heap.size + 1 + 1 + 1 + 1) 0 ([] : List UInt8) HDL.out HS3.out).mono ?_
      rintro e w4 ⟨⟨ev, rfl⟩, hbel⟩
      obtain ⟨hE, -, c43, f43⟩ := HF4.out w4 hbel
      have HE := Lib.hid hE
      clear hE hbel
      go_wp2
      go_ret3
      exact HE.out
    · refine (parse_all _ (w1.heap.size + 1 + 1 + 1 + 1) 0 ([] : List UInt8) HDL.out HS3.out).mono ?_
      rintro e w4 ⟨⟨ev, rfl⟩, hbel⟩
      obtain ⟨hE, -, c43, f43⟩ := HF4.out w4 hbel
      have HE := Lib.hid hE
      clear hE hbel
      go_wp2
      go_ret3
      exact HE.out
    · refine (decode_any _ (w1.heap.size + 1 + 1 + 1 + 1) 0 ([] : List UInt8) HS3.out).mono ?_
      rintro e w4 ⟨rfl, rfl⟩
      obtain ⟨hE, -, c43, f43⟩ := HF4.out _ (Below.refl _ _)
      have HE := Lib.hid hE
      clear hE
      go_wp2
      go_ret3
      exact HE.out
    · go_ret3
      exact (HF4.out _ (Below.refl _ _)).2.1 (valOf_none _ (Or.inr rfl))
    · refine (parse_all _ (w1.heap.size + 1 + 1 + 1 + 1) 0 ([] : List UInt8) HDL.out HS3.out).mono ?_
      rintro e w4 ⟨⟨ev, rfl⟩, hbel⟩
      obtain ⟨hE, -, c43, f43⟩ := HF4.out w4 hbel
      have HE := Lib.hid hE
      clear hE hbel
      go_wp2
      go_ret3
      exact HE.out
  · have hc0 : c ≠ 0 := by have := HX.out; simp at tx; omega
    go_wp2_with fail
    refine (write_bytes ((startW w1 x 0 t).alloc (.cells #[] 5)) (w1.heap.size + 1 + 1) none [] ([] : List UInt8) _ HD0.out HRD.out HLIM.out).mono ?_
    rintro e w2 ⟨rfl, row2, hb2, hr2, hf2⟩
    have hp2 := (hf2.block _ (blockLt HP0.out) (by rintro (h | h); omega; cases h)).trans HP0.out
    have hE := prim_end (N := N) (w := w) (i := i) (kk := k) (rest := rest) (c := c) (t := t) (data := ([] : List UInt8)) (row := row2) (bv := .slice none 0 0) (show (k : Int) = (k : Int) from rfl) hc4 ht63 HK0.out HR0.out HC0.out (hf2.weaken (by rintro i _ (h | h); exact Or.inr h; cases h)) (by rw [← HX.out]; simpa [valOf, hc0] using hp2) hb2
      (by rintro g rfl; rcases hr2 with h | ⟨g', h, h'⟩; cases h; rw [Option.some.inj h]; have := HSZ0.out; omega) (by omega) (by omega) (by omega) (by omega) (by omega) hRlt hAlt (Or.inl ⟨hc0, rfl⟩) HREST.out
    have HE := Lib.hid hE
    clear hE hb2 hr2 hf2 hp2
    go_wp2
    go_ret3
    exact HE.out
end Go.Proofs.YtdfehaonngccjaaDoor

/- readPacket of a primitive packet of some contents. -/
namespace Go.Proofs.YtdfehaonngccjaaDoor
open Go Go.RowKit

theorem nil_or {rest : List UInt8} {l : List UInt8} {j : Nat} (h : rest = l.drop j) : rest.length = l.length - j := by rw [h, List.length_drop]

set_option maxRecDepth 100000 in
set_option maxHeartbeats 16000000 in
theorem pack_some0 (N : Nat) (w : World) (R A : Nat) (l : List UInt8) (i : Nat) (h : Rd w R A l i) (hE : Env N w) (hN : N ≤ R) (d : Nat) (hd : d < 1000) (c t n : Nat) (rest0 data rest : List UInt8)
    (hh : Ber.header (l.drop i) = some (c, false, t, some n, rest0)) (hkn : Ber.known c t = true) (hn0 : 0 < n) (hn480 : n ≤ 480) (hlen : n ≤ rest0.length) (hdata : data = rest0.take n) (hrst : rest = rest0.drop n) :
    Calls Tryd.prog 33 #[.iface 53 (.pointer (some ⟨R, 0, none⟩)), .int .i64 d] w fun e w' => PackOut N w.heap.size R A l i (.ok (.mk c false t data []) rest) e w' ∧ Keep w.heap.size R w w' := by
  have hdl : data.length = n := by rw [hdata, List.length_take]; omega
  subst hdl
  have hhd := head_any N w R A l i h hE hN
  have hm2 := make2
  have hdi : decide ((d : Int) ≥ 1000) = false := by simp; omega
  obtain ⟨hc4, ht63, -, -⟩ := Ber.header_bound hh
  have hRlt := h.lt
  have hAlt := h.ltA (by rcases Nat.eq_zero_or_pos l.length with h0 | h0; · rw [List.length_eq_zero_iff.1 h0] at hh; simp [Ber.header, Ber.ident] at hh
                         · exact h0)
  have HHD := Lib.hid hhd
  have HH := Lib.hid hh
  have hkc := known_cases hkn
  have HKN := Lib.hid hkn
  have HE := Lib.hid hE
  have HLEN := Lib.hid hlen
  have HDT := Lib.hid hdata
  have HRST := Lib.hid hrst
  clear hhd hh h hkn hE hlen hdata hrst
  go_enter Tryd.func33, Tryd.ntmps33
  go_wp2_with fail
  refine HHD.out.mono ?_
  rintro e w1 ⟨ho, hk⟩
  unfold HeadOut at ho
  rw [HH.out] at ho
  obtain ⟨k, rfl, hr1, hrest⟩ := ho
  simp only [lenInt, tagValue]
  have hsz1 := hk.size
  obtain ⟨x, hx⟩ : ∃ x : Nat, x = c * 64 := ⟨_, rfl⟩
  rw [← hx]
  have HX := Lib.hid hx
  have hrl := nil_or hrest
  have hlr : i + k < l.length ∧ data.length ≤ l.length - (i + k) := by have := HLEN.out; rw [hrl] at this; omega
  obtain ⟨kk, hkk⟩ : ∃ kk, kk = k + data.length := ⟨_, rfl⟩
  have hkm : (k : Int) + (data.length : Int) = (kk : Int) := by omega
  have HKM := Lib.hid hkm
  clear hkm
  have hk9 : k < 1000000000 := by have := hr1.len; omega
  have HRR := Lib.hid hrest
  have HK := Lib.hid hk
  -- the limited reader
  have hLl : ((startW w1 x 0 t).alloc (.cells #[.iface 53 (.pointer (some ⟨R, 0, none⟩)), .int .i64 data.length] 132)).heap[w1.heap.size + 1 + 1 + 1 + 1]? = some (.cells #[.iface 53 (.pointer (some ⟨R, 0, none⟩)), .int .i64 data.length] 132 (0, 0)) := by
    have := heap_alloc_new (startW w1 x 0 t) (.cells #[.iface 53 (.pointer (some ⟨R, 0, none⟩)), .int .i64 data.length] 132)
    rw [startW_size] at this
    exact this
  have hszl : ((startW w1 x 0 t).alloc (.cells #[.iface 53 (.pointer (some ⟨R, 0, none⟩)), .int .i64 data.length] 132)).heap.size = w1.heap.size + 1 + 1 + 1 + 1 + 1 := by rw [World.size_alloc, startW_size]
  have hkl : Keep w.heap.size R w ((startW w1 x 0 t).alloc (.cells #[.iface 53 (.pointer (some ⟨R, 0, none⟩)), .int .i64 data.length] 132)) := hk.trans (Keep.ofBelow ((startW_below w1 x 0 t).trans ((Below.refl _ _).alloc (by rw [startW_size]; omega) _) |>.mono hsz1))
  have hall := all_some N ((startW w1 x 0 t).alloc (.cells #[.iface 53 (.pointer (some ⟨R, 0, none⟩)), .int .i64 data.length] 132)) (w1.heap.size + 1 + 1 + 1 + 1) R A l (i + k) (((((hr1.alloc _).alloc _).alloc _).alloc _).alloc _) hlr.1 data.length hLl hn0 (by omega) (HE.out.keep hkl (by omega) hN) hN (by omega) (by omega) data.length (by omega) hn480
  rw [hszl] at hall
  have hall2 : Calls Tryd.prog 47 #[.iface 130 (.pointer (some ⟨w1.heap.size + 1 + 1 + 1 + 1, 0, none⟩))] ((startW w1 x 0 t).alloc (.cells #[.iface 53 (.pointer (some ⟨R, 0, none⟩)), .int .i64 data.length] 132)) fun e w' =>
      e = .returned (.tuple #[.slice (some ⟨w1.heap.size + 1 + 1 + 1 + 1 + 1, 0, none⟩) data.length 512, .nilIface]) ∧
      (w'.heap[w1.heap.size + 1]? = some (.cells (PkCells x 0 t .nilIface (.slice none 0 0) (w1.heap.size + 1 + 1) (.slice (some ⟨w1.heap.size + 1 + 1 + 1, 0, none⟩) 0 2) (.string ⟨#[]⟩)) 78 (0, 0)) ∧
       BufAt w' (w1.heap.size + 1 + 1) none (Lib.byteCells []) ∧ KidRow w' (w1.heap.size + 1 + 1 + 1) 2 [] ∧ Rd w' R A l (i + kk) ∧ Keep w.heap.size R w w' ∧
       Reads w' (Lib.byteCells data) (.slice (some ⟨w1.heap.size + 1 + 1 + 1 + 1 + 1, 0, none⟩) data.length 512) ∧
       (∀ j v, (Lib.byteCells data)[j]? = some v → w'.cell? ⟨w1.heap.size + 1 + 1 + 1 + 1 + 1, j, none⟩ = some v) ∧ w1.heap.size + 1 + 1 + 1 + 1 + 1 < w'.heap.size) := by
    refine hall.mono fun e w' ⟨he, hkp, hrd, hrow⟩ => ?_
    have hst : ∀ q, q < w1.heap.size + 1 + 1 + 1 + 1 → q ≠ R → w'.heap[q]? = (startW w1 x 0 t).heap[q]? := fun q hq hqR => (hkp.block q hq hqR).trans (Below.heap_alloc _ _ _ (by rw [startW_size]; omega))
    have hcs : ∀ j v, (Lib.byteCells data)[j]? = some v → w'.cell? ⟨w1.heap.size + 1 + 1 + 1 + 1 + 1, j, none⟩ = some v := by
      intro j v hj
      rw [blockCell hrow j, List.getElem?_toArray]
      have hd2 : Lib.byteCells data = Lib.byteCells ((l.drop (i + k)).take data.length) := by have h1 := HDT.out; rw [HRR.out] at h1; exact congrArg _ h1
      rw [← hd2]
      have hjl := (List.getElem?_eq_some_iff.1 hj).1
      simp only [splice, List.take_zero, List.nil_append, Nat.zero_add]
      rw [List.getElem?_append_left hjl]
      exact hj
    refine ⟨he, (hst _ (by omega) (by omega)).trans (startW_P w1 x 0 t), (startW_D w1 x 0 t).kept (hst _ (by omega) (by omega)) (fun g e => by cases e), (startW_C w1 x 0 t).stays (hst _ (by omega) (by omega)), by rw [hkk, ← Nat.add_assoc]; exact hrd, hkl.trans (hkp.mono (by omega)), ?_, hcs, blockLt hrow⟩
    exact ⟨_, 512, by rw [cells_length], Or.inr ⟨_, rfl, ⟨_, hrow⟩, hcs⟩⟩
  have hnb : decide ((data.length : Int) > 2147483647) = false := by simp; omega
  have hn1 : ((data.length : Int) != -1) = true := by rw [bne_iff_ne]; omega
  have hn2 : ((data.length : Int) == -1) = false := by rw [beq_eq_false_iff_ne]; omega
  have hn3 : decide ((data.length : Int) > 0) = true := by simp; omega
  have hn4 : decide ((data.length : Int) < (data.length : Int)) = false := by simp
  have hrest' : rest = l.drop (i + kk) := by rw [HRST.out, HRR.out, List.drop_drop, hkk]; congr 1; omega
  have hgb : w.heap.size ≤ w1.heap.size + 1 + 1 + 1 + 1 + 1 := by omega
  have hlim : ([] : List UInt8).length + data.length ≤ 140737488355328 := by simp; omega
  have hdll : data.length < 1000000000000 := by omega
  have HALL := Lib.hid hall2
  have HGB := Lib.hid hgb
  have HLIM := Lib.hid hlim
  have HDL := Lib.hid hdll
  have HREST := Lib.hid hrest'
  have HKK := Lib.hid hkk
  clear hr1 hrest hk hx hLl hszl hkl hall hall2 hrest' hgb hlim hdll hlr hrl hkk
  go_wp2_with fail
  refine (limit_any _ R data.length).mono ?_
  rintro e w3 ⟨rfl, rfl⟩
  go_wp2_with fail
  refine HALL.out.mono ?_
  rintro e w5 ⟨rfl, hP5, hD5, hC5, hR5, hK5, hRd5, hS5, hG5⟩
  have HP0 := Lib.hid hP5
  have HD0 := Lib.hid hD5
  have HC0 := Lib.hid hC5
  have HR0 := Lib.hid hR5
  have HK0 := Lib.hid hK5
  have HRD := Lib.hid hRd5
  have HSRC := Lib.hid hS5
  have HGL := Lib.hid hG5
  have hsz5 : w.heap.size ≤ w5.heap.size := hK5.size
  have HSZ0 := Lib.hid hsz5
  have p51 := pk1 hP5
  have p50 := pk0 hP5
  have p55 := pk5 hP5
  clear hP5 hD5 hC5 hR5 hK5 hRd5 hS5 hG5 hsz5
  have tx : ((x : Int) == 0) = true ∨ ((x : Int) == 0) = false := by cases ((x : Int) == 0) <;> simp
  rcases tx with tx | tx
  · have hc0 : c = 0 := by have := HX.out; simp at tx; omega
    subst hc0
    rcases hkc.resolve_left (fun h => h rfl) with ⟨-, hkt⟩
    rcases hkt with rfl | rfl | rfl | rfl | rfl | rfl
    all_goals
      go_wp2_with fail
      refine (write_bytes _ (w1.heap.size + 1 + 1) none [] data _ HD0.out HRD.out HLIM.out).mono ?_
      rintro e w2 ⟨rfl, row2, hb2, hr2, hf2⟩
      have hp2 := (hf2.block _ (blockLt HP0.out) (by rintro (h | h); omega; cases h)).trans HP0.out
      have c23 := pk3 hp2
      have c22 := pk2 hp2
      have c24 := pk4 hp2
      have f23 := blockFrozen hp2 3
      have f24 := blockFrozen hp2 4
      have hB2 := Lib.hid hb2
      have hR2 := Lib.hid hr2
      have hF2 := Lib.hid hf2
      have hP2 := Lib.hid hp2
      have hF4 := fun W4 hbel => prim_fin (N := N) (W4 := W4) (data := data) (G := (w1.heap.size + 1 + 1 + 1 + 1 + 1)) (cp := 512) HKM.out ht63 HK0.out HR0.out HC0.out (blockLt HP0.out) (by rw [HX.out] at hp2; exact hp2) hb2 hr2 hf2 (by omega) (by omega) (by omega) (by omega) (by omega) (by omega) hRlt hAlt HGB.out HGL.out (by omega) (by omega) HSRC.out HREST.out hbel
      have hs3 : ∀ j v, (Lib.byteCells data)[j]? = some v → (w2.setCell ⟨w1.heap.size + 1, 4, none⟩ (.slice (some ⟨(w1.heap.size + 1 + 1 + 1 + 1 + 1), 0, none⟩) data.length 512)).cell? ⟨(w1.heap.size + 1 + 1 + 1 + 1 + 1), j, none⟩ = some v := fun j v hj =>
        (World.cell?_of_block (w := w2) (Below.heap_setCell _ _ _ _ (by show (w1.heap.size + 1 + 1 + 1 + 1 + 1) ≠ w1.heap.size + 1; omega))).trans ((hf2.cell (p := ⟨(w1.heap.size + 1 + 1 + 1 + 1 + 1), j, none⟩) HGL.out (by rintro (h | h); (show False); have h' : (w1.heap.size + 1 + 1 + 1 + 1 + 1) = w1.heap.size + 1 + 1 := h; omega; cases h)).trans (HSRC.out j v hj))
      have HF4 := Lib.hid hF4
      have HS3 := Lib.hid hs3
      clear hb2 hr2 hf2 hp2 hF4 hs3
      go_wp2_with fail
    · go_ret3
      exact (HF4.out _ (Below.refl _ _)).2.1 (valOf_none _ (Or.inl rfl))
    · refine (parse_all _ (w1.heap.size + 1 + 1 + 1 + 1 + 1) 512 data HDL.out HS3.out).mono ?_
      rintro e w4 ⟨⟨ev, rfl⟩, hbel⟩
      obtain ⟨hE, -, c43, f43⟩ := HF4.out w4 hbel
      have HE := Lib.hid hE
      clear hE hbel
      go_wp2
      go_ret3
      exact HE.out
    · refine (parse_all _ (w1.heap.size + 1 + 1 + 1 + 1 + 1) 512 data HDL.out HS3.out).mono ?_
      rintro e w4 ⟨⟨ev, rfl⟩, hbel⟩
      obtain ⟨hE, -, c43, f43⟩ := HF4.out w4 hbel
      have HE := Lib.hid hE
      clear hE hbel
      go_wp2
      go_ret3
      exact HE.out
    · refine (decode_any _ (w1.heap.size + 1 + 1 + 1 + 1 + 1) 512 data HS3.out).mono ?_
      rintro e w4 ⟨rfl, rfl⟩
      obtain ⟨hE, -, c43, f43⟩ := HF4.out _ (Below.refl _ _)
      have HE := Lib.hid hE
      clear hE
      go_wp2
      go_ret3
      exact HE.out
    · go_ret3
      exact (HF4.out _ (Below.refl _ _)).2.1 (valOf_none _ (Or.inr rfl))
    · refine (parse_all _ (w1.heap.size + 1 + 1 + 1 + 1 + 1) 512 data HDL.out HS3.out).mono ?_
      rintro e w4 ⟨⟨ev, rfl⟩, hbel⟩
      obtain ⟨hE, -, c43, f43⟩ := HF4.out w4 hbel
      have HE := Lib.hid hE
      clear hE hbel
      go_wp2
      go_ret3
      exact HE.out
  · have hc0 : c ≠ 0 := by have := HX.out; simp at tx; omega
    go_wp2_with fail
    refine (write_bytes w5 (w1.heap.size + 1 + 1) none [] data _ HD0.out HRD.out HLIM.out).mono ?_
    rintro e w2 ⟨rfl, row2, hb2, hr2, hf2⟩
    have hp2 := (hf2.block _ (blockLt HP0.out) (by rintro (h | h); omega; cases h)).trans HP0.out
    have hE := prim_end (N := N) (w := w) (i := i) (kk := kk) (rest := rest) (c := c) (t := t) (data := data) (row := row2) (bv := .slice none 0 0) HKM.out hc4 ht63 HK0.out HR0.out HC0.out (hf2.weaken (by rintro i _ (h | h); exact Or.inr h; cases h)) (by rw [← HX.out]; simpa [valOf, hc0] using hp2) hb2
      (by rintro g rfl; rcases hr2 with h | ⟨g', h, h'⟩; cases h; rw [Option.some.inj h]; have := HSZ0.out; omega) (by omega) (by omega) (by omega) (by omega) (by omega) hRlt hAlt (Or.inl ⟨hc0, rfl⟩) HREST.out
    have HE := Lib.hid hE
    clear hE hb2 hr2 hf2 hp2
    go_wp2
    go_ret3
    exact HE.out



theorem pack_some (N : Nat) (w : World) (R A : Nat) (l : List UInt8) (i : Nat) (h : Rd w R A l i) (hE : Env N w) (hN : N ≤ R) (d : Nat) (hd : d < 1000) (c t n : Nat) (rest : List UInt8)
    (hh : Ber.header (l.drop i) = some (c, false, t, some n, rest)) (hkn : Ber.known c t = true) (hn0 : 0 < n) (hn480 : n ≤ 480) (hlen : n ≤ rest.length) :
    Calls Tryd.prog 33 #[.iface 53 (.pointer (some ⟨R, 0, none⟩)), .int .i64 d] w fun e w' => PackOut N w.heap.size R A l i (.ok (.mk c false t (rest.take n) []) (rest.drop n)) e w' ∧ Keep w.heap.size R w w' :=
  pack_some0 N w R A l i h hE hN d hd c t n rest _ _ hh hkn hn0 hn480 hlen rfl rfl
end Go.Proofs.YtdfehaonngccjaaDoor

/- Plain: what a packet that was read has, written again. -/
namespace Go.Proofs.YtdfehaonngccjaaDoor.Ber

theorem tagMore_len : ∀ f n, (tagMore f n).length ≤ f
  | 0, n => by simp [tagMore]
  | f + 1, n => by simp only [tagMore]; split; simp; have := tagMore_len f (n / 128); simp; omega
theorem identBytes_len (c : Nat) (b : Bool) (t : Nat) : (identBytes c b t).length ≤ 13 := by
  have h : (tagBytes t).length ≤ 11 := by
    unfold tagBytes
    split
    · simp
    · have := tagMore_len 10 (t / 128); simp; omega
  unfold identBytes
  split
  · simp
  · rw [List.length_cons]; omega
theorem digits_len : ∀ f n, (digits f n).length ≤ f
  | 0, n => by simp [digits]
  | f + 1, n => by simp only [digits]; split; simp; have := digits_len f (n / 256); simp; omega
theorem lenBytes_len (n : Nat) : (lenBytes n).length ≤ 9 := by
  unfold lenBytes
  split
  · simp
  · have := digits_len 8 n; simp; omega
theorem enc_len (p : Pk) : (enc p).length ≤ 22 + (body p).length := by
  cases p with
  | mk c b t data items =>
    have := identBytes_len c b t
    have := lenBytes_len (body (.mk c b t data items)).length
    simp only [enc, List.length_append]
    omega
theorem bodies_append : ∀ (xs : List Pk) (p : Pk), bodies (xs ++ [p]) = bodies xs ++ enc p
  | [], .mk c b t d i => by simp [bodies, enc]
  | .mk c b t d i :: r, p => by simp only [List.cons_append, bodies, bodies_append r p, List.append_assoc]

/-- A packet of n bytes. -/
structure Fits (s : List UInt8) (p : Pk) (rest : List UInt8) : Prop where
  drop : ∃ m, rest = s.drop m ∧ 2 ≤ m ∧ m ≤ s.length
  size : (enc p).length + 20 * rest.length ≤ 20 * s.length

theorem prim_fits {c t n : Nat} {s0 s : List UInt8} {p : Pk} {rest : List UInt8} (h0 : ∃ m, s = s0.drop m ∧ 2 ≤ m ∧ m ≤ s0.length) (h : prim c t n s = .ok p rest) : Fits s0 p rest := by
  obtain ⟨m, rfl, hm2, hml⟩ := h0
  unfold prim at h
  have key : ∀ (data : List UInt8) (j : Nat), data.length ≤ j → j ≤ (s0.drop m).length → Fits s0 (.mk c false t data []) ((s0.drop m).drop j) := by
    intro data j hd hj
    have he := enc_len (.mk c false t data [])
    have hb : body (.mk c false t data []) = data := rfl
    rw [hb] at he
    rw [List.length_drop] at hj
    refine ⟨⟨m + j, by rw [List.drop_drop], by omega, by omega⟩, ?_⟩
    rw [List.drop_drop, List.length_drop]
    omega
  split at h
  · split at h
    · injection h with h1 h2
      subst h1 h2
      exact key [] 0 (by simp) (by omega)
    · cases h
  · split at h
    · cases h
    · split at h
      · cases h
      · split at h
        · injection h with h1 h2
          subst h1 h2
          exact key _ n (by rw [List.length_take]; omega) (by omega)
        · cases h

mutual
theorem readP_fits : ∀ (f d : Nat) (s : List UInt8) (p : Pk) (rest : List UInt8), readP f d s = .ok p rest → Fits s p rest
  | 0, d, s, p, rest, h => by simp [readP] at h
  | f + 1, d, s, p, rest, h => by
    simp only [readP] at h
    split at h
    · cases h
    · split at h
      · cases h
      · cases h
      · rename_i c t s1 hh
        obtain ⟨-, -, -, m, h1, h2, h3⟩ := header_bound hh
        exact kids_fits f d c t none 0 [] s1 p rest s ⟨m, h2, h1, h3⟩ (by simp [bodies]; rw [h2, List.length_drop]; omega) h
      · rename_i c b t n s1 hh
        obtain ⟨-, -, -, m, h1, h2, h3⟩ := header_bound hh
        split at h
        · cases h
        · split at h
          · exact kids_fits f d c t (some n) 0 [] s1 p rest s ⟨m, h2, h1, h3⟩ (by simp [bodies]; rw [h2, List.length_drop]; omega) h
          · exact prim_fits ⟨m, h2, h1, h3⟩ h
theorem kids_fits : ∀ (f d c t : Nat) (len : Option Nat) (got : Nat) (items : List Pk) (s : List UInt8) (p : Pk) (rest s0 : List UInt8), (∃ m, s = s0.drop m ∧ 2 ≤ m ∧ m ≤ s0.length) → 40 + (bodies items).length + 20 * s.length ≤ 20 * s0.length →
    kids f d c t len got items s = .ok p rest → Fits s0 p rest
  | 0, d, c, t, len, got, items, s, p, rest, s0, h0, hs, h => by simp [kids] at h
  | f + 1, d, c, t, len, got, items, s, p, rest, s0, h0, hs, h => by
    have key : ∀ r : List UInt8, (∃ m, r = s0.drop m ∧ 2 ≤ m ∧ m ≤ s0.length) → r.length ≤ s.length → Fits s0 (.mk c true t [] items) r := by
      intro r hr hl
      have he := enc_len (.mk c true t [] items)
      have hb : body (.mk c true t [] items) = bodies items := rfl
      rw [hb] at he
      exact ⟨hr, by omega⟩
    simp only [kids] at h
    split at h
    · injection h with h1 h2
      subst h1 h2
      exact key _ h0 (Nat.le_refl _)
    · split at h
      · cases h
      · split at h
        · cases h
        · cases h
        · rename_i q r hq
          have hf := readP_fits f (d + 1) s q r hq
          obtain ⟨m, hm1, hm2, hm3⟩ := h0
          obtain ⟨j, hj1, hj2, hj3⟩ := hf.drop
          have hr : ∃ m, r = s0.drop m ∧ 2 ≤ m ∧ m ≤ s0.length := ⟨m + j, by rw [hj1, hm1, List.drop_drop], by omega, by rw [hm1, List.length_drop] at hj3; omega⟩
          have hrl : r.length ≤ s.length := by rw [hj1, List.length_drop]; omega
          split at h
          · cases h
          · split at h
            · split at h
              · injection h with h1 h2
                subst h1 h2
                exact key _ hr hrl
              · cases h
            · refine kids_fits f d c t len _ _ r p rest s0 hr ?_ h
              have := hf.size
              rw [bodies_append, List.length_append]
              omega
end
end Go.Proofs.YtdfehaonngccjaaDoor.Ber

/- Packets in memory: more. -/
namespace Go.Proofs.YtdfehaonngccjaaDoor
open Go Go.RowKit

theorem Kids.length : ∀ {w : World} {xs : List Value} {items : List Ber.Pk}, Kids w xs items → xs.length = items.length
  | w, xs, [], h => by unfold Kids at h; rw [h]; rfl
  | w, xs, x :: r, h => by
    unfold Kids at h
    obtain ⟨q, vs, rfl, _, h2⟩ := h
    simp [Kids.length h2]
theorem Kids.snoc : ∀ {w : World} {xs : List Value} {items : List Ber.Pk} {q : Nat} {p : Ber.Pk}, Kids w xs items → Tree w q p → Kids w (xs ++ [.pointer (some ⟨q, 0, none⟩)]) (items ++ [p])
  | w, xs, [], q, p, h, ht => by
    unfold Kids at h
    subst h
    simp only [List.nil_append]
    unfold Kids
    exact ⟨q, [], rfl, ht, by unfold Kids; rfl⟩
  | w, xs, x :: r, q, p, h, ht => by
    unfold Kids at h
    obtain ⟨q', vs, rfl, h1, h2⟩ := h
    simp only [List.cons_append]
    unfold Kids
    exact ⟨q', vs ++ [.pointer (some ⟨q, 0, none⟩)], rfl, h1, Kids.snoc h2 ht⟩

/-- isEOCPacket of a packet. -/
theorem eoc_tree (w : World) (q : Nat) (p : Ber.Pk) (h : Tree w q p) :
    Calls Tryd.prog 46 #[.pointer (some ⟨q, 0, none⟩)] w fun e w' => e = .returned (.bool (Ber.isEOC p)) ∧ w = w' := by
  cases p with
  | mk c b t data items =>
    unfold Tree at h
    obtain ⟨D, row, C, cap, bv, xs, hc, ht, hp, hb, hk, hbv, hi, hd, hkids⟩ := h
    obtain ⟨bo, bn, bc, rfl, hbn⟩ : ∃ bo bn bc, bv = .slice bo bn bc ∧ (c = 0 ∧ b = false → bn = data.length) := by
      unfold BvAt at hbv
      split at hbv
      · obtain ⟨G, cp, h1, _⟩ := hbv
        exact ⟨_, _, _, h1, fun _ => rfl⟩
      · rename_i hne
        exact ⟨none, 0, 0, hbv, fun h => absurd h hne⟩
    refine (eoc_any w q ((c * 64 : Nat) : Int) (if b then 32 else 0) t _ bo bn bc _ _ xs.length cap _ (0, 0) hp).mono fun e w' ⟨he, hw⟩ => ⟨?_, hw⟩
    rw [he]
    congr 2
    have hxl := hkids.length
    by_cases h0 : c = 0 ∧ b = false
    · obtain ⟨rfl, rfl⟩ := h0
      rw [hbn ⟨rfl, rfl⟩, hxl, hi rfl]
      have e1 : ((t : Int) == 0) = decide (t = 0) := by by_cases h : t = 0 <;> simp [h]
      have e2 : data.isEmpty = decide (data.length = 0) := by cases data <;> simp
      simp only [Ber.isEOC, e1, e2]
      simp
    · have hf : ((((c * 64 : Nat) : Int) == 0) && ((if b then 32 else 0 : Int) == 0)) = false := by
        cases b
        · have : c ≠ 0 := fun h => h0 ⟨h, rfl⟩
          have h64 : (((c * 64 : Nat) : Int) == 0) = false := by rw [beq_eq_false_iff_ne]; omega
          rw [h64]; rfl
        · simp
      have hE : Ber.isEOC (.mk c b t data items) = false := by
        simp only [Ber.isEOC]
        cases b
        · have : c ≠ 0 := fun h => h0 ⟨h, rfl⟩
          simp [this]
        · simp
      rw [hE]
      rw [Bool.and_assoc ((t : Int) == 0), hf]
      simp
end Go.Proofs.YtdfehaonngccjaaDoor

