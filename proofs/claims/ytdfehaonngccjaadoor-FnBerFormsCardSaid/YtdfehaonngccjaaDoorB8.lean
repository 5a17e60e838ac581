/- Arguments that are trees of values, opened. -/
import Derived.Test.YtdfehaonngccjaaDoorB7
import Derived.Deep.Slices
import Derived.ChangeArms
import Derived.DataReads
import Derived.ChangeMaps5
namespace Go.Proofs.YtdfehaonngccjaaDoor
open Go Go.RowKit Go.Proofs.YtdfehaonngccjaaDoorW.PrintWords Go.Proofs.YtdfehaonngccjaaDoorW.PrintLast Go.Proofs.YtdfehaonngccjaaDoorW.PrintMore

namespace Ber
mutual
/-- Its numbers are ones of their types, its texts no longer than a text may be. -/
def Typed : Pk → Prop
  | .mk c _ t data items => c < 256 ∧ t < 2 ^ 64 ∧ data.length ≤ maxLen ∧ items.length ≤ 9223372036854775807 ∧ Typeds items
def Typeds : List Pk → Prop
  | [] => True
  | x :: r => Typed x ∧ Typeds r
end
theorem Typeds.append : ∀ {l m : List Pk}, Typeds l → Typeds m → Typeds (l ++ m)
  | [], _, _, h => h
  | _ :: _, _, h, h2 => ⟨h.1, Typeds.append h.2 h2⟩
theorem Typeds.get : ∀ {l : List Pk}, Typeds l → ∀ j (hj : j < l.length), Typed l[j]
  | [], _, j, hj => absurd hj (Nat.not_lt_zero _)
  | x :: r, h, 0, hj => h.1
  | x :: r, h, j + 1, hj => by simpa using Typeds.get h.2 j (by simpa using hj)
end Ber

theorem spSs_append : ∀ (l m : List Ber.Pk), spSs (l ++ m) = spSs l ++ spSs m
  | [], m => by simp [spSs]
  | x :: l, m => by simp [spSs, spSs_append l m]

theorem k26_len (w : World) (n : Nat) (xs : List PFnBerForms.S26) (A : Option Addr) (h : xs.length = n) (hn : n ≤ 9223372036854775807)
    (hc : 0 < n → ∃ ad, A = some ad ∧ ∀ j p, xs[j]? = some p → ∃ c, c.length = 5 ∧ PFnBerForms.k26.K w p c ∧ ∀ i u, c[i]? = some u → w.cell? (ad.add (j * 5 + i)) = some u) : Kd.C PFnBerForms.k26 w A n xs := ⟨h, hn, hc⟩

theorem cells26 : Tryd.prog.cellsOf 26 = 5 := by kernel_rfl

theorem list_five {α : Type} : ∀ (l : List α), l.length = 5 → ∃ a b c d e, l = [a, b, c, d, e]
  | [a, b, c, d, e], _ => ⟨a, b, c, d, e, rfl⟩

set_option maxRecDepth 100000 in
/-- A value that is met. -/
theorem open_bers {H : Type} {enc : TypeId × Value → H} {w : World} {base : Nat} {spare : Nat → Bool} {held : Bool} (fuel : Nat) :
    (∀ (cs : List Value) (x : DataW H × List MemPlace), DataW.trod enc Tryd.prog w base spare held fuel 24 cs = some x →
      ∃ (A : Option Addr) (cap : Nat) (pks : List Ber.Pk), cs = [.slice A pks.length cap] ∧ pks.length ≤ cap ∧ pks.length ≤ maxLen ∧ Ber.Typeds pks ∧ Kd.C PFnBerForms.k26 w A pks.length (spSs pks)) ∧
    (∀ (cs : List Value) (x : DataW H × List MemPlace), DataW.trod enc Tryd.prog w base spare held fuel 26 cs = some x →
      ∃ (pk : Ber.Pk), Ber.Typed pk ∧ PFnBerForms.k26.K w (spS pk) cs) := by
  induction fuel using Nat.strongRecOn with
  | _ fuel ih =>
  constructor
  · intro cs x h
    obtain ⟨rfl, _⟩ | ⟨a, len, cap, elems, rest, n, hn, rfl, hx, hb, hl, hm, hlen, hel, -, -⟩ := DataW.trod_slice Tryd.underlying24 h
    · exact ⟨none, 0, [], rfl, Nat.le_refl _, Nat.zero_le _, trivial, Kd.C_nil _ _⟩
    · rw [cells26] at hel
      have step : ∀ k, k ≤ len → ∃ pks : List Ber.Pk, pks.length = k ∧ Ber.Typeds pks ∧ ∀ j p, (spSs pks)[j]? = some p → ∃ c, c.length = 5 ∧ PFnBerForms.k26.K w p c ∧ ∀ i u, c[i]? = some u → w.cell? (a.add (j * 5 + i)) = some u := by
        intro k
        induction k with
        | zero => intro _; exact ⟨[], rfl, trivial, fun j p h => by simp [spSs] at h⟩
        | succ k ihk =>
          intro hk
          obtain ⟨pks, h1, h2, h3⟩ := ihk (by omega)
          have he := hel k (by omega)
          rw [List.getElem?_eq_getElem (by omega)] at he
          obtain ⟨cs', h4, h5⟩ := Option.bind_eq_some_iff.1 he
          obtain ⟨pk, h6, h7⟩ := (ih n (by omega)).2 cs' _ h5
          obtain ⟨-, h8, h9⟩ := World.cells?_some h4
          refine ⟨pks ++ [pk], by simp [h1], h2.append ⟨h6, trivial⟩, fun j p hj => ?_⟩
          rw [spSs_append] at hj
          by_cases hjk : j < k
          · rw [List.getElem?_append_left (by rw [spSs_length]; omega)] at hj
            exact h3 j p hj
          · rw [List.getElem?_append_right (by rw [spSs_length]; omega), spSs_length, h1] at hj
            have hj0 : j = k := by
              have := (List.getElem?_eq_some_iff.1 hj).1
              simp [spSs] at this
              omega
            subst hj0
            rw [Nat.sub_self] at hj
            simp only [spSs, List.getElem?_cons_zero, Option.some.injEq] at hj
            subst hj
            refine ⟨cs', h8, h7, fun i u hu => ?_⟩
            have hi : i < 5 := by rw [← h8]; exact (List.getElem?_eq_some_iff.1 hu).1
            have := h9 i hi
            rw [hu, Addr.add_add] at this
            exact this
      obtain ⟨pks, h1, h2, h3⟩ := step len (Nat.le_refl _)
      subst h1
      exact ⟨some a, cap, pks, rfl, hl, Nat.le_trans hl hm, h2, k26_len w _ _ _ (spSs_length pks) (by have : maxLen ≤ 9223372036854775807 := by decide
                                                                                                      omega) (fun _ => ⟨a, rfl, h3⟩)⟩
  · intro cs x h
    obtain ⟨xs, n, hn, rfl, hl, hlen, hf⟩ := DataW.trod_struct Tryd.underlying26 h
    rw [cells26] at hl
    obtain ⟨u0, u1, u2, u3, u4, rfl⟩ := list_five cs hl
    obtain ⟨y0, y1, y2, y3, y4, rfl⟩ := list_five xs hlen
    have f0 : DataW.trod enc Tryd.prog w base spare held n 5 (([u0, u1, u2, u3, u4].drop 0).take (Tryd.prog.cellsOf 5)) = some y0 := hf 0 _ rfl
    have f1 : DataW.trod enc Tryd.prog w base spare held n 4 (([u0, u1, u2, u3, u4].drop 1).take (Tryd.prog.cellsOf 4)) = some y1 := hf 1 _ rfl
    have f2 : DataW.trod enc Tryd.prog w base spare held n 23 (([u0, u1, u2, u3, u4].drop 2).take (Tryd.prog.cellsOf 23)) = some y2 := hf 2 _ rfl
    have f3 : DataW.trod enc Tryd.prog w base spare held n 9 (([u0, u1, u2, u3, u4].drop 3).take (Tryd.prog.cellsOf 9)) = some y3 := hf 3 _ rfl
    have f4 : DataW.trod enc Tryd.prog w base spare held n 24 (([u0, u1, u2, u3, u4].drop 4).take (Tryd.prog.cellsOf 24)) = some y4 := hf 4 _ rfl
    simp only [List.drop_zero, List.drop_succ_cons] at f0 f1 f2 f3 f4
    have c5 : Tryd.prog.cellsOf 5 = 1 := by kernel_rfl
    have c4 : Tryd.prog.cellsOf 4 = 1 := by kernel_rfl
    have c23 : Tryd.prog.cellsOf 23 = 1 := by kernel_rfl
    have c9 : Tryd.prog.cellsOf 9 = 1 := by kernel_rfl
    have c24 : Tryd.prog.cellsOf 24 = 1 := by kernel_rfl
    rw [c5] at f0
    rw [c4] at f1
    rw [c23] at f2
    rw [c9] at f3
    rw [c24] at f4
    simp only [List.take_succ_cons, List.take_zero] at f0 f1 f2 f3 f4
    obtain ⟨n0, e0, -, w0⟩ := DataW.trod_int Tryd.underlying5 f0
    obtain ⟨b1, e1, -⟩ := DataW.trod_bool Tryd.underlying4 f1
    obtain ⟨n2, e2, -, w2⟩ := DataW.trod_int Tryd.underlying23 f2
    obtain ⟨s3, e3, -, w3⟩ := DataW.trod_string Tryd.underlying9 f3
    obtain ⟨A4, cp4, pks, e4, l4, m4, t4, g4⟩ := (ih n (by omega)).1 _ _ f4
    simp only [List.cons.injEq, and_true] at e0 e1 e2 e3 e4
    subst e0 e1 e2 e3 e4
    simp only [Lit.wf, Bool.and_eq_true, decide_eq_true_eq] at w0 w2
    have b0 : 0 ≤ n0 ∧ n0 < 256 := ⟨w0.1, Int.lt_of_le_of_lt w0.2 (by decide)⟩
    have b2 : 0 ≤ n2 ∧ n2 < 18446744073709551616 := ⟨w2.1, Int.lt_of_le_of_lt w2.2 (by decide)⟩
    refine ⟨.mk n0.toNat b1 n2.toNat s3.data.toList pks, ⟨by omega, by omega, by simpa using w3, Nat.le_trans m4 (by decide), t4⟩, ?_⟩
    have hk := PFnBerForms.k26_mk w (spS (.mk n0.toNat b1 n2.toNat s3.data.toList pks)) (A4 := A4) (c4 := cp4) (by simp only [spS, spSs_length]; exact l4) (by simp only [spS]; rw [spSs_length]; exact g4)
    simp only [spS, spSs_length] at hk ⊢
    rw [show ((n0.toNat : Nat) : Int) = n0 by omega, show ((n2.toNat : Nat) : Int) = n2 by omega] at hk ⊢
    exact hk
end Go.Proofs.YtdfehaonngccjaaDoor

