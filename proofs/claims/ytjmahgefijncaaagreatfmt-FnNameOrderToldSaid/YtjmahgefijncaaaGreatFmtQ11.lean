/- setType, setValue (where no number sign stands ahead), whatever they read. -/
import Derived.Test.YtjmahgefijncaaaGreatFmtQ10
import Derived.Test.YtjmahgefijncaaaGreatFmtQ2
set_option linter.unusedVariables false
set_option linter.unusedSimpArgs false
namespace Go.Proofs.YtjmahgefijncaaaGreatFmt
open Go Go.RowKit Go.Extern.Stop Go.Stop Go.Extern

def FieldOut (w : World) (A : Nat) (x : Option (List UInt8)) (c : List UInt8 → Array Value) (e : Ending) (w' : World) : Prop :=
  match x with
  | some v => e = .returned .nilIface ∧ w'.heap[A]? = some (.cells (c v) 120 (0, 0))
  | none => ∃ ev, e = .returned ev ∧ ErrAt 0 w.heap.size w' ev

/-- What setValue does of value texts: VR: what is set; VE: whether it may be refused; in what the world w0 came to. -/
def ValT (F : Interp) (w0 : World) (VR : List UInt8 → List UInt8 → Prop) (VE : List UInt8 → Prop) : Prop := ∀ (l : List UInt8) (_ : l.length ≤ 900) (w : World) (_ : Below w0.heap.size w0 w) (_ : F.told.answers w.tape) (ev : Value) (_ : w.cell? ⟨1, 0, none⟩ = some ev) (A : Nat) (s0 s1 : Value)
    (_ : w.heap[A]? = some (.cells #[s0, s1] 120 (0, 0))),
    Calls Tryz.prog 70 #[.pointer (some ⟨A, 0, none⟩), .string (Nm.bs l)] w fun e w' => (∃ rv, e = .returned rv ∧ ((rv = .nilIface ∧ ∃ v, VR l v ∧ w'.heap[A]? = some (.cells #[s0, .string (Nm.bs v)] 120 (0, 0))) ∨ (VE l ∧ ErrAt 0 w.heap.size w' rv))) ∧ Keep w.heap.size A w w'

set_option maxRecDepth 100000 in
set_option maxHeartbeats 4000000 in
theorem type_total (F : Interp) (l : List UInt8) (hl : l.length ≤ 900) (w : World) (hF : F.told.answers w.tape) (ev : Value) (hE : w.cell? ⟨1, 0, none⟩ = some ev) (A : Nat) (s0 s1 : Value)
    (hA : w.heap[A]? = some (.cells #[s0, s1] 120 (0, 0))) :
    Calls Tryz.prog 68 #[.pointer (some ⟨A, 0, none⟩), .string (Nm.bs l)] w fun e w' => FieldOut w A (Nm.decode l) (fun v => #[.string (Nm.bs v), s1]) e w' ∧ Keep w.heap.size A w w' := by
  have hC := Lib.hid (dec_any F l (by omega) w hF ev hE)
  have hAlt := blockLt hA
  have HA := Lib.hid hA
  clear hA hE hF
  generalize Nm.decode l = x at *
  cases x with
  | none =>
    go_enter Tryz.func68, Tryz.ntmps68
    go_wp2_with fail
    refine hC.out.mono ?_
    rintro e w1 ⟨⟨ev1, rfl, he⟩, hb⟩
    obtain ⟨a, rfl⟩ := he.iface
    have HE := Lib.hid he
    have HB := Lib.hid (Keep.ofBelow (R := A) hb)
    clear he hb
    go_wp2_with fail
    go_ret
    exact ⟨⟨_, rfl, HE.out⟩, HB.out⟩
  | some v =>
    go_enter Tryz.func68, Tryz.ntmps68
    go_wp2_with fail
    refine hC.out.mono ?_
    rintro e w1 ⟨ho, hb⟩
    obtain rfl : e = _ := ho
    have hA1 := (hb.block A hAlt).trans HA.out
    have c0 : w1.cell? ⟨A, 0, none⟩ = some s0 := blockCell hA1 0
    have f0 := blockFrozen hA1 0
    have hE1 := blockSet hA1 0 (.string (Nm.bs v))
    have hk : Keep w.heap.size A w (w1.setCell ⟨A, 0, none⟩ (.string (Nm.bs v))) := (Keep.ofBelow hb).setCell (p := ⟨A, 0, none⟩) (Or.inr rfl) _
    have HE := Lib.hid (And.intro hE1 hk)
    clear hA1 hE1 hk hb
    go_wp2_with fail
    go_ret
    exact ⟨⟨rfl, by simpa using HE.out.1⟩, HE.out.2⟩

set_option maxRecDepth 100000 in
set_option maxHeartbeats 4000000 in
theorem value_total (F : Interp) (l : List UInt8) (hl : l.length ≤ 900) (h35 : l[0]? ≠ some 35) (w : World) (hF : F.told.answers w.tape) (ev : Value) (hE : w.cell? ⟨1, 0, none⟩ = some ev) (A : Nat) (s0 s1 : Value)
    (hA : w.heap[A]? = some (.cells #[s0, s1] 120 (0, 0))) :
    Calls Tryz.prog 70 #[.pointer (some ⟨A, 0, none⟩), .string (Nm.bs l)] w fun e w' => FieldOut w A (Nm.decode l) (fun v => #[s0, .string (Nm.bs v)]) e w' ∧ Keep w.heap.size A w w' := by
  have hC := Lib.hid (dec_any F l (by omega) w hF ev hE)
  have hAlt := blockLt hA
  have HA := Lib.hid hA
  have hsz := bs_size l
  clear hA hE hF
  have hfirst : l.length = 0 ∨ 0 < l.length ∧ ∃ (h : 0 < (Nm.bs l).size) (b : UInt8), ((Nm.bs l)[0]'h).toNat = b.toNat ∧ ((b.toNat : Int) == 35) = false := by
    rcases Nat.eq_zero_or_pos l.length with h | h
    · exact Or.inl h
    · refine Or.inr ⟨h, by omega, l[0], by rw [bs_get], ?_⟩
      rw [beq_eq_false_iff_ne]
      intro he
      refine h35 ?_
      rw [List.getElem?_eq_getElem h]
      have : (l[0]).toNat = 35 := by omega
      exact congrArg some (UInt8.toNat_inj.1 (by rw [this]; rfl))
  generalize Nm.decode l = x at *
  rcases hfirst with h0 | ⟨h0, hlt, b, hget, hb35⟩
  all_goals
    cases x with
    | none =>
      go_enter Tryz.func70, Tryz.ntmps70
      go_wp2_with fail
      refine hC.out.mono ?_
      rintro e w1 ⟨⟨ev1, rfl, he⟩, hb⟩
      obtain ⟨a, rfl⟩ := he.iface
      have HE := Lib.hid he
      have HB := Lib.hid (Keep.ofBelow (R := A) hb)
      clear he hb
      go_wp2_with fail
      go_ret
      exact ⟨⟨_, rfl, HE.out⟩, HB.out⟩
    | some v =>
      go_enter Tryz.func70, Tryz.ntmps70
      go_wp2_with fail
      refine hC.out.mono ?_
      rintro e w1 ⟨ho, hb⟩
      obtain rfl : e = _ := ho
      have hA1 := (hb.block A hAlt).trans HA.out
      have c1 : w1.cell? ⟨A, 1, none⟩ = some s1 := blockCell hA1 1
      have f1 := blockFrozen hA1 1
      have hE1 := blockSet hA1 1 (.string (Nm.bs v))
      have hk : Keep w.heap.size A w (w1.setCell ⟨A, 1, none⟩ (.string (Nm.bs v))) := (Keep.ofBelow hb).setCell (p := ⟨A, 1, none⟩) (Or.inr rfl) _
      have HE := Lib.hid (And.intro hE1 hk)
      clear hA1 hE1 hk hb
      go_wp2_with fail
      go_ret
      exact ⟨⟨rfl, by simpa using HE.out.1⟩, HE.out.2⟩
end Go.Proofs.YtjmahgefijncaaaGreatFmt

