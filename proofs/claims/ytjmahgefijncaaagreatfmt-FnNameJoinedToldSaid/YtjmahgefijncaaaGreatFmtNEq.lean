/- Equal and EqualFold of parts; hasAllAttributes, hasAllAttributesFold. -/
import Derived.Test.YtjmahgefijncaaaGreatFmtNIn
import Derived.Deep.QuietTactic
import Derived.BigQuiet
import Derived.BigRegion
import Derived.Deep.RegionLaw
namespace Go.Proofs.YtjmahgefijncaaaGreatFmt
open Go Go.RowKit

set_option maxRecDepth 100000 in
set_option maxHeartbeats 4000000 in
theorem part_eq (a b : Nat) (p q : Nm.Part) (w : World) (hA : PartAt w a p) (hB : PartAt w b q) (fp : PartFits p) (fq : PartFits q) :
    Calls Tryz.prog 104 #[.pointer (some ⟨a, 0, none⟩), .pointer (some ⟨b, 0, none⟩)] w fun e w' => e = .returned (.bool (partEq false p q)) ∧ ∃ m, w' = w.drewN m := by
  have a0 : w.cell? ⟨a, 0, none⟩ = some (.string (Nm.bs p.1)) := blockCell hA 0
  have a1 : w.cell? ⟨a, 1, none⟩ = some (.string (Nm.bs p.2)) := blockCell hA 1
  have b0 : w.cell? ⟨b, 0, none⟩ = some (.string (Nm.bs q.1)) := blockCell hB 0
  have b1 : w.cell? ⟨b, 1, none⟩ = some (.string (Nm.bs q.2)) := blockCell hB 1
  have HF := fun w => fold_quiet p.1 q.1 (by have := fp.1; omega) (by have := fq.1; omega) w
  have hc : ((Nm.bs p.2).toList == (Nm.bs q.2).toList) = decide (p.2 = q.2) := by
    rw [bs_toList, bs_toList, Bool.eq_iff_iff]; simp
  unfold partEq
  simp only [Bool.false_eq_true, if_false]
  generalize foldSame p.1 q.1 = r1 at *
  generalize decide (p.2 = q.2) = r2 at *
  have HF := Lib.hid HF
  generalize Nm.bs p.2 = s1 at *
  generalize Nm.bs q.2 = s2 at *
  clear hA hB fp fq
  cases r1 with
  | false =>
    go_enter Tryz.func104, Tryz.ntmps104
    go_wp2_with fail
    go_quiet ((go_at_call 72; exact Calls.quiet_of (HF.out _)))
    go_wp2_with fail
    go_ret
    exact ⟨rfl, _, rfl⟩
  | true =>
    go_enter Tryz.func104, Tryz.ntmps104
    go_wp2_with fail
    go_quiet ((go_at_call 72; exact Calls.quiet_of (HF.out _)))
    go_wp2_with fail
    go_ret
    exact ⟨rfl, _, rfl⟩

set_option maxRecDepth 100000 in
set_option maxHeartbeats 4000000 in
theorem part_eq_fold (a b : Nat) (p q : Nm.Part) (w : World) (hA : PartAt w a p) (hB : PartAt w b q) (fp : PartFits p) (fq : PartFits q) :
    Calls Tryz.prog 105 #[.pointer (some ⟨a, 0, none⟩), .pointer (some ⟨b, 0, none⟩)] w fun e w' => e = .returned (.bool (partEq true p q)) ∧ ∃ m, w' = w.drewN m := by
  have a0 : w.cell? ⟨a, 0, none⟩ = some (.string (Nm.bs p.1)) := blockCell hA 0
  have a1 : w.cell? ⟨a, 1, none⟩ = some (.string (Nm.bs p.2)) := blockCell hA 1
  have b0 : w.cell? ⟨b, 0, none⟩ = some (.string (Nm.bs q.1)) := blockCell hB 0
  have b1 : w.cell? ⟨b, 1, none⟩ = some (.string (Nm.bs q.2)) := blockCell hB 1
  have HF := fun w => fold_quiet p.1 q.1 (by have := fp.1; omega) (by have := fq.1; omega) w
  have HG := fun w => fold_quiet p.2 q.2 (by have := fp.2; omega) (by have := fq.2; omega) w
  unfold partEq
  simp only [if_true]
  generalize foldSame p.1 q.1 = r1 at *
  generalize foldSame p.2 q.2 = r2 at *
  generalize Nm.bs p.1 = s1 at *
  generalize Nm.bs q.1 = s2 at *
  generalize Nm.bs p.2 = s3 at *
  generalize Nm.bs q.2 = s4 at *
  have HX : ∀ (x y : ByteArray) (r : Bool) (w : World), (x = s1 ∧ y = s2 ∧ r = r1) ∨ (x = s3 ∧ y = s4 ∧ r = r2) → Calls Tryz.prog 72 #[.string x, .string y] w fun e w' => e = .returned (.bool r) ∧ ∃ m, w' = w.drewN m := by
    rintro x y r w (⟨rfl, rfl, rfl⟩ | ⟨rfl, rfl, rfl⟩)
    · exact HF w
    · exact HG w
  have HX := Lib.hid HX
  clear hA hB fp fq HF HG
  cases r1 with
  | false =>
    go_enter Tryz.func105, Tryz.ntmps105
    go_wp2_with fail
    go_quiet ((go_at_call 72; exact Calls.quiet_of (HX.out _ _ _ _ (by first | exact Or.inl ⟨rfl, rfl, rfl⟩ | exact Or.inr ⟨rfl, rfl, rfl⟩))))
    go_wp2_with fail
    go_ret
    exact ⟨rfl, _, rfl⟩
  | true =>
    go_enter Tryz.func105, Tryz.ntmps105
    go_wp2_with fail
    go_quiet ((go_at_call 72; exact Calls.quiet_of (HX.out _ _ _ _ (by first | exact Or.inl ⟨rfl, rfl, rfl⟩ | exact Or.inr ⟨rfl, rfl, rfl⟩))))
    go_wp2_with fail
    go_ret
    exact ⟨rfl, _, rfl⟩

theorem info_bool : ∃ i, Tryz.prog.info? 4 = some i ∧ i.zero = some (.bool false) ∧ i.size = 1 ∧ i.bytes = 1 := info_parts (by kernel_rfl)

/-- The parts that are not taken yet. -/
def live : List Nm.Part → List Bool → List Nm.Part
  | k :: ks, f :: fs => if f then live ks fs else k :: live ks fs
  | _, _ => []
theorem live_start : ∀ ks : List Nm.Part, live ks (List.replicate ks.length false) = ks
  | [] => rfl
  | k :: ks => by rw [List.length_cons, List.replicate_succ, live, if_neg (by simp), live_start ks]
theorem live_none : ∀ {ks : List Nm.Part} {fl : List Bool} {k : Nm.Part}, (∀ (j : Nat) (k' : Nm.Part), ks[j]? = some k' → fl[j]? = some false → k' ≠ k) → k ∉ live ks fl
  | [], _, k, _ => by simp [live]
  | _ :: _, [], k, _ => by simp [live]
  | x :: ks, f :: fs, k, h => by
    have ih := live_none (ks := ks) (fl := fs) (k := k) (fun j k' h1 h2 => h (j + 1) k' (by simpa using h1) (by simpa using h2))
    rw [live]
    cases f with
    | true => simpa using ih
    | false =>
      have := h 0 x rfl rfl
      simp only [Bool.false_eq_true, if_false, List.mem_cons, not_or]
      exact ⟨fun e => this e.symm, ih⟩
theorem live_found : ∀ {ks : List Nm.Part} {fl : List Bool} {j : Nat} {k : Nm.Part}, ks[j]? = some k → fl[j]? = some false → (∀ (i : Nat) (k' : Nm.Part), i < j → ks[i]? = some k' → fl[i]? = some false → k' ≠ k) →
    k ∈ live ks fl ∧ live ks (fl.set j true) = (live ks fl).erase k
  | [], _, j, k, h, _, _ => by simp at h
  | _ :: _, [], j, k, _, h, _ => by simp at h
  | x :: ks, f :: fs, 0, k, h1, h2, _ => by
    simp only [List.getElem?_cons_zero, Option.some.injEq] at h1 h2
    subst h1 h2
    rw [List.set_cons_zero, live, live]
    simp
  | x :: ks, f :: fs, j + 1, k, h1, h2, h3 => by
    obtain ⟨e1, e2⟩ := live_found (ks := ks) (fl := fs) (j := j) (k := k) (by simpa using h1) (by simpa using h2) (fun i k' hi h4 h5 => h3 (i + 1) k' (by omega) (by simpa using h4) (by simpa using h5))
    rw [List.set_cons_succ, live, live]
    cases f with
    | true => simpa using ⟨e1, e2⟩
    | false =>
      have hne := h3 0 x (by omega) rfl rfl
      simp only [Bool.false_eq_true, if_false, List.mem_cons]
      refine ⟨Or.inr e1, ?_⟩
      rw [e2, List.erase_cons_tail (by simpa using hne)]

/-- A row of bools. -/
def FRow (w : World) (g : Nat) (fl : List Bool) : Prop := w.rowIs g 4 fl.length (fun j => .bool (fl.getD j false))
theorem FRow.cell {w : World} {g : Nat} {fl : List Bool} (h : FRow w g fl) {j : Nat} {b : Bool} (hj : fl[j]? = some b) : w.cell? ⟨g, j, none⟩ = some (.bool b) := by
  have hlt : j < fl.length := by
    rcases Nat.lt_or_ge j fl.length with h1 | h1
    · exact h1
    · rw [List.getElem?_eq_none h1] at hj; cases hj
  rw [World.rowIs.cell h hlt, List.getD_eq_getElem?_getD, hj]; rfl
theorem FRow.set {w : World} {g : Nat} {fl : List Bool} (h : FRow w g fl) (j : Nat) (hj : j < fl.length) (b : Bool) : FRow (w.setCell ⟨g, j, none⟩ (.bool b)) g (fl.set j b) := by
  have h1 := World.rowIs.set h j (.bool b)
  unfold FRow
  rw [List.length_set]
  refine h1.congr fun i hi => ?_
  rw [List.getD_eq_getElem?_getD, List.getD_eq_getElem?_getD, List.getElem?_set]
  by_cases e : i = j
  · subst e; simp [hi]
  · rw [if_neg e, if_neg (fun h => e h.symm)]
theorem FRow.stays {w w' : World} {g : Nat} {fl : List Bool} (h : FRow w g fl) (k : w'.heap[g]? = w.heap[g]?) : FRow w' g fl := World.rowIs.of_block h k
theorem FRow.made (w : World) (n : Nat) : FRow (w.alloc (.cells (madeCells #[.bool false] n) 4 (0, 0))) w.heap.size (List.replicate n false) := by
  have h := World.rowIs_made w (.bool false) n 4
  unfold FRow
  rw [List.length_replicate]
  exact h.congr fun i hi => by rw [List.getD_eq_getElem?_getD, List.getElem?_replicate, if_pos hi]; rfl

structure HasInv (fold : Bool) (ps qs : List Nm.Part) (w : World) (i : Nat) (fl : List Bool) (wr : World) : Prop where
  le : i ≤ qs.length
  len : fl.length = ps.length
  rest : NC.hasAll ((qs.drop i).map (NC.key fold)) (live (ps.map (NC.key fold)) fl) = NC.hasAll (qs.map (NC.key fold)) (ps.map (NC.key fold))
  row : FRow wr w.heap.size fl
  bel : Below w.heap.size w wr

end Go.Proofs.YtjmahgefijncaaaGreatFmt
