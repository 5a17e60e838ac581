/- Equal and EqualFold of parts; hasAllAttributes, hasAllAttributesFold. -/
import Derived.Test.YtjmahgefijncaaaGreatFmtNIn
import Derived.Deep.QuietTactic
import Derived.BigQuiet
import Derived.BigRegion
import Derived.Deep.RegionLaw
set_option linter.unusedVariables false
set_option linter.unusedSimpArgs false
namespace Go.Proofs.YtjmahgefijncaaaGreatFmt
open Go Go.RowKit

set_option maxRecDepth 100000 in
set_option maxHeartbeats 4000000 in
theorem part_eq (a b : Nat) (p q : Nm.Part) (w : World) (hA : PartAt w a p) (hB : PartAt w b q) (fp : PartFits p) (fq : PartFits q) :
    Calls Tryz.prog 104 #[.pointer (some ⟨a, 0, none⟩), .pointer (some ⟨b, 0, none⟩)] w fun e w' => e = .returned (.bool (partEq false p q)) ∧ ∃ m, w' = w.drewN m := by
  have a0 : w.cell? ⟨a, 0, none⟩ = some (.string (Nm.bs p.1)) := blockCell hA 0
  have a1 : w.cell? ⟨a, 1, none⟩ = some (.string (Nm.bs p.2)) := blockCell hA 1
  have b0 : w.cell? ⟨b, 0, none⟩ = some (.string (Nm.bs q.1)) := blockCell hB 0
  have b1 : w.cell? ⟨b, 1, none⟩ = some (.string (Nm.bs q.2)) := blockCell hB 1
  have HF := fun w => fold_quiet p.1 q.1 (by have := fp.1; omega) (by have := fq.1; omega) w
  have hc : ((Nm.bs p.2).toList == (Nm.bs q.2).toList) = decide (p.2 = q.2) := by
    rw [bs_toList, bs_toList, Bool.eq_iff_iff]; simp
  unfold partEq
  simp only [Bool.false_eq_true, if_false]
  generalize foldSame p.1 q.1 = r1 at *
  generalize decide (p.2 = q.2) = r2 at *
  have HF := Lib.hid HF
  generalize Nm.bs p.2 = s1 at *
  generalize Nm.bs q.2 = s2 at *
  clear hA hB fp fq
  cases r1 with
  | false =>
    go_enter Tryz.func104, Tryz.ntmps104
    go_wp2_with fail
    go_quiet ((go_at_call 72; exact Calls.quiet_of (HF.out _)))
    go_wp2_with fail
    go_ret
    exact ⟨rfl, _, rfl⟩
  | true =>
    go_enter Tryz.func104, Tryz.ntmps104
    go_wp2_with fail
    go_quiet ((go_at_call 72; exact Calls.quiet_of (HF.out _)))
    go_wp2_with fail
    go_ret
    exact ⟨rfl, _, rfl⟩

set_option maxRecDepth 100000 in
set_option maxHeartbeats 4000000 in
theorem part_eq_fold (a b : Nat) (p q : Nm.Part) (w : World) (hA : PartAt w a p) (hB : PartAt w b q) (fp : PartFits p) (fq : PartFits q) :
    Calls Tryz.prog 105 #[.pointer (some ⟨a, 0, none⟩), .pointer (some ⟨b, 0, none⟩)] w fun e w' => e = .returned (.bool (partEq true p q)) ∧ ∃ m, w' = w.drewN m := by
  have a0 : w.cell? ⟨a, 0, none⟩ = some (.string (Nm.bs p.1)) := blockCell hA 0
  have a1 : w.cell? ⟨a, 1, none⟩ = some (.string (Nm.bs p.2)) := blockCell hA 1
  have b0 : w.cell? ⟨b, 0, none⟩ = some (.string (Nm.bs q.1)) := blockCell hB 0
  have b1 : w.cell? ⟨b, 1, none⟩ = some (.string (Nm.bs q.2)) := blockCell hB 1
  have HF := fun w => fold_quiet p.1 q.1 (by have := fp.1; omega) (by have := fq.1; omega) w
  have HG := fun w => fold_quiet p.2 q.2 (by have := fp.2; omega) (by have := fq.2; omega) w
  unfold partEq
  simp only [if_true]
  generalize foldSame p.1 q.1 = r1 at *
  generalize foldSame p.2 q.2 = r2 at *
  generalize Nm.bs p.1 = s1 at *
  generalize Nm.bs q.1 = s2 at *
  generalize Nm.bs p.2 = s3 at *
  generalize Nm.bs q.2 = s4 at *
  have HX : ∀ (x y : ByteArray) (r : Bool) (w : World), (x = s1 ∧ y = s2 ∧ r = r1) ∨ (x = s3 ∧ y = s4 ∧ r = r2) → Calls Tryz.prog 72 #[.string x, .string y] w fun e w' => e = .returned (.bool r) ∧ ∃ m, w' = w.drewN m := by
    rintro x y r w (⟨rfl, rfl, rfl⟩ | ⟨rfl, rfl, rfl⟩)
    · exact HF w
    · exact HG w
  have HX := Lib.hid HX
  clear hA hB fp fq HF HG
  cases r1 with
  | false =>
    go_enter Tryz.func105, Tryz.ntmps105
    go_wp2_with fail
    go_quiet ((go_at_call 72; exact Calls.quiet_of (HX.out _ _ _ _ (by first | exact Or.inl ⟨rfl, rfl, rfl⟩ | exact Or.inr ⟨rfl, rfl, rfl⟩))))
    go_wp2_with fail
    go_ret
    exact ⟨rfl, _, rfl⟩
  | true =>
    go_enter Tryz.func105, Tryz.ntmps105
    go_wp2_with fail
    go_quiet ((go_at_call 72; exact Calls.quiet_of (HX.out _ _ _ _ (by first | exact Or.inl ⟨rfl, rfl, rfl⟩ | exact Or.inr ⟨rfl, rfl, rfl⟩))))
    go_wp2_with fail
    go_ret
    exact ⟨rfl, _, rfl⟩

theorem info_bool : ∃ i, Tryz.prog.info? 4 = some i ∧ i.zero = some (.bool false) ∧ i.size = 1 ∧ i.bytes = 1 := info_parts (by kernel_rfl)

/-- The parts that are not taken yet. -/
def live : List Nm.Part → List Bool → List Nm.Part
  | k :: ks, f :: fs => if f then live ks fs else k :: live ks fs
  | _, _ => []
theorem live_start : ∀ ks : List Nm.Part, live ks (List.replicate ks.length false) = ks
  | [] => rfl
  | k :: ks => by rw [List.length_cons, List.replicate_succ, live, if_neg (by simp), live_start ks]
theorem live_none : ∀ {ks : List Nm.Part} {fl : List Bool} {k : Nm.Part}, (∀ (j : Nat) (k' : Nm.Part), ks[j]? = some k' → fl[j]? = some false → k' ≠ k) → k ∉ live ks fl
  | [], _, k, _ => by simp [live]
  | _ :: _, [], k, _ => by simp [live]
  | x :: ks, f :: fs, k, h => by
    have ih := live_none (ks := ks) (fl := fs) (k := k) (fun j k' h1 h2 => h (j + 1) k' (by simpa using h1) (by simpa using h2))
    rw [live]
    cases f with
    | true => simpa using ih
    | false =>
      have := h 0 x rfl rfl
      simp only [Bool.false_eq_true, if_false, List.mem_cons, not_or]
      exact ⟨fun e => this e.symm, ih⟩
theorem live_found : ∀ {ks : List Nm.Part} {fl : List Bool} {j : Nat} {k : Nm.Part}, ks[j]? = some k → fl[j]? = some false → (∀ (i : Nat) (k' : Nm.Part), i < j → ks[i]? = some k' → fl[i]? = some false → k' ≠ k) →
    k ∈ live ks fl ∧ live ks (fl.set j true) = (live ks fl).erase k
  | [], _, j, k, h, _, _ => by simp at h
  | _ :: _, [], j, k, _, h, _ => by simp at h
  | x :: ks, f :: fs, 0, k, h1, h2, _ => by
    simp only [List.getElem?_cons_zero, Option.some.injEq] at h1 h2
    subst h1 h2
    rw [List.set_cons_zero, live, live]
    simp
  | x :: ks, f :: fs, j + 1, k, h1, h2, h3 => by
    obtain ⟨e1, e2⟩ := live_found (ks := ks) (fl := fs) (j := j) (k := k) (by simpa using h1) (by simpa using h2) (fun i k' hi h4 h5 => h3 (i + 1) k' (by omega) (by simpa using h4) (by simpa using h5))
    rw [List.set_cons_succ, live, live]
    cases f with
    | true => simpa using ⟨e1, e2⟩
    | false =>
      have hne := h3 0 x (by omega) rfl rfl
      simp only [Bool.false_eq_true, if_false, List.mem_cons]
      refine ⟨Or.inr e1, ?_⟩
      rw [e2, List.erase_cons_tail (by simpa using hne)]

/-- A row of bools. -/
def FRow (w : World) (g : Nat) (fl : List Bool) : Prop := w.rowIs g 4 fl.length (fun j => .bool (fl.getD j false))
theorem FRow.cell {w : World} {g : Nat} {fl : List Bool} (h : FRow w g fl) {j : Nat} {b : Bool} (hj : fl[j]? = some b) : w.cell? ⟨g, j, none⟩ = some (.bool b) := by
  have hlt : j < fl.length := by
    rcases Nat.lt_or_ge j fl.length with h1 | h1
    · exact h1
    · rw [List.getElem?_eq_none h1] at hj; cases hj
  rw [World.rowIs.cell h hlt, List.getD_eq_getElem?_getD, hj]; rfl
theorem FRow.set {w : World} {g : Nat} {fl : List Bool} (h : FRow w g fl) (j : Nat) (hj : j < fl.length) (b : Bool) : FRow (w.setCell ⟨g, j, none⟩ (.bool b)) g (fl.set j b) := by
  have h1 := World.rowIs.set h j (.bool b)
  unfold FRow
  rw [List.length_set]
  refine h1.congr fun i hi => ?_
  rw [List.getD_eq_getElem?_getD, List.getD_eq_getElem?_getD, List.getElem?_set]
  by_cases e : i = j
  · subst e; simp [hi]
  · rw [if_neg e, if_neg (fun h => e h.symm)]
theorem FRow.stays {w w' : World} {g : Nat} {fl : List Bool} (h : FRow w g fl) (k : w'.heap[g]? = w.heap[g]?) : FRow w' g fl := World.rowIs.of_block h k
theorem FRow.made (w : World) (n : Nat) : FRow (w.alloc (.cells (madeCells #[.bool false] n) 4 (0, 0))) w.heap.size (List.replicate n false) := by
  have h := World.rowIs_made w (.bool false) n 4
  unfold FRow
  rw [List.length_replicate]
  exact h.congr fun i hi => by rw [List.getD_eq_getElem?_getD, List.getElem?_replicate, if_pos hi]; rfl

structure HasInv (fold : Bool) (ps qs : List Nm.Part) (w : World) (i : Nat) (fl : List Bool) (wr : World) : Prop where
  le : i ≤ qs.length
  len : fl.length = ps.length
  rest : NC.hasAll ((qs.drop i).map (NC.key fold)) (live (ps.map (NC.key fold)) fl) = NC.hasAll (qs.map (NC.key fold)) (ps.map (NC.key fold))
  row : FRow wr w.heap.size fl
  bel : Below w.heap.size w wr

end Go.Proofs.YtjmahgefijncaaaGreatFmt

/- hasAllAttributes, hasAllAttributesFold. -/
namespace Go.Proofs.YtjmahgefijncaaaGreatFmt
open Go Go.RowKit

set_option maxRecDepth 100000 in
set_option maxHeartbeats 8000000 in
theorem has_all (r : Nat) (v : Value) (ps qs : List Nm.Part) (w : World) (hR : RdnIn w r ps) (hQ : PtrParts w v qs) (fp : ∀ p ∈ ps, PartFits p) (fq : ∀ q ∈ qs, PartFits q) (hlp : ps.length < 1000000000) (hlq : qs.length < 1000000000) :
    Calls Tryz.prog 90 #[.pointer (some ⟨r, 0, none⟩), v] w fun e w' => e = .returned (.bool (NC.hasAll (qs.map (NC.key false)) (ps.map (NC.key false)))) ∧ Below w.heap.size w w' := by
  obtain ⟨vr, hrc, op, cp, rfl, hP⟩ := hR
  obtain ⟨oq, cq, rfl, hQ0⟩ := hQ
  have cR : w.cell? ⟨r, 0, none⟩ = some (.slice op ps.length cp) := blockCell hrc 0
  have hrlt := blockLt hrc
  have HP := Lib.hid hP
  have HQ := Lib.hid hQ0
  have FP := Lib.hid fp
  have FQ := Lib.hid fq
  obtain ⟨i0, hi, hz0, hz1, hz2⟩ := info_bool
  clear hrc hP hQ0 fp fq
  go_enter Tryz.func90, Tryz.ntmps90
  go_wp2_with (refine wpList_make_row _ rfl _ _ 108 rfl 4 i0 (.bool false) Tryz.underlying108 hi hz0 hz1 rfl .i64 .i64 ps.length rfl rfl ?b1 ?b2 ?_)
  case b1 => rw [hz2]; omega
  case b2 => omega
  have hrow := FRow.made w ps.length
  have hbel : Below w.heap.size w (w.alloc (.cells (madeCells #[.bool false] ps.length) 4 (0, 0))) := (Below.refl _ w).alloc (Nat.le_refl _) _
  have H0 : Hid (HasInv false ps qs w 0 (List.replicate ps.length false) (w.alloc (.cells (madeCells #[.bool false] ps.length) 4 (0, 0)))) := Lib.hid ⟨Nat.zero_le _, by simp, by
    rw [List.drop_zero]
    have := live_start (ps.map (NC.key false))
    rw [List.length_map] at this
    rw [this], hrow, hbel⟩
  have hsz : w.heap.size < (w.alloc (.cells (madeCells #[.bool false] ps.length) 4 (0, 0))).heap.size := by simp
  have cR1 : (w.alloc (.cells (madeCells #[.bool false] ps.length) 4 (0, 0))).cell? ⟨r, 0, none⟩ = some (.slice op ps.length cp) := (hbel.cell (p := ⟨r, 0, none⟩) hrlt).trans cR
  clear hrow hbel
  generalize (w.alloc (.cells (madeCells #[.bool false] ps.length) 4 (0, 0))) = W at *
  go_wp2_with fail
  go_loopw [19] (fun t19 wr => ∃ (i : Nat) (fl : List Bool), t19 = .int .i64 i ∧ Hid (HasInv false ps qs w i fl wr)) (fun t19 _ => qs.length - (intOf t19).toNat)
  case atStart => exact ⟨0, _, rfl, H0⟩
  case round =>
    clear H0 hsz cR1
    obtain ⟨i, fl, rfl, HI⟩ := hrel
    have hle := HI.out.le
    have hbz := HI.out.bel.size
    have hfl := HI.out.len
    have hgl := World.rowIs.lt HI.out.row
    by_cases hend : i = qs.length
    · have t1 : decide ((i : Int) < (qs.length : Int)) = false := by simp; omega
      have hres : NC.hasAll (qs.map (NC.key false)) (ps.map (NC.key false)) = true := by
        rw [← HI.out.rest, hend, List.drop_length]; rfl
      have HRS := Lib.hid hres
      clear hres
      go_wp2_with fail
      go_ret
      exact ⟨by rw [HRS.out]; rfl, HI.out.bel⟩
    · have hlt : i < qs.length := by omega
      have t1 : decide ((i : Int) < (qs.length : Int)) = true := by simp; omega
      obtain ⟨q, hq⟩ : ∃ q, qs[i]? = some q := ⟨_, List.getElem?_eq_getElem hlt⟩
      obtain ⟨bq, fq, aq, rfl, cq0, hqa⟩ := HQ.out i q hq
      have kq : wr.cell? ⟨bq, fq + i, none⟩ = some (.pointer (some ⟨aq, 0, none⟩)) := (HI.out.bel.cell (World.block_lt_of_cell? w ⟨bq, fq + i, none⟩ cq0)).trans cq0
      have kR : wr.cell? ⟨r, 0, none⟩ = some (.slice op ps.length cp) := (HI.out.bel.cell (p := ⟨r, 0, none⟩) hrlt).trans cR
      have hdrop : qs.drop i = q :: qs.drop (i + 1) := by
        rw [List.drop_eq_getElem_cons hlt]
        rw [List.getElem?_eq_getElem hlt] at hq
        rw [Option.some.inj hq]
      have HD := Lib.hid hdrop
      have HQA := Lib.hid hqa
      have fqq : PartFits q := FQ.out q (List.mem_of_getElem? hq)
      have HFQ := Lib.hid fqq
      have HB0 := Lib.hid HI.out.bel
      have HROW := Lib.hid HI.out.row
      clear hdrop hqa fqq cq0 hq
      go_wp2_with fail
      obtain ⟨wo, rfl⟩ : ∃ wo, wo = wr := ⟨_, rfl⟩
      go_loopw [8, 28] (fun t8 t28 wr => ∃ (j : Nat), t8 = .bool false ∧ t28 = .int .i64 j ∧ j ≤ ps.length ∧ Hid ((∀ (m : Nat) (k' : Nm.Part), m < j → (ps.map (NC.key false))[m]? = some k' → fl[m]? = some false → k' ≠ NC.key false q) ∧ FRow wr w.heap.size fl ∧ Below w.heap.size w wr)) (fun _ t28 _ => ps.length - (intOf t28).toNat)
      case atStart => exact ⟨0, rfl, rfl, Nat.zero_le _, Lib.hid ⟨fun m k' hm => absurd hm (Nat.not_lt_zero m), HROW.out, HB0.out⟩⟩
      case round =>
        clear t1
        obtain ⟨j, rfl, rfl, hj, HJ⟩ := hrel
        have hgj := World.rowIs.lt HJ.out.2.1
        by_cases hje : j = ps.length
        · have t2 : decide ((j : Int) < (ps.length : Int)) = false := by simp; omega
          have hres : NC.hasAll (qs.map (NC.key false)) (ps.map (NC.key false)) = false := by
            rw [← HI.out.rest, HD.out, List.map_cons, NC.hasAll, if_neg]
            refine live_none fun m k' h1 h2 => HJ.out.1 m k' ?_ h1 h2
            have : m < (ps.map (NC.key false)).length := by
              rcases Nat.lt_or_ge m (ps.map (NC.key false)).length with h | h
              · exact h
              · rw [List.getElem?_eq_none h] at h1; cases h1
            rw [List.length_map] at this
            omega
          have HRS := Lib.hid hres
          clear hres
          go_wp2_with fail
          go_ret
          exact ⟨by rw [HRS.out]; rfl, HJ.out.2.2⟩
        · have hjl : j < ps.length := by omega
          have hjf : j < fl.length := by omega
          have t2 : decide ((j : Int) < (ps.length : Int)) = true := by simp; omega
          obtain ⟨p, hp⟩ : ∃ p, ps[j]? = some p := ⟨_, List.getElem?_eq_getElem hjl⟩
          obtain ⟨bp, fo, ap, rfl, cp0, hpa⟩ := HP.out j p hp
          have kp : wr.cell? ⟨bp, fo + j, none⟩ = some (.pointer (some ⟨ap, 0, none⟩)) := (HJ.out.2.2.cell (World.block_lt_of_cell? w ⟨bp, fo + j, none⟩ cp0)).trans cp0
          have j0 : (0 : Int) ≤ (j : Int) := by omega
          have j1 : (j : Int) < (ps.length : Int) := by omega
          have hkp : (ps.map (NC.key false))[j]? = some (NC.key false p) := by rw [List.getElem?_map, hp]; rfl
          obtain ⟨b, hb⟩ : ∃ b, fl[j]? = some b := ⟨_, List.getElem?_eq_getElem hjf⟩
          have kb := HJ.out.2.1.cell hb
          cases b with
          | true =>
            have hnext : ∀ (m : Nat) (k' : Nm.Part), m < j + 1 → (ps.map (NC.key false))[m]? = some k' → fl[m]? = some false → k' ≠ NC.key false q := fun m k' hm h1 h2 => by
              by_cases e : m = j
              · subst e; rw [hb] at h2; cases h2
              · exact HJ.out.1 m k' (by omega) h1 h2
            have HN := Lib.hid hnext
            clear hnext hb hkp hpa hp cp0
            go_wp2_with fail
            exact ⟨⟨j + 1, rfl, by go_num, by omega, Lib.hid ⟨HN.out, HJ.out.2⟩⟩, by simp [intOf]; omega⟩
          | false =>
            have hwi := HJ.out.2.2.size
            have HE := Lib.hid (part_eq ap aq p q wr (partAt_stays hpa HJ.out.2.2) (partAt_stays HQA.out HJ.out.2.2) (FP.out p (List.mem_of_getElem? hp)) HFQ.out)
            rw [partEq_key] at HE
            by_cases hk : NC.key false p = NC.key false q
            · rw [decide_eq_true hk] at HE
              have hrest : NC.hasAll ((qs.drop (i + 1)).map (NC.key false)) (live (ps.map (NC.key false)) (fl.set j true)) = NC.hasAll (qs.map (NC.key false)) (ps.map (NC.key false)) := by
                obtain ⟨e1, e2⟩ := live_found (hk ▸ hkp) hb (fun m k' hm h1 h2 => HJ.out.1 m k' hm h1 h2)
                rw [← HI.out.rest, HD.out, List.map_cons, NC.hasAll, if_pos e1, e2]
              have HN := Lib.hid hrest
              clear hrest hk hkp hb hpa hp cp0
              go_wp2_with fail
              refine HE.out.mono ?_
              rintro e w2 ⟨rfl, m2, rfl⟩
              have hrow2 : FRow (wr.drewN m2) w.heap.size fl := HJ.out.2.1.stays rfl
              have hbel2 : Below w.heap.size w (wr.drewN m2) := HJ.out.2.2.trans ((drewN_below wr m2).mono hwi)
              have kb2 : (wr.drewN m2).cell? ⟨w.heap.size, j, none⟩ = some (.bool false) := kb
              have kf2 : (wr.drewN m2).frozen? ⟨w.heap.size, j, none⟩ = false := World.rowIs.frozen hrow2 j
              have hnew : HasInv false ps qs w (i + 1) (fl.set j true) ((wr.drewN m2).setCell ⟨w.heap.size, j, none⟩ (.bool true)) := ⟨hlt, by rw [List.length_set]; exact hfl, HN.out, hrow2.set j hjf true, hbel2.setCell (p := ⟨w.heap.size, j, none⟩) (Nat.le_refl _) _⟩
              have HNW := Lib.hid hnew
              clear hnew hrow2 hbel2 HE
              generalize wr.drewN m2 = w2 at *
              go_wp2_with fail
              exact ⟨⟨i + 1, _, by go_num, HNW⟩, by simp [intOf]; omega⟩
            · rw [decide_eq_false hk] at HE
              have hnext : ∀ (m : Nat) (k' : Nm.Part), m < j + 1 → (ps.map (NC.key false))[m]? = some k' → fl[m]? = some false → k' ≠ NC.key false q := fun m k' hm h1 h2 => by
                by_cases e : m = j
                · subst e; rw [hkp] at h1; rw [← Option.some.inj h1]; exact hk
                · exact HJ.out.1 m k' (by omega) h1 h2
              have HN := Lib.hid hnext
              clear hnext hb hkp hpa hp cp0 hk
              go_wp2_with fail
              refine HE.out.mono ?_
              rintro e w2 ⟨rfl, m2, rfl⟩
              have hst : FRow (wr.drewN m2) w.heap.size fl ∧ Below w.heap.size w (wr.drewN m2) := ⟨HJ.out.2.1.stays rfl, HJ.out.2.2.trans ((drewN_below wr m2).mono hwi)⟩
              have HST := Lib.hid hst
              clear hst HE
              generalize wr.drewN m2 = w2 at *
              go_wp2_with fail
              exact ⟨⟨j + 1, rfl, by go_num, by omega, Lib.hid ⟨HN.out, HST.out⟩⟩, by simp [intOf]; omega⟩

set_option maxRecDepth 100000 in
set_option maxHeartbeats 8000000 in
theorem has_all_fold (r : Nat) (v : Value) (ps qs : List Nm.Part) (w : World) (hR : RdnIn w r ps) (hQ : PtrParts w v qs) (fp : ∀ p ∈ ps, PartFits p) (fq : ∀ q ∈ qs, PartFits q) (hlp : ps.length < 1000000000) (hlq : qs.length < 1000000000) :
    Calls Tryz.prog 91 #[.pointer (some ⟨r, 0, none⟩), v] w fun e w' => e = .returned (.bool (NC.hasAll (qs.map (NC.key true)) (ps.map (NC.key true)))) ∧ Below w.heap.size w w' := by
  obtain ⟨vr, hrc, op, cp, rfl, hP⟩ := hR
  obtain ⟨oq, cq, rfl, hQ0⟩ := hQ
  have cR : w.cell? ⟨r, 0, none⟩ = some (.slice op ps.length cp) := blockCell hrc 0
  have hrlt := blockLt hrc
  have HP := Lib.hid hP
  have HQ := Lib.hid hQ0
  have FP := Lib.hid fp
  have FQ := Lib.hid fq
  obtain ⟨i0, hi, hz0, hz1, hz2⟩ := info_bool
  clear hrc hP hQ0 fp fq
  go_enter Tryz.func91, Tryz.ntmps91
  go_wp2_with (refine wpList_make_row _ rfl _ _ 108 rfl 4 i0 (.bool false) Tryz.underlying108 hi hz0 hz1 rfl .i64 .i64 ps.length rfl rfl ?b1 ?b2 ?_)
  case b1 => rw [hz2]; omega
  case b2 => omega
  have hrow := FRow.made w ps.length
  have hbel : Below w.heap.size w (w.alloc (.cells (madeCells #[.bool false] ps.length) 4 (0, 0))) := (Below.refl _ w).alloc (Nat.le_refl _) _
  have H0 : Hid (HasInv true ps qs w 0 (List.replicate ps.length false) (w.alloc (.cells (madeCells #[.bool false] ps.length) 4 (0, 0)))) := Lib.hid ⟨Nat.zero_le _, by simp, by
    rw [List.drop_zero]
    have := live_start (ps.map (NC.key true))
    rw [List.length_map] at this
    rw [this], hrow, hbel⟩
  have hsz : w.heap.size < (w.alloc (.cells (madeCells #[.bool false] ps.length) 4 (0, 0))).heap.size := by simp
  have cR1 : (w.alloc (.cells (madeCells #[.bool false] ps.length) 4 (0, 0))).cell? ⟨r, 0, none⟩ = some (.slice op ps.length cp) := (hbel.cell (p := ⟨r, 0, none⟩) hrlt).trans cR
  clear hrow hbel
  generalize (w.alloc (.cells (madeCells #[.bool false] ps.length) 4 (0, 0))) = W at *
  go_wp2_with fail
  go_loopw [19] (fun t19 wr => ∃ (i : Nat) (fl : List Bool), t19 = .int .i64 i ∧ Hid (HasInv true ps qs w i fl wr)) (fun t19 _ => qs.length - (intOf t19).toNat)
  case atStart => exact ⟨0, _, rfl, H0⟩
  case round =>
    clear H0 hsz cR1
    obtain ⟨i, fl, rfl, HI⟩ := hrel
    have hle := HI.out.le
    have hbz := HI.out.bel.size
    have hfl := HI.out.len
    have hgl := World.rowIs.lt HI.out.row
    by_cases hend : i = qs.length
    · have t1 : decide ((i : Int) < (qs.length : Int)) = false := by simp; omega
      have hres : NC.hasAll (qs.map (NC.key true)) (ps.map (NC.key true)) = true := by
        rw [← HI.out.rest, hend, List.drop_length]; rfl
      have HRS := Lib.hid hres
      clear hres
      go_wp2_with fail
      go_ret
      exact ⟨by rw [HRS.out]; rfl, HI.out.bel⟩
    · have hlt : i < qs.length := by omega
      have t1 : decide ((i : Int) < (qs.length : Int)) = true := by simp; omega
      obtain ⟨q, hq⟩ : ∃ q, qs[i]? = some q := ⟨_, List.getElem?_eq_getElem hlt⟩
      obtain ⟨bq, fq, aq, rfl, cq0, hqa⟩ := HQ.out i q hq
      have kq : wr.cell? ⟨bq, fq + i, none⟩ = some (.pointer (some ⟨aq, 0, none⟩)) := (HI.out.bel.cell (World.block_lt_of_cell? w ⟨bq, fq + i, none⟩ cq0)).trans cq0
      have kR : wr.cell? ⟨r, 0, none⟩ = some (.slice op ps.length cp) := (HI.out.bel.cell (p := ⟨r, 0, none⟩) hrlt).trans cR
      have hdrop : qs.drop i = q :: qs.drop (i + 1) := by
        rw [List.drop_eq_getElem_cons hlt]
        rw [List.getElem?_eq_getElem hlt] at hq
        rw [Option.some.inj hq]
      have HD := Lib.hid hdrop
      have HQA := Lib.hid hqa
      have fqq : PartFits q := FQ.out q (List.mem_of_getElem? hq)
      have HFQ := Lib.hid fqq
      have HB0 := Lib.hid HI.out.bel
      have HROW := Lib.hid HI.out.row
      clear hdrop hqa fqq cq0 hq
      go_wp2_with fail
      obtain ⟨wo, rfl⟩ : ∃ wo, wo = wr := ⟨_, rfl⟩
      go_loopw [8, 28] (fun t8 t28 wr => ∃ (j : Nat), t8 = .bool false ∧ t28 = .int .i64 j ∧ j ≤ ps.length ∧ Hid ((∀ (m : Nat) (k' : Nm.Part), m < j → (ps.map (NC.key true))[m]? = some k' → fl[m]? = some false → k' ≠ NC.key true q) ∧ FRow wr w.heap.size fl ∧ Below w.heap.size w wr)) (fun _ t28 _ => ps.length - (intOf t28).toNat)
      case atStart => exact ⟨0, rfl, rfl, Nat.zero_le _, Lib.hid ⟨fun m k' hm => absurd hm (Nat.not_lt_zero m), HROW.out, HB0.out⟩⟩
      case round =>
        clear t1
        obtain ⟨j, rfl, rfl, hj, HJ⟩ := hrel
        have hgj := World.rowIs.lt HJ.out.2.1
        by_cases hje : j = ps.length
        · have t2 : decide ((j : Int) < (ps.length : Int)) = false := by simp; omega
          have hres : NC.hasAll (qs.map (NC.key true)) (ps.map (NC.key true)) = false := by
            rw [← HI.out.rest, HD.out, List.map_cons, NC.hasAll, if_neg]
            refine live_none fun m k' h1 h2 => HJ.out.1 m k' ?_ h1 h2
            have : m < (ps.map (NC.key true)).length := by
              rcases Nat.lt_or_ge m (ps.map (NC.key true)).length with h | h
              · exact h
              · rw [List.getElem?_eq_none h] at h1; cases h1
            rw [List.length_map] at this
            omega
          have HRS := Lib.hid hres
          clear hres
          go_wp2_with fail
          go_ret
          exact ⟨by rw [HRS.out]; rfl, HJ.out.2.2⟩
        · have hjl : j < ps.length := by omega
          have hjf : j < fl.length := by omega
          have t2 : decide ((j : Int) < (ps.length : Int)) = true := by simp; omega
          obtain ⟨p, hp⟩ : ∃ p, ps[j]? = some p := ⟨_, List.getElem?_eq_getElem hjl⟩
          obtain ⟨bp, fo, ap, rfl, cp0, hpa⟩ := HP.out j p hp
          have kp : wr.cell? ⟨bp, fo + j, none⟩ = some (.pointer (some ⟨ap, 0, none⟩)) := (HJ.out.2.2.cell (World.block_lt_of_cell? w ⟨bp, fo + j, none⟩ cp0)).trans cp0
          have j0 : (0 : Int) ≤ (j : Int) := by omega
          have j1 : (j : Int) < (ps.length : Int) := by omega
          have hkp : (ps.map (NC.key true))[j]? = some (NC.key true p) := by rw [List.getElem?_map, hp]; rfl
          obtain ⟨b, hb⟩ : ∃ b, fl[j]? = some b := ⟨_, List.getElem?_eq_getElem hjf⟩
          have kb := HJ.out.2.1.cell hb
          cases b with
          | true =>
            have hnext : ∀ (m : Nat) (k' : Nm.Part), m < j + 1 → (ps.map (NC.key true))[m]? = some k' → fl[m]? = some false → k' ≠ NC.key true q := fun m k' hm h1 h2 => by
              by_cases e : m = j
              · subst e; rw [hb] at h2; cases h2
              · exact HJ.out.1 m k' (by omega) h1 h2
            have HN := Lib.hid hnext
            clear hnext hb hkp hpa hp cp0
            go_wp2_with fail
            exact ⟨⟨j + 1, rfl, by go_num, by omega, Lib.hid ⟨HN.out, HJ.out.2⟩⟩, by simp [intOf]; omega⟩
          | false =>
            have hwi := HJ.out.2.2.size
            have HE := Lib.hid (part_eq_fold ap aq p q wr (partAt_stays hpa HJ.out.2.2) (partAt_stays HQA.out HJ.out.2.2) (FP.out p (List.mem_of_getElem? hp)) HFQ.out)
            rw [partEq_key] at HE
            by_cases hk : NC.key true p = NC.key true q
            · rw [decide_eq_true hk] at HE
              have hrest : NC.hasAll ((qs.drop (i + 1)).map (NC.key true)) (live (ps.map (NC.key true)) (fl.set j true)) = NC.hasAll (qs.map (NC.key true)) (ps.map (NC.key true)) := by
                obtain ⟨e1, e2⟩ := live_found (hk ▸ hkp) hb (fun m k' hm h1 h2 => HJ.out.1 m k' hm h1 h2)
                rw [← HI.out.rest, HD.out, List.map_cons, NC.hasAll, if_pos e1, e2]
              have HN := Lib.hid hrest
              clear hrest hk hkp hb hpa hp cp0
              go_wp2_with fail
              refine HE.out.mono ?_
              rintro e w2 ⟨rfl, m2, rfl⟩
              have hrow2 : FRow (wr.drewN m2) w.heap.size fl := HJ.out.2.1.stays rfl
              have hbel2 : Below w.heap.size w (wr.drewN m2) := HJ.out.2.2.trans ((drewN_below wr m2).mono hwi)
              have kb2 : (wr.drewN m2).cell? ⟨w.heap.size, j, none⟩ = some (.bool false) := kb
              have kf2 : (wr.drewN m2).frozen? ⟨w.heap.size, j, none⟩ = false := World.rowIs.frozen hrow2 j
              have hnew : HasInv true ps qs w (i + 1) (fl.set j true) ((wr.drewN m2).setCell ⟨w.heap.size, j, none⟩ (.bool true)) := ⟨hlt, by rw [List.length_set]; exact hfl, HN.out, hrow2.set j hjf true, hbel2.setCell (p := ⟨w.heap.size, j, none⟩) (Nat.le_refl _) _⟩
              have HNW := Lib.hid hnew
              clear hnew hrow2 hbel2 HE
              generalize wr.drewN m2 = w2 at *
              go_wp2_with fail
              exact ⟨⟨i + 1, _, by go_num, HNW⟩, by simp [intOf]; omega⟩
            · rw [decide_eq_false hk] at HE
              have hnext : ∀ (m : Nat) (k' : Nm.Part), m < j + 1 → (ps.map (NC.key true))[m]? = some k' → fl[m]? = some false → k' ≠ NC.key true q := fun m k' hm h1 h2 => by
                by_cases e : m = j
                · subst e; rw [hkp] at h1; rw [← Option.some.inj h1]; exact hk
                · exact HJ.out.1 m k' (by omega) h1 h2
              have HN := Lib.hid hnext
              clear hnext hb hkp hpa hp cp0 hk
              go_wp2_with fail
              refine HE.out.mono ?_
              rintro e w2 ⟨rfl, m2, rfl⟩
              have hst : FRow (wr.drewN m2) w.heap.size fl ∧ Below w.heap.size w (wr.drewN m2) := ⟨HJ.out.2.1.stays rfl, HJ.out.2.2.trans ((drewN_below wr m2).mono hwi)⟩
              have HST := Lib.hid hst
              clear hst HE
              generalize wr.drewN m2 = w2 at *
              go_wp2_with fail
              exact ⟨⟨j + 1, rfl, by go_num, by omega, Lib.hid ⟨HN.out, HST.out⟩⟩, by simp [intOf]; omega⟩

end Go.Proofs.YtjmahgefijncaaaGreatFmt

