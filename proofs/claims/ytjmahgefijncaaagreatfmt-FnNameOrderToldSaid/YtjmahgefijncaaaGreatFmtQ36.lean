/- hasAllAttributes, hasAllAttributesFold. -/
import Derived.Test.YtjmahgefijncaaaGreatFmtQ35
import Derived.Test.YtjmahgefijncaaaGreatFmtQ13
import Derived.Deep.LoopGhost
import Derived.Deep.QuietTactic
import Derived.BigQuiet
import Derived.Test.YtjmahgefijncaaaGreatFmtProg
set_option linter.unusedVariables false
set_option linter.unusedSimpArgs false
namespace Go.Proofs.YtjmahgefijncaaaGreatFmt
open Go Go.RowKit

set_option maxRecDepth 100000 in
set_option maxHeartbeats 8000000 in
theorem has_all (r : Nat) (v : Value) (ps qs : List Nm.Part) (w : World) (hR : RdnIn w r ps) (hQ : PtrParts w v qs) (fp : ∀ p ∈ ps, PartFits p) (fq : ∀ q ∈ qs, PartFits q) (hlp : ps.length < 1000000000) (hlq : qs.length < 1000000000) :
    Calls Tryz.prog 90 #[.pointer (some ⟨r, 0, none⟩), v] w fun e w' => e = .returned (.bool (NC.hasAll (qs.map (NC.key false)) (ps.map (NC.key false)))) ∧ Below w.heap.size w w' := by
  obtain ⟨vr, hrc, op, cp, rfl, hP⟩ := hR
  obtain ⟨oq, cq, rfl, hQ0⟩ := hQ
  have cR : w.cell? ⟨r, 0, none⟩ = some (.slice op ps.length cp) := blockCell hrc 0
  have hrlt := blockLt hrc
  have HP := Lib.hid hP
  have HQ := Lib.hid hQ0
  have FP := Lib.hid fp
  have FQ := Lib.hid fq
  obtain ⟨i0, hi, hz0, hz1, hz2⟩ := info_bool
  clear hrc hP hQ0 fp fq
  go_enter Tryz.func90, Tryz.ntmps90
  go_wp2_with (refine wpList_make_row _ rfl _ _ 108 rfl 4 i0 (.bool false) Tryz.underlying108 hi hz0 hz1 rfl .i64 .i64 ps.length rfl rfl ?b1 ?b2 ?_)
  case b1 => rw [hz2]; omega
  case b2 => omega
  have hrow := FRow.made w ps.length
  have hbel : Below w.heap.size w (w.alloc (.cells (madeCells #[.bool false] ps.length) 4 (0, 0))) := (Below.refl _ w).alloc (Nat.le_refl _) _
  have H0 : Hid (HasInv false ps qs w 0 (List.replicate ps.length false) (w.alloc (.cells (madeCells #[.bool false] ps.length) 4 (0, 0)))) := Lib.hid ⟨Nat.zero_le _, by simp, by
    rw [List.drop_zero]
    have := live_start (ps.map (NC.key false))
    rw [List.length_map] at this
    rw [this], hrow, hbel⟩
  have hsz : w.heap.size < (w.alloc (.cells (madeCells #[.bool false] ps.length) 4 (0, 0))).heap.size := by simp
  have cR1 : (w.alloc (.cells (madeCells #[.bool false] ps.length) 4 (0, 0))).cell? ⟨r, 0, none⟩ = some (.slice op ps.length cp) := (hbel.cell (p := ⟨r, 0, none⟩) hrlt).trans cR
  clear hrow hbel
  generalize (w.alloc (.cells (madeCells #[.bool false] ps.length) 4 (0, 0))) = W at *
  go_wp2_with fail
  go_loopw [19] (fun t19 wr => ∃ (i : Nat) (fl : List Bool), t19 = .int .i64 i ∧ Hid (HasInv false ps qs w i fl wr)) (fun t19 _ => qs.length - (intOf t19).toNat)
  case atStart => exact ⟨0, _, rfl, H0⟩
  case round =>
    clear H0 hsz cR1
    obtain ⟨i, fl, rfl, HI⟩ := hrel
    have hle := HI.out.le
    have hbz := HI.out.bel.size
    have hfl := HI.out.len
    have hgl := World.rowIs.lt HI.out.row
    by_cases hend : i = qs.length
    · have t1 : decide ((i : Int) < (qs.length : Int)) = false := by simp; omega
      have hres : NC.hasAll (qs.map (NC.key false)) (ps.map (NC.key false)) = true := by
        rw [← HI.out.rest, hend, List.drop_length]; rfl
      have HRS := Lib.hid hres
      clear hres
      go_wp2_with fail
      go_ret
      exact ⟨by rw [HRS.out]; rfl, HI.out.bel⟩
    · have hlt : i < qs.length := by omega
      have t1 : decide ((i : Int) < (qs.length : Int)) = true := by simp; omega
      obtain ⟨q, hq⟩ : ∃ q, qs[i]? = some q := ⟨_, List.getElem?_eq_getElem hlt⟩
      obtain ⟨bq, fq, aq, rfl, cq0, hqa⟩ := HQ.out i q hq
      have kq : wr.cell? ⟨bq, fq + i, none⟩ = some (.pointer (some ⟨aq, 0, none⟩)) := (HI.out.bel.cell (World.block_lt_of_cell? w ⟨bq, fq + i, none⟩ cq0)).trans cq0
      have kR : wr.cell? ⟨r, 0, none⟩ = some (.slice op ps.length cp) := (HI.out.bel.cell (p := ⟨r, 0, none⟩) hrlt).trans cR
      have hdrop : qs.drop i = q :: qs.drop (i + 1) := by
        rw [List.drop_eq_getElem_cons hlt]
        rw [List.getElem?_eq_getElem hlt] at hq
        rw [Option.some.inj hq]
      have HD := Lib.hid hdrop
      have HQA := Lib.hid hqa
      have fqq : PartFits q := FQ.out q (List.mem_of_getElem? hq)
      have HFQ := Lib.hid fqq
      have HB0 := Lib.hid HI.out.bel
      have HROW := Lib.hid HI.out.row
      clear hdrop hqa fqq cq0 hq
      go_wp2_with fail
      obtain ⟨wo, rfl⟩ : ∃ wo, wo = wr := ⟨_, rfl⟩
      go_loopw [8, 28] (fun t8 t28 wr => ∃ (j : Nat), t8 = .bool false ∧ t28 = .int .i64 j ∧ j ≤ ps.length ∧ Hid ((∀ (m : Nat) (k' : Nm.Part), m < j → (ps.map (NC.key false))[m]? = some k' → fl[m]? = some false → k' ≠ NC.key false q) ∧ FRow wr w.heap.size fl ∧ Below w.heap.size w wr)) (fun _ t28 _ => ps.length - (intOf t28).toNat)
      case atStart => exact ⟨0, rfl, rfl, Nat.zero_le _, Lib.hid ⟨fun m k' hm => absurd hm (Nat.not_lt_zero m), HROW.out, HB0.out⟩⟩
      case round =>
        clear t1
        obtain ⟨j, rfl, rfl, hj, HJ⟩ := hrel
        have hgj := World.rowIs.lt HJ.out.2.1
        by_cases hje : j = ps.length
        · have t2 : decide ((j : Int) < (ps.length : Int)) = false := by simp; omega
          have hres : NC.hasAll (qs.map (NC.key false)) (ps.map (NC.key false)) = false := by
            rw [← HI.out.rest, HD.out, List.map_cons, NC.hasAll, if_neg]
            refine live_none fun m k' h1 h2 => HJ.out.1 m k' ?_ h1 h2
            have : m < (ps.map (NC.key false)).length := by
              rcases Nat.lt_or_ge m (ps.map (NC.key false)).length with h | h
              · exact h
              · rw [List.getElem?_eq_none h] at h1; cases h1
            rw [List.length_map] at this
            omega
          have HRS := Lib.hid hres
          clear hres
          go_wp2_with fail
          go_ret
          exact ⟨by rw [HRS.out]; rfl, HJ.out.2.2⟩
        · have hjl : j < ps.length := by omega
          have hjf : j < fl.length := by omega
          have t2 : decide ((j : Int) < (ps.length : Int)) = true := by simp; omega
          obtain ⟨p, hp⟩ : ∃ p, ps[j]? = some p := ⟨_, List.getElem?_eq_getElem hjl⟩
          obtain ⟨bp, fo, ap, rfl, cp0, hpa⟩ := HP.out j p hp
          have kp : wr.cell? ⟨bp, fo + j, none⟩ = some (.pointer (some ⟨ap, 0, none⟩)) := (HJ.out.2.2.cell (World.block_lt_of_cell? w ⟨bp, fo + j, none⟩ cp0)).trans cp0
          have j0 : (0 : Int) ≤ (j : Int) := by omega
          have j1 : (j : Int) < (ps.length : Int) := by omega
          have hkp : (ps.map (NC.key false))[j]? = some (NC.key false p) := by rw [List.getElem?_map, hp]; rfl
          obtain ⟨b, hb⟩ : ∃ b, fl[j]? = some b := ⟨_, List.getElem?_eq_getElem hjf⟩
          have kb := HJ.out.2.1.cell hb
          cases b with
          | true =>
            have hnext : ∀ (m : Nat) (k' : Nm.Part), m < j + 1 → (ps.map (NC.key false))[m]? = some k' → fl[m]? = some false → k' ≠ NC.key false q := fun m k' hm h1 h2 => by
              by_cases e : m = j
              · subst e; rw [hb] at h2; cases h2
              · exact HJ.out.1 m k' (by omega) h1 h2
            have HN := Lib.hid hnext
            clear hnext hb hkp hpa hp cp0
            go_wp2_with fail
            exact ⟨⟨j + 1, rfl, by go_num, by omega, Lib.hid ⟨HN.out, HJ.out.2⟩⟩, by simp [intOf]; omega⟩
          | false =>
            have hwi := HJ.out.2.2.size
            have HE := Lib.hid (part_eq ap aq p q wr (partAt_stays hpa HJ.out.2.2) (partAt_stays HQA.out HJ.out.2.2) (FP.out p (List.mem_of_getElem? hp)) HFQ.out)
            rw [partEq_key] at HE
            by_cases hk : NC.key false p = NC.key false q
            · rw [decide_eq_true hk] at HE
              have hrest : NC.hasAll ((qs.drop (i + 1)).map (NC.key false)) (live (ps.map (NC.key false)) (fl.set j true)) = NC.hasAll (qs.map (NC.key false)) (ps.map (NC.key false)) := by
                obtain ⟨e1, e2⟩ := live_found (hk ▸ hkp) hb (fun m k' hm h1 h2 => HJ.out.1 m k' hm h1 h2)
                rw [← HI.out.rest, HD.out, List.map_cons, NC.hasAll, if_pos e1, e2]
              have HN := Lib.hid hrest
              clear hrest hk hkp hb hpa hp cp0
              go_wp2_with fail
              refine HE.out.mono ?_
              rintro e w2 ⟨rfl, m2, rfl⟩
              have hrow2 : FRow (wr.drewN m2) w.heap.size fl := HJ.out.2.1.stays rfl
              have hbel2 : Below w.heap.size w (wr.drewN m2) := HJ.out.2.2.trans ((drewN_below wr m2).mono hwi)
              have kb2 : (wr.drewN m2).cell? ⟨w.heap.size, j, none⟩ = some (.bool false) := kb
              have kf2 : (wr.drewN m2).frozen? ⟨w.heap.size, j, none⟩ = false := World.rowIs.frozen hrow2 j
              have hnew : HasInv false ps qs w (i + 1) (fl.set j true) ((wr.drewN m2).setCell ⟨w.heap.size, j, none⟩ (.bool true)) := ⟨hlt, by rw [List.length_set]; exact hfl, HN.out, hrow2.set j hjf true, hbel2.setCell (p := ⟨w.heap.size, j, none⟩) (Nat.le_refl _) _⟩
              have HNW := Lib.hid hnew
              clear hnew hrow2 hbel2 HE
              generalize wr.drewN m2 = w2 at *
              go_wp2_with fail
              exact ⟨⟨i + 1, _, by go_num, HNW⟩, by simp [intOf]; omega⟩
            · rw [decide_eq_false hk] at HE
              have hnext : ∀ (m : Nat) (k' : Nm.Part), m < j + 1 → (ps.map (NC.key false))[m]? = some k' → fl[m]? = some false → k' ≠ NC.key false q := fun m k' hm h1 h2 => by
                by_cases e : m = j
                · subst e; rw [hkp] at h1; rw [← Option.some.inj h1]; exact hk
                · exact HJ.out.1 m k' (by omega) h1 h2
              have HN := Lib.hid hnext
              clear hnext hb hkp hpa hp cp0 hk
              go_wp2_with fail
              refine HE.out.mono ?_
              rintro e w2 ⟨rfl, m2, rfl⟩
              have hst : FRow (wr.drewN m2) w.heap.size fl ∧ Below w.heap.size w (wr.drewN m2) := ⟨HJ.out.2.1.stays rfl, HJ.out.2.2.trans ((drewN_below wr m2).mono hwi)⟩
              have HST := Lib.hid hst
              clear hst HE
              generalize wr.drewN m2 = w2 at *
              go_wp2_with fail
              exact ⟨⟨j + 1, rfl, by go_num, by omega, Lib.hid ⟨HN.out, HST.out⟩⟩, by simp [intOf]; omega⟩

set_option maxRecDepth 100000 in
set_option maxHeartbeats 8000000 in
theorem has_all_fold (r : Nat) (v : Value) (ps qs : List Nm.Part) (w : World) (hR : RdnIn w r ps) (hQ : PtrParts w v qs) (fp : ∀ p ∈ ps, PartFits p) (fq : ∀ q ∈ qs, PartFits q) (hlp : ps.length < 1000000000) (hlq : qs.length < 1000000000) :
    Calls Tryz.prog 91 #[.pointer (some ⟨r, 0, none⟩), v] w fun e w' => e = .returned (.bool (NC.hasAll (qs.map (NC.key true)) (ps.map (NC.key true)))) ∧ Below w.heap.size w w' := by
  obtain ⟨vr, hrc, op, cp, rfl, hP⟩ := hR
  obtain ⟨oq, cq, rfl, hQ0⟩ := hQ
  have cR : w.cell? ⟨r, 0, none⟩ = some (.slice op ps.length cp) := blockCell hrc 0
  have hrlt := blockLt hrc
  have HP := Lib.hid hP
  have HQ := Lib.hid hQ0
  have FP := Lib.hid fp
  have FQ := Lib.hid fq
  obtain ⟨i0, hi, hz0, hz1, hz2⟩ := info_bool
  clear hrc hP hQ0 fp fq
  go_enter Tryz.func91, Tryz.ntmps91
  go_wp2_with (refine wpList_make_row _ rfl _ _ 108 rfl 4 i0 (.bool false) Tryz.underlying108 hi hz0 hz1 rfl .i64 .i64 ps.length rfl rfl ?b1 ?b2 ?_)
  case b1 => rw [hz2]; omega
  case b2 => omega
  have hrow := FRow.made w ps.length
  have hbel : Below w.heap.size w (w.alloc (.cells (madeCells #[.bool false] ps.length) 4 (0, 0))) := (Below.refl _ w).alloc (Nat.le_refl _) _
  have H0 : Hid (HasInv true ps qs w 0 (List.replicate ps.length false) (w.alloc (.cells (madeCells #[.bool false] ps.length) 4 (0, 0)))) := Lib.hid ⟨Nat.zero_le _, by simp, by
    rw [List.drop_zero]
    have := live_start (ps.map (NC.key true))
    rw [List.length_map] at this
    rw [this], hrow, hbel⟩
  have hsz : w.heap.size < (w.alloc (.cells (madeCells #[.bool false] ps.length) 4 (0, 0))).heap.size := by simp
  have cR1 : (w.alloc (.cells (madeCells #[.bool false] ps.length) 4 (0, 0))).cell? ⟨r, 0, none⟩ = some (.slice op ps.length cp) := (hbel.cell (p := ⟨r, 0, none⟩) hrlt).trans cR
  clear hrow hbel
  generalize (w.alloc (.cells (madeCells #[.bool false] ps.length) 4 (0, 0))) = W at *
  go_wp2_with fail
  go_loopw [19] (fun t19 wr => ∃ (i : Nat) (fl : List Bool), t19 = .int .i64 i ∧ Hid (HasInv true ps qs w i fl wr)) (fun t19 _ => qs.length - (intOf t19).toNat)
  case atStart => exact ⟨0, _, rfl, H0⟩
  case round =>
    clear H0 hsz cR1
    obtain ⟨i, fl, rfl, HI⟩ := hrel
    have hle := HI.out.le
    have hbz := HI.out.bel.size
    have hfl := HI.out.len
    have hgl := World.rowIs.lt HI.out.row
    by_cases hend : i = qs.length
    · have t1 : decide ((i : Int) < (qs.length : Int)) = false := by simp; omega
      have hres : NC.hasAll (qs.map (NC.key true)) (ps.map (NC.key true)) = true := by
        rw [← HI.out.rest, hend, List.drop_length]; rfl
      have HRS := Lib.hid hres
      clear hres
      go_wp2_with fail
      go_ret
      exact ⟨by rw [HRS.out]; rfl, HI.out.bel⟩
    · have hlt : i < qs.length := by omega
      have t1 : decide ((i : Int) < (qs.length : Int)) = true := by simp; omega
      obtain ⟨q, hq⟩ : ∃ q, qs[i]? = some q := ⟨_, List.getElem?_eq_getElem hlt⟩
      obtain ⟨bq, fq, aq, rfl, cq0, hqa⟩ := HQ.out i q hq
      have kq : wr.cell? ⟨bq, fq + i, none⟩ = some (.pointer (some ⟨aq, 0, none⟩)) := (HI.out.bel.cell (World.block_lt_of_cell? w ⟨bq, fq + i, none⟩ cq0)).trans cq0
      have kR : wr.cell? ⟨r, 0, none⟩ = some (.slice op ps.length cp) := (HI.out.bel.cell (p := ⟨r, 0, none⟩) hrlt).trans cR
      have hdrop : qs.drop i = q :: qs.drop (i + 1) := by
        rw [List.drop_eq_getElem_cons hlt]
        rw [List.getElem?_eq_getElem hlt] at hq
        rw [Option.some.inj hq]
      have HD := Lib.hid hdrop
      have HQA := Lib.hid hqa
      have fqq : PartFits q := FQ.out q (List.mem_of_getElem? hq)
      have HFQ := Lib.hid fqq
      have HB0 := Lib.hid HI.out.bel
      have HROW := Lib.hid HI.out.row
      clear hdrop hqa fqq cq0 hq
      go_wp2_with fail
      obtain ⟨wo, rfl⟩ : ∃ wo, wo = wr := ⟨_, rfl⟩
      go_loopw [8, 28] (fun t8 t28 wr => ∃ (j : Nat), t8 = .bool false ∧ t28 = .int .i64 j ∧ j ≤ ps.length ∧ Hid ((∀ (m : Nat) (k' : Nm.Part), m < j → (ps.map (NC.key true))[m]? = some k' → fl[m]? = some false → k' ≠ NC.key true q) ∧ FRow wr w.heap.size fl ∧ Below w.heap.size w wr)) (fun _ t28 _ => ps.length - (intOf t28).toNat)
      case atStart => exact ⟨0, rfl, rfl, Nat.zero_le _, Lib.hid ⟨fun m k' hm => absurd hm (Nat.not_lt_zero m), HROW.out, HB0.out⟩⟩
      case round =>
        clear t1
        obtain ⟨j, rfl, rfl, hj, HJ⟩ := hrel
        have hgj := World.rowIs.lt HJ.out.2.1
        by_cases hje : j = ps.length
        · have t2 : decide ((j : Int) < (ps.length : Int)) = false := by simp; omega
          have hres : NC.hasAll (qs.map (NC.key true)) (ps.map (NC.key true)) = false := by
            rw [← HI.out.rest, HD.out, List.map_cons, NC.hasAll, if_neg]
            refine live_none fun m k' h1 h2 => HJ.out.1 m k' ?_ h1 h2
            have : m < (ps.map (NC.key true)).length := by
              rcases Nat.lt_or_ge m (ps.map (NC.key true)).length with h | h
              · exact h
              · rw [List.getElem?_eq_none h] at h1; cases h1
            rw [List.length_map] at this
            omega
          have HRS := Lib.hid hres
          clear hres
          go_wp2_with fail
          go_ret
          exact ⟨by rw [HRS.out]; rfl, HJ.out.2.2⟩
        · have hjl : j < ps.length := by omega
          have hjf : j < fl.length := by omega
          have t2 : decide ((j : Int) < (ps.length : Int)) = true := by simp; omega
          obtain ⟨p, hp⟩ : ∃ p, ps[j]? = some p := ⟨_, List.getElem?_eq_getElem hjl⟩
          obtain ⟨bp, fo, ap, rfl, cp0, hpa⟩ := HP.out j p hp
          have kp : wr.cell? ⟨bp, fo + j, none⟩ = some (.pointer (some ⟨ap, 0, none⟩)) := (HJ.out.2.2.cell (World.block_lt_of_cell? w ⟨bp, fo + j, none⟩ cp0)).trans cp0
          have j0 : (0 : Int) ≤ (j : Int) := by omega
          have j1 : (j : Int) < (ps.length : Int) := by omega
          have hkp : (ps.map (NC.key true))[j]? = some (NC.key true p) := by rw [List.getElem?_map, hp]; rfl
          obtain ⟨b, hb⟩ : ∃ b, fl[j]? = some b := ⟨_, List.getElem?_eq_getElem hjf⟩
          have kb := HJ.out.2.1.cell hb
          cases b with
          | true =>
            have hnext : ∀ (m : Nat) (k' : Nm.Part), m < j + 1 → (ps.map (NC.key true))[m]? = some k' → fl[m]? = some false → k' ≠ NC.key true q := fun m k' hm h1 h2 => by
              by_cases e : m = j
              · subst e; rw [hb] at h2; cases h2
              · exact HJ.out.1 m k' (by omega) h1 h2
            have HN := Lib.hid hnext
            clear hnext hb hkp hpa hp cp0
            go_wp2_with fail
            exact ⟨⟨j + 1, rfl, by go_num, by omega, Lib.hid ⟨HN.out, HJ.out.2⟩⟩, by simp [intOf]; omega⟩
          | false =>
            have hwi := HJ.out.2.2.size
            have HE := Lib.hid (part_eq_fold ap aq p q wr (partAt_stays hpa HJ.out.2.2) (partAt_stays HQA.out HJ.out.2.2) (FP.out p (List.mem_of_getElem? hp)) HFQ.out)
            rw [partEq_key] at HE
            by_cases hk : NC.key true p = NC.key true q
            · rw [decide_eq_true hk] at HE
              have hrest : NC.hasAll ((qs.drop (i + 1)).map (NC.key true)) (live (ps.map (NC.key true)) (fl.set j true)) = NC.hasAll (qs.map (NC.key true)) (ps.map (NC.key true)) := by
                obtain ⟨e1, e2⟩ := live_found (hk ▸ hkp) hb (fun m k' hm h1 h2 => HJ.out.1 m k' hm h1 h2)
                rw [← HI.out.rest, HD.out, List.map_cons, NC.hasAll, if_pos e1, e2]
              have HN := Lib.hid hrest
              clear hrest hk hkp hb hpa hp cp0
              go_wp2_with fail
              refine HE.out.mono ?_
              rintro e w2 ⟨rfl, m2, rfl⟩
              have hrow2 : FRow (wr.drewN m2) w.heap.size fl := HJ.out.2.1.stays rfl
              have hbel2 : Below w.heap.size w (wr.drewN m2) := HJ.out.2.2.trans ((drewN_below wr m2).mono hwi)
              have kb2 : (wr.drewN m2).cell? ⟨w.heap.size, j, none⟩ = some (.bool false) := kb
              have kf2 : (wr.drewN m2).frozen? ⟨w.heap.size, j, none⟩ = false := World.rowIs.frozen hrow2 j
              have hnew : HasInv true ps qs w (i + 1) (fl.set j true) ((wr.drewN m2).setCell ⟨w.heap.size, j, none⟩ (.bool true)) := ⟨hlt, by rw [List.length_set]; exact hfl, HN.out, hrow2.set j hjf true, hbel2.setCell (p := ⟨w.heap.size, j, none⟩) (Nat.le_refl _) _⟩
              have HNW := Lib.hid hnew
              clear hnew hrow2 hbel2 HE
              generalize wr.drewN m2 = w2 at *
              go_wp2_with fail
              exact ⟨⟨i + 1, _, by go_num, HNW⟩, by simp [intOf]; omega⟩
            · rw [decide_eq_false hk] at HE
              have hnext : ∀ (m : Nat) (k' : Nm.Part), m < j + 1 → (ps.map (NC.key true))[m]? = some k' → fl[m]? = some false → k' ≠ NC.key true q := fun m k' hm h1 h2 => by
                by_cases e : m = j
                · subst e; rw [hkp] at h1; rw [← Option.some.inj h1]; exact hk
                · exact HJ.out.1 m k' (by omega) h1 h2
              have HN := Lib.hid hnext
              clear hnext hb hkp hpa hp cp0 hk
              go_wp2_with fail
              refine HE.out.mono ?_
              rintro e w2 ⟨rfl, m2, rfl⟩
              have hst : FRow (wr.drewN m2) w.heap.size fl ∧ Below w.heap.size w (wr.drewN m2) := ⟨HJ.out.2.1.stays rfl, HJ.out.2.2.trans ((drewN_below wr m2).mono hwi)⟩
              have HST := Lib.hid hst
              clear hst HE
              generalize wr.drewN m2 = w2 at *
              go_wp2_with fail
              exact ⟨⟨j + 1, rfl, by go_num, by omega, Lib.hid ⟨HN.out, HST.out⟩⟩, by simp [intOf]; omega⟩

end Go.Proofs.YtjmahgefijncaaaGreatFmt

/- Equal, EqualFold of relative names. -/
namespace Go.Proofs.YtjmahgefijncaaaGreatFmt
open Go Go.RowKit

theorem RdnIn.cell {w : World} {r : Nat} {ps : List Nm.Part} (h : RdnIn w r ps) : ∃ o c, w.cell? ⟨r, 0, none⟩ = some (.slice o ps.length c) ∧ PtrParts w (.slice o ps.length c) ps ∧ r < w.heap.size := by
  obtain ⟨v, h1, o, c, rfl, h2⟩ := h
  exact ⟨o, c, blockCell h1 0, ⟨o, c, rfl, h2⟩, blockLt h1⟩
def RdnFits (ps : List Nm.Part) : Prop := ps.length < 1000000000 ∧ ∀ p ∈ ps, PartFits p
def NameFits (n : Nm.Name) : Prop := n.length < 1000000000 ∧ ∀ ps ∈ n, RdnFits ps

set_option maxRecDepth 100000 in
set_option maxHeartbeats 4000000 in
theorem rdn_eq (a b : Nat) (ps qs : List Nm.Part) (w : World) (hA : RdnIn w a ps) (hB : RdnIn w b qs) (fp : RdnFits ps) (fq : RdnFits qs) :
    Calls Tryz.prog 80 #[.pointer (some ⟨a, 0, none⟩), .pointer (some ⟨b, 0, none⟩)] w fun e w' => e = .returned (.bool (NC.rdnEq false ps qs)) ∧ Below w.heap.size w w' := by
  obtain ⟨oa, ca, cA, hpa, hal⟩ := hA.cell
  obtain ⟨ob, cb, cB, hpb, hbl⟩ := hB.cell
  by_cases hlen : ps.length = qs.length
  · have t0 : ((ps.length : Int) != (qs.length : Int)) = false := by simp [hlen]
    have HA := Lib.hid (fun w' (hb : Below w.heap.size w w') => has_all a (.slice ob qs.length cb) ps qs w' (hA.stays hb) (hpb.stays hb) fp.2 fq.2 fp.1 fq.1)
    have HB := Lib.hid (fun w' (hb : Below w.heap.size w w') => has_all b (.slice oa ps.length ca) qs ps w' (hB.stays hb) (hpa.stays hb) fq.2 fp.2 fq.1 fp.1)
    have hr : NC.rdnEq false ps qs = (NC.hasAll (qs.map (NC.key false)) (ps.map (NC.key false)) && NC.hasAll (ps.map (NC.key false)) (qs.map (NC.key false))) := by
      unfold NC.rdnEq; rw [hlen]; simp
    rw [hr]
    clear hr hA hB hpa hpb fp fq hlen
    generalize NC.hasAll (qs.map (NC.key false)) (ps.map (NC.key false)) = r1 at *
    generalize NC.hasAll (ps.map (NC.key false)) (qs.map (NC.key false)) = r2 at *
    have kA : ∀ w', Below w.heap.size w w' → w'.cell? ⟨a, 0, none⟩ = some (.slice oa ps.length ca) := fun w' hb => (hb.cell (p := ⟨a, 0, none⟩) hal).trans cA
    have kB : ∀ w', Below w.heap.size w w' → w'.cell? ⟨b, 0, none⟩ = some (.slice ob qs.length cb) := fun w' hb => (hb.cell (p := ⟨b, 0, none⟩) hbl).trans cB
    have KA := Lib.hid kA
    have KB := Lib.hid kB
    clear kA kB
    go_enter Tryz.func80, Tryz.ntmps80
    go_wp2_with fail
    go_quiet (fail)
    have hb0 := drewN_below w nq
    have c1 := KA.out _ hb0
    have c2 := KB.out _ hb0
    have HB0 := Lib.hid hb0
    have hz0 : w.heap.size ≤ (w.drewN nq).heap.size := hb0.size
    clear cA cB hb0
    generalize w.drewN nq = w1 at *
    cases r1 with
    | false =>
      go_wp2_with fail
      refine (HA.out _ HB0.out).mono ?_
      rintro e w2 ⟨rfl, hb2⟩
      have HE := Lib.hid (HB0.out.trans (hb2.mono hz0))
      clear hb2
      go_wp2_with fail
      go_ret
      exact ⟨rfl, HE.out⟩
    | true =>
      go_wp2_with fail
      refine (HA.out _ HB0.out).mono ?_
      rintro e w2 ⟨rfl, hb2⟩
      have hb3 := HB0.out.trans (hb2.mono hz0)
      have hz2 := hb3.size
      have c3 := KA.out _ hb3
      have HE := Lib.hid hb3
      clear hb2 hb3 c1 c2
      go_wp2_with fail
      refine (HB.out _ HE.out).mono ?_
      rintro e w4 ⟨rfl, hb4⟩
      have HE2 := Lib.hid (HE.out.trans (hb4.mono hz2))
      clear hb4
      go_wp2_with fail
      go_ret
      exact ⟨rfl, HE2.out⟩
  · have t0 : ((ps.length : Int) != (qs.length : Int)) = true := by rw [bne_iff_ne]; omega
    have hr : NC.rdnEq false ps qs = false := by
      unfold NC.rdnEq
      have : (ps.length == qs.length) = false := by simpa using hlen
      rw [this]; rfl
    rw [hr]
    clear hr hA hB hpa hpb fp fq hlen
    go_enter Tryz.func80, Tryz.ntmps80
    go_wp2_with fail
    go_quiet (fail)
    go_wp2_with fail
    go_ret
    exact ⟨rfl, drewN_below w nq⟩

set_option maxRecDepth 100000 in
set_option maxHeartbeats 4000000 in
theorem rdn_eq_fold (a b : Nat) (ps qs : List Nm.Part) (w : World) (hA : RdnIn w a ps) (hB : RdnIn w b qs) (fp : RdnFits ps) (fq : RdnFits qs) :
    Calls Tryz.prog 81 #[.pointer (some ⟨a, 0, none⟩), .pointer (some ⟨b, 0, none⟩)] w fun e w' => e = .returned (.bool (NC.rdnEq true ps qs)) ∧ Below w.heap.size w w' := by
  obtain ⟨oa, ca, cA, hpa, hal⟩ := hA.cell
  obtain ⟨ob, cb, cB, hpb, hbl⟩ := hB.cell
  by_cases hlen : ps.length = qs.length
  · have t0 : ((ps.length : Int) != (qs.length : Int)) = false := by simp [hlen]
    have HA := Lib.hid (fun w' (hb : Below w.heap.size w w') => has_all_fold a (.slice ob qs.length cb) ps qs w' (hA.stays hb) (hpb.stays hb) fp.2 fq.2 fp.1 fq.1)
    have HB := Lib.hid (fun w' (hb : Below w.heap.size w w') => has_all_fold b (.slice oa ps.length ca) qs ps w' (hB.stays hb) (hpa.stays hb) fq.2 fp.2 fq.1 fp.1)
    have hr : NC.rdnEq true ps qs = (NC.hasAll (qs.map (NC.key true)) (ps.map (NC.key true)) && NC.hasAll (ps.map (NC.key true)) (qs.map (NC.key true))) := by
      unfold NC.rdnEq; rw [hlen]; simp
    rw [hr]
    clear hr hA hB hpa hpb fp fq hlen
    generalize NC.hasAll (qs.map (NC.key true)) (ps.map (NC.key true)) = r1 at *
    generalize NC.hasAll (ps.map (NC.key true)) (qs.map (NC.key true)) = r2 at *
    have kA : ∀ w', Below w.heap.size w w' → w'.cell? ⟨a, 0, none⟩ = some (.slice oa ps.length ca) := fun w' hb => (hb.cell (p := ⟨a, 0, none⟩) hal).trans cA
    have kB : ∀ w', Below w.heap.size w w' → w'.cell? ⟨b, 0, none⟩ = some (.slice ob qs.length cb) := fun w' hb => (hb.cell (p := ⟨b, 0, none⟩) hbl).trans cB
    have KA := Lib.hid kA
    have KB := Lib.hid kB
    clear kA kB
    go_enter Tryz.func81, Tryz.ntmps81
    go_wp2_with fail
    go_quiet (fail)
    have hb0 := drewN_below w nq
    have c1 := KA.out _ hb0
    have c2 := KB.out _ hb0
    have HB0 := Lib.hid hb0
    have hz0 : w.heap.size ≤ (w.drewN nq).heap.size := hb0.size
    clear cA cB hb0
    generalize w.drewN nq = w1 at *
    cases r1 with
    | false =>
      go_wp2_with fail
      refine (HA.out _ HB0.out).mono ?_
      rintro e w2 ⟨rfl, hb2⟩
      have HE := Lib.hid (HB0.out.trans (hb2.mono hz0))
      clear hb2
      go_wp2_with fail
      go_ret
      exact ⟨rfl, HE.out⟩
    | true =>
      go_wp2_with fail
      refine (HA.out _ HB0.out).mono ?_
      rintro e w2 ⟨rfl, hb2⟩
      have hb3 := HB0.out.trans (hb2.mono hz0)
      have hz2 := hb3.size
      have c3 := KA.out _ hb3
      have HE := Lib.hid hb3
      clear hb2 hb3 c1 c2
      go_wp2_with fail
      refine (HB.out _ HE.out).mono ?_
      rintro e w4 ⟨rfl, hb4⟩
      have HE2 := Lib.hid (HE.out.trans (hb4.mono hz2))
      clear hb4
      go_wp2_with fail
      go_ret
      exact ⟨rfl, HE2.out⟩
  · have t0 : ((ps.length : Int) != (qs.length : Int)) = true := by rw [bne_iff_ne]; omega
    have hr : NC.rdnEq true ps qs = false := by
      unfold NC.rdnEq
      have : (ps.length == qs.length) = false := by simpa using hlen
      rw [this]; rfl
    rw [hr]
    clear hr hA hB hpa hpb fp fq hlen
    go_enter Tryz.func81, Tryz.ntmps81
    go_wp2_with fail
    go_quiet (fail)
    go_wp2_with fail
    go_ret
    exact ⟨rfl, drewN_below w nq⟩

end Go.Proofs.YtjmahgefijncaaaGreatFmt

/- Bounds of what ParseDN may read. -/
namespace Go.Proofs.YtjmahgefijncaaaGreatFmt
open Go Go.RowKit

theorem encode_len4 (n : Int) : (Lib.encodeRune n).length ≤ 4 := by
  have h : (Lib.encodeRuneZ n).length ≤ 4 := by
    unfold Lib.encodeRuneZ
    repeat' split
    all_goals simp
  simpa [Lib.encodeRune] using h
theorem unescape_len : ∀ (k : Nat) (rs : List Nat) (v : List UInt8), rs.length ≤ k → Nm.unescape rs = some v → v.length ≤ 4 * rs.length
  | _, [], v, _, h => by simp [Nm.unescape] at h; subst h; simp
  | 0, c :: r, v, hk, h => by simp at hk
  | k + 1, c :: r, v, hk, h => by
    simp only [List.length_cons] at hk
    unfold Nm.unescape at h
    split at h
    · split at h
      · cases h
      · rename_i d r1
        simp only [List.length_cons] at hk
        split at h
        · simp only [Option.map_eq_some_iff] at h
          obtain ⟨u, hu, rfl⟩ := h
          have h1 := unescape_len k r1 u (by omega) hu
          have h2 := encode_len4 (d : Int)
          simp only [List.length_append, List.length_cons]
          omega
        · split at h
          · cases h
          · rename_i e r2
            simp only [List.length_cons] at hk
            split at h
            · simp only [Option.map_eq_some_iff] at h
              obtain ⟨u, hu, rfl⟩ := h
              have h1 := unescape_len k r2 u (by omega) hu
              simp only [List.length_cons]
              omega
            · cases h
    · split at h
      · cases h
      · simp only [Option.map_eq_some_iff] at h
        obtain ⟨u, hu, rfl⟩ := h
        have h1 := unescape_len k r u (by omega) hu
        have h2 := encode_len4 (c : Int)
        simp only [List.length_append, List.length_cons]
        omega
theorem decode_len4 {l v : List UInt8} (h : Nm.decode l = some v) : v.length ≤ 4 * (l.length + 1) := by
  have hsl : (Nm.strip l).length ≤ l.length + 1 := by
    have h1 := trimL_le l
    have h2 := trimR_le (Nm.trimL l)
    unfold Nm.strip
    split
    · simp; omega
    · omega
  have h1 := unescape_len _ _ _ (Nat.le_refl _) h
  have h2 := runes_len (Nm.bs (Nm.strip l)) (Nm.strip l).length 0
  omega
theorem anyR_len {l v : List UInt8} (h : AnyR l v) : v.length ≤ 40 * (l.length + 1) := by
  unfold AnyR at h
  split at h
  · obtain ⟨b, hb, p, hp, rfl⟩ := h
    have h1 := (Ber.readR_fits _ _ _ _ _ hp).size
    have h2 := Lib.Hx.decode_len (l.drop 1)
    rw [hb] at h2
    have h2 : b.length ≤ (l.drop 1).length / 2 := h2
    rw [List.length_drop] at h2
    have h3 : (Ber.body p).length ≤ (Ber.enc p).length := by
      cases p
      simp only [Ber.enc, List.length_append]
      omega
    simp only [List.length_nil] at h1
    omega
  · have := decode_len4 h
    omega

/-- What holds of all parts that may be read. -/
theorem parseR_all {VR : List UInt8 → List UInt8 → Prop} {VE : List UInt8 → Prop} (L : Nat) (P : Nm.Part → Prop) (hP : ∀ (s1 s2 t v : List UInt8), s1.length ≤ L → s2.length ≤ L → t ≠ [] → Nm.decode s1 = some t → VR s2 v → P (t, v)) :
    ∀ (l seg : List UInt8) (esc : Bool) (ty : List UInt8) (rdn : List Nm.Part) (dn : Nm.Name) (n : Nm.Name), Nm.parseR VR VE l seg esc ty rdn dn (some n) → seg.length + l.length ≤ L → (ty = [] ∨ ∃ s, s.length ≤ L ∧ Nm.decode s = some ty) → (∀ p ∈ rdn, P p) → (∀ ps ∈ dn, ∀ p ∈ ps, P p) → ∀ ps ∈ n, ∀ p ∈ ps, P p
  | [], seg, esc, ty, rdn, dn, n, h, hL, ht, h1, h2 => by
    unfold Nm.parseR at h
    split at h
    · cases h
    · rename_i hty
      obtain ⟨s, hs, hd⟩ := ht.resolve_left hty
      rcases h with ⟨-, h⟩ | ⟨v, hv, h⟩
      · cases h
      · injection h with h
        subst h
        intro ps hps
        rcases List.mem_append.1 hps with hps | hps
        · exact h2 ps hps
        · simp only [List.mem_singleton] at hps
          subst hps
          intro p hp
          rcases List.mem_append.1 hp with hp | hp
          · exact h1 p hp
          · simp only [List.mem_singleton] at hp
            subst hp
            exact hP s seg ty v hs (by omega) hty hd hv
  | c :: l, seg, esc, ty, rdn, dn, n, h, hL, ht, h1, h2 => by
    simp only [List.length_cons] at hL
    unfold Nm.parseR at h
    split at h
    · exact parseR_all L P hP l _ _ _ _ _ n h (by simp; omega) ht h1 h2
    · split at h
      · exact parseR_all L P hP l _ _ _ _ _ n h (by simp; omega) ht h1 h2
      · split at h
        · rcases h with ⟨-, h⟩ | ⟨t, hd, h⟩
          · cases h
          · exact parseR_all L P hP l _ _ _ _ _ n h (by simp; omega) (Or.inr ⟨seg, by omega, hd⟩) h1 h2
        · split at h
          · split at h
            · cases h
            · rename_i hty
              obtain ⟨s, hs, hd⟩ := ht.resolve_left hty
              rcases h with ⟨-, h⟩ | ⟨v, hv, h⟩
              · cases h
              · have hr : ∀ p ∈ rdn ++ [(ty, v)], P p := by
                  intro p hp
                  rcases List.mem_append.1 hp with hp | hp
                  · exact h1 p hp
                  · simp only [List.mem_singleton] at hp
                    subst hp
                    exact hP s seg ty v hs (by omega) hty hd hv
                split at h
                · exact parseR_all L P hP l _ _ _ _ _ n h (by simp; omega) (Or.inl rfl) hr h2
                · refine parseR_all L P hP l _ _ _ _ _ n h (by simp; omega) (Or.inl rfl) (by simp) (fun ps hps => ?_)
                  rcases List.mem_append.1 hps with hps | hps
                  · exact h2 ps hps
                  · simp only [List.mem_singleton] at hps
                    subst hps
                    exact hr
          · exact parseR_all L P hP l _ _ _ _ _ n h (by simp; omega) ht h1 h2
theorem parseDNR_all {VR : List UInt8 → List UInt8 → Prop} {VE : List UInt8 → Prop} {l : List UInt8} {n : Nm.Name} (P : Nm.Part → Prop) (hP : ∀ (s1 s2 t v : List UInt8), s1.length ≤ l.length → s2.length ≤ l.length → t ≠ [] → Nm.decode s1 = some t → VR s2 v → P (t, v)) (h : Nm.parseDNR VR VE l (some n)) : ∀ ps ∈ n, ∀ p ∈ ps, P p := by
  unfold Nm.parseDNR at h
  split at h
  · injection h with h; subst h; simp
  · exact parseR_all l.length P hP l [] false [] [] [] n h (by simp) (Or.inl rfl) (by simp) (by simp)

theorem any_fits {l : List UInt8} {n : Nm.Name} (hl : l.length ≤ 900) (h : Nm.parseDNR AnyR AnyE l (some n)) : NameFits n := by
  obtain ⟨h1, h2⟩ := parseDNR_len h
  refine ⟨by omega, fun ps hps => ⟨by have := h2 ps hps; omega, ?_⟩⟩
  refine parseDNR_all PartFits (fun s1 s2 t v hs1 hs2 _ hd hv => ⟨?_, ?_⟩) h ps hps
  · have := decode_len4 hd
    show t.length < _
    omega
  · have := anyR_len hv
    show v.length < _
    omega
end Go.Proofs.YtjmahgefijncaaaGreatFmt

/- laws.zzFits16. -/
namespace Go.Proofs.YtjmahgefijncaaaGreatFmt
open Go Go.RowKit

theorem idx0 (s0 s1 s2 : ByteArray) (w : World) : (Instr.index 58 (.agg #[.string s0, .string s1, .string s2]) (.int .i64 0)).run Tryz.prog w = .ok (.string s0) w := by kernel_rfl
theorem idx1 (s0 s1 s2 : ByteArray) (w : World) : (Instr.index 58 (.agg #[.string s0, .string s1, .string s2]) (.int .i64 1)).run Tryz.prog w = .ok (.string s1) w := by kernel_rfl
theorem idx2 (s0 s1 s2 : ByteArray) (w : World) : (Instr.index 58 (.agg #[.string s0, .string s1, .string s2]) (.int .i64 2)).run Tryz.prog w = .ok (.string s2) w := by kernel_rfl

set_option maxRecDepth 100000 in
set_option maxHeartbeats 8000000 in
theorem fits16_any (s0 s1 s2 : ByteArray) (w : World) :
    Calls Tryz.prog 31 #[.agg #[.string s0, .string s1, .string s2]] w fun e w' => (∃ r : Bool, e = .returned (.bool r)) ∧ Below w.heap.size w w' := by
  have hi0 := fun w => idx0 s0 s1 s2 w
  have hi1 := fun w => idx1 s0 s1 s2 w
  have hi2 := fun w => idx2 s0 s1 s2 w
  go_enter Tryz.func31, Tryz.ntmps31
  go_wp2_with fail
  go_loopw [6] (fun t6 wr => ∃ (i : Nat), t6 = .int .i64 i ∧ i ≤ 3 ∧ Hid (Below w.heap.size w wr)) (fun t6 _ => 3 - (intOf t6).toNat)
  case atStart => exact ⟨0, rfl, by omega, Lib.hid (by first | exact (Below.refl _ w).alloc (Nat.le_refl _) _ | exact Below.refl _ w)⟩
  case round =>
    obtain ⟨i, rfl, hi, HB⟩ := hrel
    have h4 : i = 0 ∨ i = 1 ∨ i = 2 ∨ i = 3 := by omega
    rcases h4 with rfl | rfl | rfl | rfl
    all_goals
      go_wp2_with fail
      all_goals first
        | exact ⟨⟨1, rfl, by omega, HB⟩, by simp [intOf]⟩
        | exact ⟨⟨2, rfl, by omega, HB⟩, by simp [intOf]⟩
        | exact ⟨⟨3, rfl, by omega, HB⟩, by simp [intOf]⟩
        | (go_ret
           exact ⟨⟨_, rfl⟩, HB.out⟩)
end Go.Proofs.YtjmahgefijncaaaGreatFmt

/- Plain: the order of names. -/
namespace Go.Proofs.YtjmahgefijncaaaGreatFmt.NC

theorem namesEq_drop {fold : Bool} : ∀ {n m : Nm.Name} (k : Nat), namesEq fold n m = true → namesEq fold (n.drop k) (m.drop k) = true
  | _, _, 0, h => h
  | [], [], _ + 1, h => by simpa using h
  | [], _ :: _, _ + 1, h => by simp [namesEq] at h
  | _ :: _, [], _ + 1, h => by simp [namesEq] at h
  | a :: n, b :: m, k + 1, h => by
    simp only [namesEq, Bool.and_eq_true] at h
    simpa using namesEq_drop k h.2
theorem above_iff {fold : Bool} {n m : Nm.Name} : above fold n m = true ↔ n.length < m.length ∧ namesEq fold n (m.drop (m.length - n.length)) = true := by
  unfold above
  rw [Bool.and_eq_true, decide_eq_true_eq]
theorem above_fold {n m : Nm.Name} (h : above false n m = true) : above true n m = true := above_iff.2 ⟨(above_iff.1 h).1, namesEq_fold (above_iff.1 h).2⟩
theorem above_ne {f g : Bool} {n m : Nm.Name} (h : above f n m = true) : namesEq g n m = false := namesEq_false (by have := (above_iff.1 h).1; omega)
theorem above_anti {f g : Bool} {n m : Nm.Name} (h : above f n m = true) : above g m n = false := by
  by_cases h2 : above g m n = true
  · have h3 := (above_iff.1 h).1
    have h4 := (above_iff.1 h2).1
    omega
  · simpa using h2
theorem above_trans {f : Bool} {n m o : Nm.Name} (h : above f n m = true) (k : above f m o = true) : above f n o = true := by
  obtain ⟨h1, h2⟩ := above_iff.1 h
  obtain ⟨k1, k2⟩ := above_iff.1 k
  refine above_iff.2 ⟨by omega, namesEq_trans h2 ?_⟩
  have := namesEq_drop (m.length - n.length) k2
  rw [List.drop_drop] at this
  rw [show o.length - n.length = o.length - m.length + (m.length - n.length) by omega]
  exact this
theorem eq_above {f : Bool} {n m o : Nm.Name} (h : namesEq f n m = true) (k : above f m o = true) : above f n o = true := by
  obtain ⟨k1, k2⟩ := above_iff.1 k
  have hl := namesEq_len h
  exact above_iff.2 ⟨by omega, by rw [hl]; exact namesEq_trans h k2⟩
theorem above_eq {f : Bool} {n m o : Nm.Name} (h : above f n m = true) (k : namesEq f m o = true) : above f n o = true := by
  obtain ⟨h1, h2⟩ := above_iff.1 h
  have hl := namesEq_len k
  refine above_iff.2 ⟨by omega, namesEq_trans h2 ?_⟩
  rw [← hl]
  exact namesEq_drop _ k
theorem eq_comm (f : Bool) (n m : Nm.Name) : namesEq f n m = namesEq f m n := by
  by_cases h : namesEq f n m = true
  · rw [h, namesEq_symm h]
  · by_cases k : namesEq f m n = true
    · exact absurd (namesEq_symm k) h
    · simp at h k; rw [h, k]

/-- What is asked of one pair. -/
theorem pair_ok (n m : Nm.Name) : (namesEq false n m && !namesEq true n m) = false ∧ (above false n m && !above true n m) = false ∧ (namesEq true n m && above true n m) = false := by
  refine ⟨?_, ?_, ?_⟩
  · by_cases h : namesEq false n m = true
    · rw [h, namesEq_fold h]; rfl
    · simp at h; rw [h]; rfl
  · by_cases h : above false n m = true
    · rw [h, above_fold h]; rfl
    · simp at h; rw [h]; rfl
  · by_cases h : above true n m = true
    · rw [h, above_ne (g := true) h]; rfl
    · simp at h; rw [h, Bool.and_false]
theorem pair_back (n m : Nm.Name) : (above true n m && above true m n) = false := by
  by_cases h : above true n m = true
  · rw [h, above_anti (g := true) h]; rfl
  · simp at h; rw [h]; rfl
theorem and3 {a b c : Bool} (h : a = true → b = true → c = true) : (a && b && !c) = false := by cases a <;> cases b <;> cases c <;> simp_all
/-- What is asked of three. -/
theorem triple_ok (n m o : Nm.Name) : (namesEq false n m && namesEq false m o && !namesEq false n o) = false ∧ (namesEq true n m && namesEq true m o && !namesEq true n o) = false ∧ (above false n m && above false m o && !above false n o) = false ∧
    (above true n m && above true m o && !above true n o) = false ∧ (namesEq false n m && above false m o && !above false n o) = false ∧ (above false n m && namesEq false m o && !above false n o) = false :=
  ⟨and3 namesEq_trans, and3 namesEq_trans, and3 above_trans, and3 above_trans, and3 eq_above, and3 above_eq⟩
end Go.Proofs.YtjmahgefijncaaaGreatFmt.NC

/- A region that asks no order, whose operations only read, walked as a quiet one. -/
namespace Go.Proofs.YtjmahgefijncaaaGreatFmt
open Go

theorem wpList_of_quiet {P : Program} {ops : Array Oper} {C : World → Prop} {Q : Exit → Act → World → Prop} : ∀ (l : List Oper) (a : Act) (w : World), C w → wpQuiet P ops C (fun a' => ∀ w', C w' → Q .normal a' w') l a → wpList P ops Q l a w
  | [], _, w, hw, h => h w hw
  | o :: rest, a, w, hw, h => by
    unfold wpQuiet at h
    unfold wpList
    split at h
    · rename_i hs
      rw [if_pos hs]
      exact Or.inl (Oper.wp_of_quiet hw (fun a w' hw' h' => wpList_of_quiet rest a w' hw' h') h)
    · rename_i hs
      rw [if_neg hs]
      exact wpList_of_quiet rest _ w hw h
theorem wpQuiet_append {P : Program} {ops : Array Oper} {C : World → Prop} {Q : Act → Prop} {l2 : List Oper} : ∀ (l1 : List Oper) {a : Act}, wpQuiet P ops C (fun a' => wpQuiet P ops C Q l2 a') l1 a → wpQuiet P ops C Q (l1.append l2) a
  | [], _, h => h
  | o :: rest, a, h => by
    unfold wpQuiet at h
    show wpQuiet P ops C Q (o :: rest.append l2) a
    unfold wpQuiet
    split at h
    · rename_i hs
      rw [if_pos hs]
      exact Oper.quiet_mono (fun a h' => wpQuiet_append rest h') h
    · rename_i hs
      rw [if_neg hs]
      exact wpQuiet_append rest h
theorem wp_region_still {P : Program} {id : Nat} {Q : Exit → Act → World → Prop} {a : Act} {w : World} {l : List Oper}
    (h : wpQuiet P l.toArray (fun w' => ∃ n, w' = w.drewN n) (fun a' => ∀ w', (∃ n, w' = w.drewN n) → Q .normal a' w') l a) : (Code.region id l.toArray false).wp P Q a w := by
  refine wp_region ?_
  have e : List.range l.toArray.size = List.range' 0 l.length := by rw [List.range_eq_range', List.size_toArray]
  rw [e, wpOps_eq_wpList l 0 (by simp)]
  exact wpList_of_quiet (C := fun w' => ∃ n, w' = w.drewN n) l a w ⟨0, rfl⟩ h
theorem app_cons {α : Type} (a : α) (l m : List α) : (a :: l).append m = a :: l.append m := rfl
theorem app_nil {α : Type} (m : List α) : ([] : List α).append m = m := rfl
theorem need_c {c : Bool} (h : (true && true && !c) = false) : c = true := by cases c <;> simp_all
end Go.Proofs.YtjmahgefijncaaaGreatFmt

