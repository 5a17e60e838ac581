/- spec.namePartIs: two attributes of plain names are alike. -/
import Derived.Test.YtjmahgefijncaaaGreatFmtNCmp
import Derived.Test.YtjmahgefijncaaaGreatFmtEnt0
import Derived.Deep.RegionWith
import Derived.Deep.LoopGhost
import Derived.Deep.QuietTactic
import Derived.BigQuiet
import Derived.Test.YtjmahgefijncaaaGreatFmtNRdn
import Derived.Test.YtjmahgefijncaaaGreatFmtNIs
set_option linter.unusedVariables false
set_option linter.unusedSimpArgs false
namespace Go.Proofs.YtjmahgefijncaaaGreatFmt
open Go Go.RowKit

/-- The two attributes in their boxes, whatever comes behind. -/
theorem part_boxes (w : World) (sa sb sc sd : ByteArray) : ∃ W, W = (w.alloc (.cells #[.string sa, .string sb] 78)).alloc (.cells #[.string sc, .string sd] 78) ∧ Below w.heap.size w W ∧ ∀ w2, Below W.heap.size W w2 →
    w2.cell? ⟨w.heap.size, 0, none⟩ = some (.string sa) ∧ w2.cell? ⟨w.heap.size, 1, none⟩ = some (.string sb) ∧ w2.cell? ⟨w.heap.size + 1, 0, none⟩ = some (.string sc) ∧ w2.cell? ⟨w.heap.size + 1, 1, none⟩ = some (.string sd) := by
  refine ⟨_, rfl, ((Below.refl _ w).alloc (Nat.le_refl _) _).alloc (by simp) _, fun w2 h => ?_⟩
  have hP : ((w.alloc (.cells #[.string sa, .string sb] 78 (0, 0))).alloc (.cells #[.string sc, .string sd] 78 (0, 0))).heap[w.heap.size]? = some (.cells #[.string sa, .string sb] 78 (0, 0)) := by
    rw [Below.heap_alloc _ _ _ (by simp)]; exact heap_alloc_new w _
  have hQ : ((w.alloc (.cells #[.string sa, .string sb] 78 (0, 0))).alloc (.cells #[.string sc, .string sd] 78 (0, 0))).heap[w.heap.size + 1]? = some (.cells #[.string sc, .string sd] 78 (0, 0)) := by
    have := heap_alloc_new (w.alloc (.cells #[.string sa, .string sb] 78 (0, 0))) (.cells #[.string sc, .string sd] 78 (0, 0)); simpa using this
  exact ⟨blockCell ((h.block _ (blockLt hP)).trans hP) 0, blockCell ((h.block _ (blockLt hP)).trans hP) 1, blockCell ((h.block _ (blockLt hQ)).trans hQ) 0, blockCell ((h.block _ (blockLt hQ)).trans hQ) 1⟩

set_option maxRecDepth 100000 in
set_option maxHeartbeats 16000000 in
theorem part_is0 (sa sb sc sd la lc : ByteArray) (fold : Bool) (w : World) (H1 : Hid (∀ w2, Calls Tryz.prog 71 #[.string sa] w2 fun e w' => e = .returned (.string la) ∧ Below w2.heap.size w2 w')) (H3 : Hid (∀ w2, Calls Tryz.prog 71 #[.string sc] w2 fun e w' => e = .returned (.string lc) ∧ Below w2.heap.size w2 w'))
    (e1 : (la.toList == lc.toList) = false) :
    Calls Tryz.prog 61 #[.agg #[.string sa, .string sb], .agg #[.string sc, .string sd], .bool fold] w fun e w' => e = .returned (.bool false) ∧ Below w.heap.size w w' := by
  obtain ⟨W, hW, hbW, hC⟩ := part_boxes w sa sb sc sd
  have HC := Lib.hid hC
  have HBW := Lib.hid hbW
  have hsW := hbW.size
  go_enter Tryz.func61, Tryz.ntmps61
  go_wp2_with fail
  rw [← hW]
  clear hW hbW hC
  have HB : Hid (Below W.heap.size W W.drew) := Lib.hid (Below.drew (Below.refl _ W))
  obtain ⟨c0, c1, c2, c3⟩ := HC.out W (Below.refl _ W)
  obtain ⟨d0, d1, d2, d3⟩ := HC.out W.drew HB.out
  go_region_with (first
    | (go_at_call_of 71 sa; refine (H1.out _).mono ?_; rintro e wn ⟨rfl, hbn⟩; replace HB := Lib.hid (HB.out.trans (hbn.mono HB.out.size)); clear hbn; obtain ⟨c0, c1, c2, c3⟩ := HC.out wn HB.out)
    | (go_at_call_of 71 sc; refine (H3.out _).mono ?_; rintro e wn ⟨rfl, hbn⟩; replace HB := Lib.hid (HB.out.trans (hbn.mono HB.out.size)); clear hbn; obtain ⟨c0, c1, c2, c3⟩ := HC.out wn HB.out))
  all_goals
    go_wp2_with fail
    go_ret
    exact ⟨rfl, HBW.out.trans (HB.out.mono hsW)⟩

set_option maxRecDepth 100000 in
set_option maxHeartbeats 16000000 in
theorem part_is1 (sa sb sc sd la lb lc ld : ByteArray) (r2 r3 fold : Bool) (w : World) (H1 : Hid (∀ w2, Calls Tryz.prog 71 #[.string sa] w2 fun e w' => e = .returned (.string la) ∧ Below w2.heap.size w2 w')) (H3 : Hid (∀ w2, Calls Tryz.prog 71 #[.string sc] w2 fun e w' => e = .returned (.string lc) ∧ Below w2.heap.size w2 w')) (H2 : Hid (∀ w2, Calls Tryz.prog 71 #[.string sb] w2 fun e w' => e = .returned (.string lb) ∧ Below w2.heap.size w2 w')) (H4 : Hid (∀ w2, Calls Tryz.prog 71 #[.string sd] w2 fun e w' => e = .returned (.string ld) ∧ Below w2.heap.size w2 w'))
    (e1 : (la.toList == lc.toList) = true) (e2 : (sb.toList == sd.toList) = r2) (e3 : (lb.toList == ld.toList) = r3) :
    Calls Tryz.prog 61 #[.agg #[.string sa, .string sb], .agg #[.string sc, .string sd], .bool fold] w fun e w' => e = .returned (.bool (r2 || (fold && r3))) ∧ Below w.heap.size w w' := by
  obtain ⟨W, hW, hbW, hC⟩ := part_boxes w sa sb sc sd
  have HC := Lib.hid hC
  have HBW := Lib.hid hbW
  have hsW := hbW.size
  go_enter Tryz.func61, Tryz.ntmps61
  go_upto_region 2 with (fail)
  rw [← hW]
  clear hW hbW hC
  go_cut [13] from 7 to 13 (fun t13 wx => t13 = .bool false ∧ Hid (Below W.heap.size W wx))
  case first =>
    have HB : Hid (Below W.heap.size W W.drew) := Lib.hid (Below.drew (Below.refl _ W))
    obtain ⟨c0, c1, c2, c3⟩ := HC.out W (Below.refl _ W)
    obtain ⟨d0, d1, d2, d3⟩ := HC.out W.drew HB.out
    go_wp2_with fail
    go_region_with (first
      | (go_at_call_of 71 sa; refine (H1.out _).mono ?_; rintro e wn ⟨rfl, hbn⟩; replace HB := Lib.hid (HB.out.trans (hbn.mono HB.out.size)); clear hbn; obtain ⟨c0, c1, c2, c3⟩ := HC.out wn HB.out)
      | (go_at_call_of 71 sc; refine (H3.out _).mono ?_; rintro e wn ⟨rfl, hbn⟩; replace HB := Lib.hid (HB.out.trans (hbn.mono HB.out.size)); clear hbn; obtain ⟨c0, c1, c2, c3⟩ := HC.out wn HB.out))
    all_goals
      go_wp2_with fail
      go_meet
      exact ⟨rfl, HB⟩
  case rest =>
    obtain ⟨rfl, HBX⟩ := hcut
    have hsx := HBX.out.size
    obtain ⟨c0, c1, c2, c3⟩ := HC.out wc HBX.out
    cases r2 with
    | true =>
      go_wp2_with fail
      go_quiet (fail)
      go_wp2_with fail
      go_ret
      exact ⟨rfl, HBW.out.trans ((HBX.out.trans ((drewN_below wc nq).mono hsx)).mono hsW)⟩
    | false =>
      cases fold with
      | false =>
        go_wp2_with fail
        go_quiet (fail)
        go_wp2_with fail
        go_ret
        exact ⟨rfl, HBW.out.trans ((HBX.out.trans ((drewN_below wc nq).mono hsx)).mono hsW)⟩
      | true =>
        have HB : Hid (Below W.heap.size W wc.drew) := Lib.hid HBX.out.drew
        obtain ⟨d0, d1, d2, d3⟩ := HC.out wc.drew HB.out
        go_wp2_with fail
        go_region_with (first
          | (go_at_call_of 71 sb; refine (H2.out _).mono ?_; rintro e wn ⟨rfl, hbn⟩; replace HB := Lib.hid (HB.out.trans (hbn.mono HB.out.size)); clear hbn; obtain ⟨c0, c1, c2, c3⟩ := HC.out wn HB.out)
          | (go_at_call_of 71 sd; refine (H4.out _).mono ?_; rintro e wn ⟨rfl, hbn⟩; replace HB := Lib.hid (HB.out.trans (hbn.mono HB.out.size)); clear hbn; obtain ⟨c0, c1, c2, c3⟩ := HC.out wn HB.out))
        all_goals
          go_wp2_with fail
          go_ret
          exact ⟨rfl, HBW.out.trans (HB.out.mono hsW)⟩

theorem part_is (p q : Nm.Part) (fold : Bool) (hp1 : p.1.length < 4000000000) (hp2 : p.2.length < 4000000000) (hq1 : q.1.length < 4000000000) (hq2 : q.2.length < 4000000000) (w : World) :
    Calls Tryz.prog 61 #[.agg #[.string (Nm.bs p.1), .string (Nm.bs p.2)], .agg #[.string (Nm.bs q.1), .string (Nm.bs q.2)], .bool fold] w fun e w' => e = .returned (.bool (decide (NC.key fold p = NC.key fold q))) ∧ Below w.heap.size w w' := by
  obtain ⟨a, b⟩ := p
  obtain ⟨c, d⟩ := q
  have H1 := Lib.hid (fun w2 => lower_any a hp1 w2)
  have H2 := Lib.hid (fun w2 => lower_any b hp2 w2)
  have H3 := Lib.hid (fun w2 => lower_any c hq1 w2)
  have H4 := Lib.hid (fun w2 => lower_any d hq2 w2)
  by_cases h1 : low a = low c
  · have hkey : decide (NC.key fold (a, b) = NC.key fold (c, d)) = (((Nm.bs b).toList == (Nm.bs d).toList) || (fold && ((Nm.bs (low b)).toList == (Nm.bs (low d)).toList))) := by
      simp only [bs_toList]
      rw [Bool.eq_iff_iff]
      cases fold
      · simp [NC.key, h1]
      · simp only [NC.key, if_true, Prod.mk.injEq, decide_eq_true_eq, Bool.or_eq_true, beq_iff_eq, Bool.true_and, h1, true_and]
        exact ⟨Or.inr, fun h => h.elim (fun e => by rw [e]) id⟩
    rw [hkey]
    exact part_is1 _ _ _ _ _ _ _ _ _ _ fold w H1 H3 H2 H4 (by rw [bs_toList, bs_toList, h1]; simp) rfl rfl
  · have hkey : decide (NC.key fold (a, b) = NC.key fold (c, d)) = false := by
      rw [decide_eq_false_iff_not]; intro h; exact h1 (congrArg Prod.fst h)
    rw [hkey]
    exact part_is0 _ _ _ _ _ _ fold w H1 H3 (by rw [bs_toList, bs_toList]; simpa using h1)
end Go.Proofs.YtjmahgefijncaaaGreatFmt

/- spec.NameAlike. -/
namespace Go.Proofs.YtjmahgefijncaaaGreatFmt
open Go Go.RowKit

theorem rdnEq_hasAll (fold : Bool) (ps qs : List Nm.Part) (h : ps.length = qs.length) : NC.rdnEq fold ps qs = NC.hasAll (ps.map (NC.key fold)) (qs.map (NC.key fold)) := by
  rw [Bool.eq_iff_iff, NC.rdnEq_iff, NC.hasAll_perm _ _ (by simp [h])]
theorem heap_set_other {w : World} {g k : Nat} (h : k ≠ g) (j : Nat) (v : Value) : (w.setCell ⟨g, j, none⟩ v).heap[k]? = w.heap[k]? := Below.heap_setCell w ⟨g, j, none⟩ v k h

/-- The search for one of the second's parts: found, or not till k. -/
structure SeekInv (fold : Bool) (ps qs : List Nm.Part) (p : Nm.Part) (w : World) (P j k : Nat) (f : Bool) (fl : List Bool) (wr : World) : Prop where
  le : k ≤ qs.length
  len : fl.length = qs.length
  rest : NC.hasAll ((ps.drop (if f then j + 1 else j)).map (NC.key fold)) (live (qs.map (NC.key fold)) fl) = NC.hasAll (ps.map (NC.key fold)) (qs.map (NC.key fold))
  none' : f = false → ∀ (m : Nat) (k' : Nm.Part), m < k → (qs.map (NC.key fold))[m]? = some k' → fl[m]? = some false → k' ≠ NC.key fold p
  row : FRow wr w.heap.size fl
  box : wr.heap[P]? = some (.cells #[.string (Nm.bs p.1), .string (Nm.bs p.2)] 78 (0, 0))
  bel : Below w.heap.size w wr
theorem SeekInv.stays {fold : Bool} {ps qs : List Nm.Part} {p : Nm.Part} {w : World} {P j k : Nat} {f : Bool} {fl : List Bool} {wr w' : World} (h : SeekInv fold ps qs p w P j k f fl wr) (hb : Below wr.heap.size wr w') : SeekInv fold ps qs p w P j k f fl w' :=
  ⟨h.le, h.len, h.rest, h.none', h.row.stays (hb.block _ (World.rowIs.lt h.row)), (hb.block _ (blockLt h.box)).trans h.box, h.bel.trans (hb.mono h.bel.size)⟩
theorem SeekInv.next {fold : Bool} {ps qs : List Nm.Part} {p : Nm.Part} {w : World} {P j k : Nat} {f : Bool} {fl : List Bool} {wr : World} (h : SeekInv fold ps qs p w P j k f fl wr) (hk : k < qs.length) (hne : f = false → fl[k]? = some true ∨ ∀ q, qs[k]? = some q → NC.key fold p ≠ NC.key fold q) : SeekInv fold ps qs p w P j (k + 1) f fl wr :=
  ⟨hk, h.len, h.rest, fun hf m k' hm h1 h2 => by
    by_cases e : m = k
    · subst e
      rcases hne hf with h3 | h3
      · rw [h3] at h2; cases h2
      · rw [List.getElem?_map] at h1
        cases hq : qs[m]? with
        | none => rw [hq] at h1; cases h1
        | some q => rw [hq] at h1; rw [← Option.some.inj h1]; exact fun e => h3 q hq e.symm
    · exact h.none' hf m k' (by omega) h1 h2, h.row, h.box, h.bel⟩
theorem SeekInv.hit {fold : Bool} {ps qs : List Nm.Part} {p q : Nm.Part} {w : World} {P j k : Nat} {fl : List Bool} {wr : World} (h : SeekInv fold ps qs p w P j k false fl wr) (hq : qs[k]? = some q) (hf : fl[k]? = some false) (he : NC.key fold p = NC.key fold q) (hp : ps.drop j = p :: ps.drop (j + 1)) (hP : P ≠ w.heap.size) :
    SeekInv fold ps qs p w P j (k + 1) true (fl.set k true) (wr.setCell ⟨w.heap.size, k, none⟩ (.bool true)) := by
  have hk : k < qs.length := (List.getElem?_eq_some_iff.1 hq).1
  obtain ⟨e1, e2⟩ := live_found (ks := qs.map (NC.key fold)) (fl := fl) (j := k) (k := NC.key fold p) (by rw [List.getElem?_map, hq, he]; rfl) hf (fun m k' hm h1 h2 => h.none' rfl m k' hm h1 h2)
  refine ⟨hk, by rw [List.length_set]; exact h.len, ?_, fun e => (by cases e), h.row.set k (by rw [h.len]; exact hk) true, (heap_set_other hP _ _).trans h.box, h.bel.setCell (p := ⟨w.heap.size, k, none⟩) (Nat.le_refl _) _⟩
  have hr := h.rest
  simp only [Bool.false_eq_true, if_false] at hr
  rw [← hr, hp, List.map_cons, NC.hasAll, if_pos e1, e2]
  rfl
theorem SeekInv.miss {fold : Bool} {ps qs : List Nm.Part} {p : Nm.Part} {w : World} {P j : Nat} {fl : List Bool} {wr : World} (h : SeekInv fold ps qs p w P j qs.length false fl wr) (hp : ps.drop j = p :: ps.drop (j + 1)) : NC.hasAll (ps.map (NC.key fold)) (qs.map (NC.key fold)) = false := by
  have hr := h.rest
  simp only [Bool.false_eq_true, if_false] at hr
  rw [← hr, hp, List.map_cons, NC.hasAll, if_neg]
  refine live_none fun m k' h1 h2 => h.none' rfl m k' ?_ h1 h2
  have := (List.getElem?_eq_some_iff.1 h1).1
  rw [List.length_map] at this
  exact this
theorem SeekInv.start {fold : Bool} {ps qs : List Nm.Part} {p : Nm.Part} {w : World} {j : Nat} {fl : List Bool} {wr : World} (h : HasInv fold qs ps w j fl wr) : SeekInv fold ps qs p w wr.heap.size j 0 false fl (wr.alloc (.cells #[.string (Nm.bs p.1), .string (Nm.bs p.2)] 78 (0, 0))) :=
  ⟨Nat.zero_le _, h.len, by simpa using h.rest, fun _ m k' hm => absurd hm (Nat.not_lt_zero m), h.row.stays (Below.heap_alloc _ _ _ (World.rowIs.lt h.row)), heap_alloc_new _ _, h.bel.alloc h.bel.size _⟩

set_option maxRecDepth 100000 in
set_option maxHeartbeats 16000000 in
theorem name_alike (va vb : Value) (n m : Nm.Name) (fold : Bool) (w : World) (hA : NameIn w va n) (hB : NameIn w vb m) (fn : NameFits n) (fm : NameFits m) :
    Calls Tryz.prog 34 #[va, vb, .bool fold] w fun e w' => e = .returned (.bool (NC.namesEq fold n m)) ∧ Below w.heap.size w w' := by
  obtain ⟨oa, ca, rfl, hrA⟩ := hA
  obtain ⟨ob, cb, rfl, hrB⟩ := hB
  have HA := Lib.hid hrA
  have HB := Lib.hid hrB
  have FN := Lib.hid fn
  have FM := Lib.hid fm
  have hnl := fn.1
  obtain ⟨i0, hi, hz0, hz1, hz2⟩ := info_bool
  clear hrA hrB fn fm
  by_cases hlen : n.length = m.length
  · have t0 : ((n.length : Int) != (m.length : Int)) = false := by simp [hlen]
    have HLN := Lib.hid hlen
    clear hlen
    go_enter Tryz.func34, Tryz.ntmps34
    go_wp2_with fail
    go_loopw [21] (fun t21 wr => ∃ (i : Nat), t21 = .int .i64 i ∧ i ≤ n.length ∧ Hid (Below w.heap.size w wr ∧ ∀ (k : Nat) (a b : List Nm.Part), k < i → n[k]? = some a → m[k]? = some b → NC.rdnEq fold a b = true)) (fun t21 _ => n.length - (intOf t21).toNat)
    case atStart => exact ⟨0, rfl, Nat.zero_le _, Lib.hid ⟨Below.refl _ _, fun k _ _ h => absurd h (Nat.not_lt_zero k)⟩⟩
    case round =>
      obtain ⟨i, rfl, hin, HL⟩ := hrel
      have hsz := HL.out.1.size
      by_cases hend : i = n.length
      · have t1 : decide ((i : Int) < (n.length : Int)) = false := by simp; omega
        have hres : NC.namesEq fold n m = true := NC.namesEq_all HLN.out fun k a b h1 h2 => HL.out.2 k a b (by have := (List.getElem?_eq_some_iff.1 h1).1; omega) h1 h2
        have HRS := Lib.hid hres
        clear hres
        go_wp2_with fail
        go_ret
        exact ⟨by rw [HRS.out]; rfl, HL.out.1⟩
      · have hlt : i < n.length := by omega
        have t1 : decide ((i : Int) < (n.length : Int)) = true := by simp; omega
        obtain ⟨ps, hp⟩ : ∃ ps, n[i]? = some ps := ⟨_, List.getElem?_eq_getElem hlt⟩
        obtain ⟨qs, hq⟩ : ∃ qs, m[i]? = some qs := ⟨_, List.getElem?_eq_getElem (by have := HLN.out; omega)⟩
        obtain ⟨ga, offa, ua, rfl, cra, hpa⟩ := HA.out i ps hp
        obtain ⟨gb, offb, ub, rfl, crb, hpb⟩ := HB.out i qs hq
        obtain ⟨oua, cua, rfl, hpca⟩ := hpa
        obtain ⟨oub, cub, rfl, hpcb⟩ := hpb
        have fps := FN.out.2 ps (List.mem_of_getElem? hp)
        have fqs := FM.out.2 qs (List.mem_of_getElem? hq)
        have KAB := Lib.hid (fun (w2 : World) (h : Below w.heap.size w w2) => And.intro ((h.cell (World.block_lt_of_cell? w ⟨ga, offa + i, none⟩ cra)).trans cra) ((h.cell (World.block_lt_of_cell? w ⟨gb, offb + i, none⟩ crb)).trans crb))
        have HPA := Lib.hid (fun (w2 : World) (h : Below w.heap.size w w2) (j : Nat) (p : Nm.Part) (hj : ps[j]? = some p) => show ∃ b off, oua = some ⟨b, off, none⟩ ∧ w2.cell? ⟨b, off + j * 2, none⟩ = some (.string (Nm.bs p.1)) ∧ w2.cell? ⟨b, off + j * 2 + 1, none⟩ = some (.string (Nm.bs p.2)) from by
          obtain ⟨b, off, e, c1, c2⟩ := hpca j p hj
          exact ⟨b, off, e, (h.cell (World.block_lt_of_cell? w ⟨b, off + j * 2, none⟩ c1)).trans c1, (h.cell (World.block_lt_of_cell? w ⟨b, off + j * 2 + 1, none⟩ c2)).trans c2⟩)
        have HPB := Lib.hid (fun (w2 : World) (h : Below w.heap.size w w2) (j : Nat) (p : Nm.Part) (hj : qs[j]? = some p) => show ∃ b off, oub = some ⟨b, off, none⟩ ∧ w2.cell? ⟨b, off + j * 2, none⟩ = some (.string (Nm.bs p.1)) ∧ w2.cell? ⟨b, off + j * 2 + 1, none⟩ = some (.string (Nm.bs p.2)) from by
          obtain ⟨b, off, e, c1, c2⟩ := hpcb j p hj
          exact ⟨b, off, e, (h.cell (World.block_lt_of_cell? w ⟨b, off + j * 2, none⟩ c1)).trans c1, (h.cell (World.block_lt_of_cell? w ⟨b, off + j * 2 + 1, none⟩ c2)).trans c2⟩)
        have x0 : (0 : Int) ≤ (i : Int) := by omega
        have x1 : (i : Int) < (n.length : Int) := by omega
        have x2 : (i : Int) < (m.length : Int) := by have := HLN.out; omega
        obtain ⟨ka, kb⟩ := KAB.out wr HL.out.1
        have HNX := Lib.hid (fun (hh : NC.rdnEq fold ps qs = true) (k : Nat) (a b : List Nm.Part) (hk : k < i + 1) (h1 : n[k]? = some a) (h2 : m[k]? = some b) => show NC.rdnEq fold a b = true from by
          by_cases e : k = i
          · subst e
            rw [hp] at h1; rw [hq] at h2
            rw [← Option.some.inj h1, ← Option.some.inj h2]; exact hh
          · exact HL.out.2 k a b (by omega) h1 h2)
        have HNE := Lib.hid (fun (hh : NC.rdnEq fold ps qs = false) => NC.namesEq_ne hp hq hh)
        clear cra crb hpca hpcb hp hq hend
        by_cases hl2 : ps.length = qs.length
        · have t2 : ((ps.length : Int) != (qs.length : Int)) = false := by simp [hl2]
          have hrd := rdnEq_hasAll fold ps qs hl2
          have HRD := Lib.hid hrd
          have FPS := Lib.hid fps.2
          have FQS := Lib.hid fqs.2
          have hql := fqs.1
          have hpl := fps.1
          clear hrd fps fqs hl2
          go_wp2_with fail
          go_quiet (fail)
          have hb1 : Below w.heap.size w (wr.drewN nq) := ⟨HL.out.1.os, HL.out.1.tape, HL.out.1.output, HL.out.1.size, HL.out.1.block⟩
          have HB1 := Lib.hid hb1
          have hs1 := hb1.size
          clear hb1 ka kb
          generalize wr.drewN nq = w1 at *
          obtain ⟨ka, kb⟩ := KAB.out w1 HB1.out
          have hrow := FRow.made w1 qs.length
          have hbel : Below w1.heap.size w1 (w1.alloc (.cells (madeCells #[.bool false] qs.length) 4 (0, 0))) := (Below.refl _ w1).alloc (Nat.le_refl _) _
          have H0 : Hid (HasInv fold qs ps w1 0 (List.replicate qs.length false) (w1.alloc (.cells (madeCells #[.bool false] qs.length) 4 (0, 0)))) := Lib.hid ⟨Nat.zero_le _, by simp, by
            rw [List.drop_zero]
            have := live_start (qs.map (NC.key fold))
            rw [List.length_map] at this
            rw [this], hrow, hbel⟩
          obtain ⟨ka2, kb2⟩ := KAB.out _ (HB1.out.trans (hbel.mono hs1))
          go_wp2_with (refine wpList_make_row _ rfl _ _ 108 rfl 4 i0 (.bool false) Tryz.underlying108 hi hz0 hz1 rfl .i64 .i64 qs.length rfl rfl ?b1 ?b2 ?_)
          case b1 => rw [hz2]; omega
          case b2 => omega
          clear hrow hbel ka kb
          generalize w1.alloc (.cells (madeCells #[.bool false] qs.length) 4 (0, 0)) = W at *
          go_wp2_with fail
          clear ka2 kb2
          go_loopw [46] (fun t46 wr => ∃ (j : Nat) (fl : List Bool), t46 = .int .i64 j ∧ Hid (HasInv fold qs ps w1 j fl wr)) (fun t46 _ => ps.length - (intOf t46).toNat)
          case atStart => exact ⟨0, _, rfl, H0⟩
          case round =>
            clear H0 t1 t2
            obtain ⟨j, fl, rfl, HJ⟩ := hrel
            have hle := HJ.out.le
            have hbz := HJ.out.bel.size
            by_cases hje : j = ps.length
            · have t3 : decide ((j : Int) < (ps.length : Int)) = false := by simp; omega
              have hres : NC.rdnEq fold ps qs = true := by
                rw [HRD.out, ← HJ.out.rest, hje, List.drop_length]; rfl
              have HN := Lib.hid (And.intro (HB1.out.trans (HJ.out.bel.mono hs1)) (HNX.out hres))
              clear hres
              go_wp2_with fail
              exact ⟨⟨i + 1, by go_num, by omega, HN⟩, by simp [intOf]; omega⟩
            · have hjl : j < ps.length := by omega
              have t3 : decide ((j : Int) < (ps.length : Int)) = true := by simp; omega
              obtain ⟨p, hp⟩ : ∃ p, ps[j]? = some p := ⟨_, List.getElem?_eq_getElem hjl⟩
              have hdrop : ps.drop j = p :: ps.drop (j + 1) := by
                rw [List.drop_eq_getElem_cons hjl]
                rw [List.getElem?_eq_getElem hjl] at hp
                rw [Option.some.inj hp]
              have HD := Lib.hid hdrop
              have hbw := HB1.out.trans (HJ.out.bel.mono hs1)
              obtain ⟨gp, op, rfl, ca1, ca2⟩ := HPA.out wr hbw j p hp
              have FP := Lib.hid (FPS.out p (List.mem_of_getElem? hp))
              have hS := SeekInv.start (p := p) HJ.out
              have hba := hbw.alloc (by omega) (.cells #[.string (Nm.bs p.1), .string (Nm.bs p.2)] 78 (0, 0))
              obtain ⟨ka, kb⟩ := KAB.out _ hba
              have HS := Lib.hid hS
              have HPN : Hid (wr.heap.size ≠ w1.heap.size) := Lib.hid (by have := World.rowIs.lt HJ.out.row; omega)
              have y0 : (0 : Int) ≤ (j : Int) := by omega
              have y1 : (j : Int) < (ps.length : Int) := by omega
              clear hdrop hbw hp hS hba
              go_wp2_with fail
              clear ca1 ca2 ka kb
              obtain ⟨wo, rfl⟩ : ∃ wo, wo = wr := ⟨_, rfl⟩
              generalize hPdef : wo.heap.size = P at *
              go_loopw [11, 55] (fun t11 t55 wr => ∃ (f : Bool) (k : Nat) (fl : List Bool), t11 = .bool f ∧ t55 = .int .i64 k ∧ Hid (SeekInv fold ps qs p w1 P j k f fl wr)) (fun _ t55 _ => qs.length - (intOf t55).toNat)
              case atStart => exact ⟨false, 0, _, rfl, rfl, HS⟩
              case round =>
                clear HS t3
                obtain ⟨f, k, fl, rfl, rfl, HK⟩ := hrel
                have hkle := HK.out.le
                have hkz := HK.out.bel.size
                by_cases hke : k = qs.length
                · have t4 : decide ((k : Int) < (qs.length : Int)) = false := by simp; omega
                  cases f with
                  | true =>
                    have hN : HasInv fold qs ps w1 (j + 1) fl wr := ⟨hjl, HK.out.len, by simpa using HK.out.rest, HK.out.row, HK.out.bel⟩
                    have HN := Lib.hid hN
                    clear hN
                    go_wp2_with fail
                    exact ⟨⟨j + 1, _, by go_num, HN⟩, by simp [intOf]; omega⟩
                  | false =>
                    have hres : NC.namesEq fold n m = false := HNE.out (by rw [HRD.out]; subst hke; exact HK.out.miss HD.out)
                    have HRS := Lib.hid (And.intro hres (HB1.out.trans (HK.out.bel.mono hs1)))
                    clear hres
                    go_wp2_with fail
                    go_ret
                    exact ⟨by rw [HRS.out.1]; rfl, HRS.out.2⟩
                · have hkl : k < qs.length := by omega
                  have t4 : decide ((k : Int) < (qs.length : Int)) = true := by simp; omega
                  obtain ⟨q, hq⟩ : ∃ q, qs[k]? = some q := ⟨_, List.getElem?_eq_getElem hkl⟩
                  have hbw := HB1.out.trans (HK.out.bel.mono hs1)
                  obtain ⟨gq, oq, rfl, cq1, cq2⟩ := HPB.out wr hbw k q hq
                  have z0 : (0 : Int) ≤ (k : Int) := by omega
                  have z1 : (k : Int) < (qs.length : Int) := by omega
                  have FQ := Lib.hid (FQS.out q (List.mem_of_getElem? hq))
                  have hbox : Below wr.heap.size wr (wr.alloc (.cells #[.string (Nm.bs q.1), .string (Nm.bs q.2)] 78 (0, 0))) := (Below.refl _ wr).alloc (Nat.le_refl _) _
                  have HK2 := Lib.hid (HK.out.stays hbox)
                  have cp1 := blockCell HK2.out.box 0
                  have cp2 := blockCell HK2.out.box 1
                  have hfl := HK.out.len
                  have hbn := heap_alloc_new wr (.cells #[.string (Nm.bs q.1), .string (Nm.bs q.2)] 78 (0, 0))
                  have cn1 := blockCell hbn 0
                  have cn2 := blockCell hbn 1
                  have hwz : w1.heap.size < wr.heap.size := World.rowIs.lt HK.out.row
                  obtain ⟨b, hb⟩ : ∃ b, fl[k]? = some b := ⟨_, List.getElem?_eq_getElem (by omega)⟩
                  have cu := HK2.out.row.cell hb
                  cases f with
                  | true =>
                    have HN := Lib.hid (HK2.out.next hkl (fun h => by cases h))
                    clear hbw hbox hbn hq hb cu
                    go_wp2_with fail
                    exact ⟨⟨true, k + 1, _, rfl, by go_num, HN⟩, by simp [intOf]; omega⟩
                  | false =>
                    cases b with
                    | true =>
                      have HN := Lib.hid (HK2.out.next hkl (fun _ => Or.inl hb))
                      clear hbw hbox hbn hq hb
                      go_wp2_with fail
                      exact ⟨⟨false, k + 1, _, rfl, by go_num, HN⟩, by simp [intOf]; omega⟩
                    | false =>
                      have HC := Lib.hid (part_is p q fold (by have := FP.out.1; omega) (by have := FP.out.2; omega) (by have := FQ.out.1; omega) (by have := FQ.out.2; omega))
                      have HQ := Lib.hid hq
                      have HBB := Lib.hid hb
                      clear hbw hbox hbn hq hb
                      by_cases hkey : NC.key fold p = NC.key fold q
                      · rw [decide_eq_true hkey] at HC
                        have HKE := Lib.hid hkey
                        clear hkey
                        go_wp2_with fail
                        refine (HC.out _).mono ?_
                        rintro e w3 ⟨rfl, hb3⟩
                        have hK3 := HK2.out.stays hb3
                        have HN := Lib.hid (hK3.hit HQ.out HBB.out HKE.out HD.out HPN.out)
                        have cu3 := hK3.row.cell HBB.out
                        have kf3 : w3.frozen? ⟨w1.heap.size, k, none⟩ = false := World.rowIs.frozen hK3.row k
                        clear hK3 hb3 HC
                        go_wp2_with fail
                        exact ⟨⟨true, k + 1, _, rfl, by go_num, HN⟩, by simp [intOf]; omega⟩
                      · rw [decide_eq_false hkey] at HC
                        have HN2 := Lib.hid (HK2.out.next hkl (fun _ => Or.inr fun q' hq' => by rw [HQ.out] at hq'; rw [← Option.some.inj hq']; exact hkey))
                        clear hkey
                        go_wp2_with fail
                        refine (HC.out _).mono ?_
                        rintro e w3 ⟨rfl, hb3⟩
                        have HN := Lib.hid (HN2.out.stays hb3)
                        clear hb3 HC HN2
                        go_wp2_with fail
                        exact ⟨⟨false, k + 1, _, rfl, by go_num, HN⟩, by simp [intOf]; omega⟩
        · have t2 : ((ps.length : Int) != (qs.length : Int)) = true := by rw [bne_iff_ne]; omega
          have hres : NC.namesEq fold n m = false := HNE.out (by
            cases h : NC.rdnEq fold ps qs with
            | false => rfl
            | true => exact absurd (by simpa using ((NC.rdnEq_iff ..).1 h).length_eq) hl2)
          have HRS := Lib.hid hres
          clear hres
          go_wp2_with fail
          go_quiet (fail)
          have HB1 : Hid (Below w.heap.size w (wr.drewN nq)) := Lib.hid ⟨HL.out.1.os, HL.out.1.tape, HL.out.1.output, HL.out.1.size, HL.out.1.block⟩
          go_wp2_with fail
          go_ret
          exact ⟨by rw [HRS.out]; rfl, HB1.out⟩
  · have t0 : ((n.length : Int) != (m.length : Int)) = true := by rw [bne_iff_ne]; omega
    have HRS := Lib.hid (NC.namesEq_false (fold := fold) hlen)
    go_enter Tryz.func34, Tryz.ntmps34
    go_wp2_with fail
    go_ret
    exact ⟨by rw [HRS.out]; rfl, Below.refl _ _⟩

theorem nameIn_tail {w : World} {o : Option Addr} {c : Nat} {n : Nm.Name} {k : Nat} (h : NameIn w (.slice o n.length c) n) (hk : k ≤ n.length) : NameIn w (.slice (o.map (Addr.add · k)) (n.length - k) (c - k)) (n.drop k) := by
  obtain ⟨o', c', hv, h1⟩ := h
  injection hv with e1 _ e3
  subst e1 e3
  refine ⟨_, _, by rw [List.length_drop], fun j ps hj => ?_⟩
  rw [List.getElem?_drop] at hj
  obtain ⟨b, off, u, e, cr, hp⟩ := h1 _ _ hj
  subst e
  exact ⟨b, off + k, u, by simp [Lib.addr_add], by rw [Nat.add_assoc]; exact cr, hp⟩

end Go.Proofs.YtjmahgefijncaaaGreatFmt

/- spec.NameAbove; nameASCII and zzFits17 end. -/
namespace Go.Proofs.YtjmahgefijncaaaGreatFmt
open Go Go.RowKit

set_option maxRecDepth 100000 in
set_option maxHeartbeats 8000000 in
theorem name_above (oa ob : Option Addr) (ca cb : Nat) (n m : Nm.Name) (fold : Bool) (w : World) (hA : NameIn w (.slice oa n.length ca) n) (hB : NameIn w (.slice ob m.length cb) m) (hcap : m.length ≤ cb) (fn : NameFits n) (fm : NameFits m) :
    Calls Tryz.prog 35 #[.slice oa n.length ca, .slice ob m.length cb, .bool fold] w fun e w' => e = .returned (.bool (NC.above fold n m)) ∧ Below w.heap.size w w' := by
  have hn9 := fn.1
  have hm9 := fm.1
  by_cases hlen : n.length < m.length
  case neg =>
    have hr : NC.above fold n m = false := by unfold NC.above; rw [decide_eq_false hlen]; rfl
    rw [hr]
    clear hr hA hB fn fm
    go_enter Tryz.func35, Tryz.ntmps35
    go_wp2_with fail
    go_ret
    exact ⟨rfl, Below.refl _ _⟩
  have hr : NC.above fold n m = NC.namesEq fold n (m.drop (m.length - n.length)) := by unfold NC.above; rw [decide_eq_true hlen]; rfl
  have FM : NameFits (m.drop (m.length - n.length)) := ⟨by rw [List.length_drop]; omega, fun ps h => fm.2 ps (List.mem_of_mem_drop h)⟩
  have HM0 := nameIn_tail hB (show m.length - n.length ≤ m.length by omega)
  have s0 : n.length ≤ m.length := by omega
  rw [hr]
  by_cases hck : cb = m.length - n.length
  · have hn0 : n.length = 0 := by omega
    have hm0 : m.drop (m.length - n.length) = [] := List.length_eq_zero_iff.1 (by rw [List.length_drop]; omega)
    have HX := Lib.hid (fun (o : Option Addr) (c : Nat) => name_alike (.slice oa n.length ca) (.slice o (m.length - (m.length - n.length)) c) n (m.drop (m.length - n.length)) fold w hA ⟨_, _, by rw [List.length_drop], fun j ps hj => by rw [hm0] at hj; simp at hj⟩ fn FM)
    clear hr hA hB fn fm HM0 FM hm0 hn0
    go_enter Tryz.func35, Tryz.ntmps35
    go_wp2_with fail
    refine (HX.out _ _).mono ?_
    rintro e w2 ⟨rfl, hb2⟩
    have HB2 := Lib.hid hb2
    clear hb2
    go_wp2_with fail
    go_ret
    exact ⟨rfl, HB2.out⟩
  · have HX := Lib.hid (name_alike (.slice oa n.length ca) _ n (m.drop (m.length - n.length)) fold w hA HM0 fn FM)
    clear hr hA hB fn fm HM0 FM
    go_enter Tryz.func35, Tryz.ntmps35
    go_wp2_with fail
    refine HX.out.mono ?_
    rintro e w2 ⟨rfl, hb2⟩
    have HB2 := Lib.hid hb2
    clear hb2
    go_wp2_with fail
    go_ret
    exact ⟨rfl, HB2.out⟩

set_option maxRecDepth 100000 in
set_option maxHeartbeats 16000000 in
theorem ascii_any (v : Value) (n : Nm.Name) (w : World) (hA : NameIn w v n) (hf : NameFit n) :
    Calls Tryz.prog 33 #[v] w fun e w' => BoolRes True e ∧ Below w.heap.size w w' := by
  obtain ⟨oa, ca, rfl, hrA⟩ := hA
  have HA := Lib.hid hrA
  have HF := Lib.hid hf.2
  have hn := hf.1
  clear hrA hf
  go_enter Tryz.func33, Tryz.ntmps33
  go_wp2_with fail
  go_loopw [10] (fun t10 wr => ∃ (i : Nat), t10 = .int .i64 i ∧ i ≤ n.length ∧ Hid (Below w.heap.size w wr)) (fun t10 _ => n.length - (intOf t10).toNat)
  case atStart => exact ⟨0, rfl, Nat.zero_le _, Lib.hid (Below.refl _ _)⟩
  case round =>
    obtain ⟨i, rfl, hi, HL⟩ := hrel
    have hsz := HL.out.size
    by_cases hend : i = n.length
    · subst hend
      have t1 : decide ((n.length : Int) < (n.length : Int)) = false := by simp
      go_wp2_with fail
      go_ret
      exact ⟨⟨_, rfl, fun _ => trivial⟩, HL.out⟩
    · have hlt : i < n.length := by omega
      have t1 : decide ((i : Int) < (n.length : Int)) = true := by simp; omega
      obtain ⟨ps, hp⟩ : ∃ ps, n[i]? = some ps := ⟨_, List.getElem?_eq_getElem hlt⟩
      obtain ⟨ga, offa, u, rfl, cra, hpa⟩ := HA.out i ps hp
      have ka : wr.cell? ⟨ga, offa + i, none⟩ = some u := (HL.out.cell (World.block_lt_of_cell? w ⟨ga, offa + i, none⟩ cra)).trans cra
      have hpl := HF.out ps (List.mem_of_getElem? hp)
      obtain ⟨ou, cu, rfl, hpc⟩ := hpa
      have HPC := Lib.hid hpc
      have HPF := Lib.hid hpl.2
      have hpl1 := hpl.1
      clear cra hp hend hpc hpl
      go_wp2_with fail
      obtain ⟨wo, rfl⟩ : ∃ wo, wo = wr := ⟨_, rfl⟩
      clear ka
      go_loopw [16] (fun t16 wr => ∃ (j : Nat), t16 = .int .i64 j ∧ j ≤ ps.length ∧ Hid (Below w.heap.size w wr)) (fun t16 _ => ps.length - (intOf t16).toNat)
      case atStart => exact ⟨0, rfl, Nat.zero_le _, HL⟩
      case round =>
        clear t1 HL hsz
        obtain ⟨j, rfl, hj, HJ⟩ := hrel
        have hsj := HJ.out.size
        by_cases hje : j = ps.length
        · subst hje
          have t2 : decide ((ps.length : Int) < (ps.length : Int)) = false := by simp
          go_wp2_with fail
          exact ⟨⟨i + 1, by go_num, by omega, HJ⟩, by simp [intOf]; omega⟩
        · have hjl : j < ps.length := by omega
          have t2 : decide ((j : Int) < (ps.length : Int)) = true := by simp; omega
          obtain ⟨p, hp⟩ : ∃ p, ps[j]? = some p := ⟨_, List.getElem?_eq_getElem hjl⟩
          obtain ⟨gv, offv, rfl, ca, cb⟩ := HPC.out j p hp
          have k1 : wr.cell? ⟨gv, offv + j * 2, none⟩ = some (.string (Nm.bs p.1)) := (HJ.out.cell (World.block_lt_of_cell? w ⟨gv, offv + j * 2, none⟩ ca)).trans ca
          have k2 : wr.cell? ⟨gv, offv + j * 2 + 1, none⟩ = some (.string (Nm.bs p.2)) := (HJ.out.cell (World.block_lt_of_cell? w ⟨gv, offv + j * 2 + 1, none⟩ cb)).trans cb
          have hpf := (HPF.out p (List.mem_of_getElem? hp)).2
          obtain ⟨x1, x2⟩ := p
          have hs2 := bs_size x2
          have hnew := heap_alloc_new wr (.cells #[.string (Nm.bs x1), .string (Nm.bs x2)] 78 (0, 0))
          have hbn := HJ.out.alloc hsj (.cells #[.string (Nm.bs x1), .string (Nm.bs x2)] 78 (0, 0))
          have HBN := Lib.hid hbn
          have HNW := Lib.hid hnew
          have c1 := blockCell hnew 1
          clear ca cb hp hnew hbn
          go_wp2_with fail
          clear k1 k2
          generalize hP : wr.heap.size = P at *
          generalize wr.alloc (.cells #[.string (Nm.bs x1), .string (Nm.bs x2)] 78 (0, 0)) = wb at *
          go_loopw [23] (fun t23 wr => ∃ (k : Nat), t23 = .int .i64 k ∧ k ≤ x2.length ∧ ∃ m, wr = wb.drewN m) (fun t23 _ => x2.length - (intOf t23).toNat)
          case atStart => exact ⟨0, rfl, Nat.zero_le _, 0, rfl⟩
          case round =>
            clear t2
            obtain ⟨k, rfl, hk, m, rfl⟩ := hrel
            have hbm : Hid (Below w.heap.size w (wb.drewN m)) := Lib.hid ⟨HBN.out.os, HBN.out.tape, HBN.out.output, HBN.out.size, HBN.out.block⟩
            by_cases hke : k = x2.length
            · have t3 : decide ((k : Int) < (x2.length : Int)) = false := by simp; omega
              go_wp2_with fail
              exact ⟨⟨j + 1, by go_num, by omega, hbm⟩, by simp [intOf]; omega⟩
            · have hkl : k < x2.length := by omega
              have hlt2 : k < (Nm.bs x2).size := by rw [hs2]; exact hkl
              have t3 : decide ((k : Int) < (x2.length : Int)) = true := by simp; omega
              have d1 : (wb.drewN m).cell? ⟨P, 1, none⟩ = some (.string (Nm.bs x2)) := c1
              obtain ⟨b, hb⟩ : ∃ b : Nat, ((Nm.bs x2)[k]'hlt2).toNat = b := ⟨_, rfl⟩
              by_cases hge : 128 ≤ b
              · go_wp2_with fail
                go_ret
                exact ⟨⟨_, rfl, fun _ => trivial⟩, hbm.out⟩
              · go_wp2_with fail
                exact ⟨⟨k + 1, by go_num, by omega, m, rfl⟩, by simp [intOf]; omega⟩

/-- Names in a slice. -/
def NamesIn (w : World) (v : Value) (es : List Nm.Name) : Prop :=
  ∃ o cap, v = .slice o es.length cap ∧ ∀ (j : Nat) (n : Nm.Name), es[j]? = some n → ∃ b off on cn, o = some ⟨b, off, none⟩ ∧ w.cell? ⟨b, off + j, none⟩ = some (.slice on n.length cn) ∧ n.length ≤ cn ∧ NameIn w (.slice on n.length cn) n
theorem NamesIn.stays {w w' : World} {v : Value} {es : List Nm.Name} (h : NamesIn w v es) (k : Below w.heap.size w w') : NamesIn w' v es := by
  obtain ⟨o, c, hv, h1⟩ := h
  refine ⟨o, c, hv, fun j n hj => ?_⟩
  obtain ⟨b, off, on, cn, e, c0, hc, hn⟩ := h1 j n hj
  exact ⟨b, off, on, cn, e, (k.cell (World.block_lt_of_cell? w ⟨b, off + j, none⟩ c0)).trans c0, hc, hn.stays k⟩

def NameLen (n : Nm.Name) : Prop := n.length ≤ 9223372036854775807 ∧ ∀ ps ∈ n, ps.length ≤ 9223372036854775807 ∧ ∀ p ∈ ps, p.1.length ≤ 9223372036854775807 ∧ p.2.length ≤ 9223372036854775807

set_option maxRecDepth 100000 in
set_option maxHeartbeats 8000000 in
theorem fits17_any (v : Value) (es : List Nm.Name) (w : World) (hA : NamesIn w v es) (hl : es.length ≤ 9223372036854775807) (hl2 : ∀ n ∈ es, NameLen n) :
    Calls Tryz.prog 32 #[v] w fun e w' => BoolRes (es.length ≤ 2147483647 ∧ ∀ n ∈ es, NameFit n) e ∧ Below w.heap.size w w' := by
  obtain ⟨oa, ca, rfl, hrA⟩ := hA
  have HA := Lib.hid hrA
  have HL2 := Lib.hid hl2
  clear hrA hl2
  by_cases hbig : es.length ≤ 2147483647
  · have t0 : decide ((es.length : Int) > 2147483647) = false := by simp; omega
    go_enter Tryz.func32, Tryz.ntmps32
    go_wp2_with fail
    go_loopw [10] (fun t10 wr => ∃ (i : Nat), t10 = .int .i64 i ∧ i ≤ es.length ∧ Hid (Below w.heap.size w wr ∧ ∀ n ∈ es.take i, NameFit n)) (fun t10 _ => es.length - (intOf t10).toNat)
    case atStart => exact ⟨0, rfl, Nat.zero_le _, Lib.hid ⟨Below.refl _ _, by simp⟩⟩
    case round =>
      obtain ⟨i, rfl, hi, HL⟩ := hrel
      have hsz := HL.out.1.size
      by_cases hend : i = es.length
      · subst hend
        have t1 : decide ((es.length : Int) < (es.length : Int)) = false := by simp
        go_wp2_with fail
        go_ret
        exact ⟨⟨_, rfl, fun _ => ⟨hbig, by have := HL.out.2; rw [List.take_length] at this; exact this⟩⟩, HL.out.1⟩
      · have hlt : i < es.length := by omega
        have t1 : decide ((i : Int) < (es.length : Int)) = true := by simp; omega
        obtain ⟨n, hp⟩ : ∃ n, es[i]? = some n := ⟨_, List.getElem?_eq_getElem hlt⟩
        obtain ⟨ga, offa, on, cn, rfl, cra, -, hna⟩ := HA.out i n hp
        have ka : wr.cell? ⟨ga, offa + i, none⟩ = some (.slice on n.length cn) := (HL.out.1.cell (World.block_lt_of_cell? w ⟨ga, offa + i, none⟩ cra)).trans cra
        have hpl := HL2.out n (List.mem_of_getElem? hp)
        have HC := Lib.hid (fits18_any _ n wr (hna.stays HL.out.1) hpl.1 hpl.2)
        have HTS := Lib.hid (take_snoc hp)
        clear cra hp hend hpl hna
        go_wp2_with fail
        refine HC.out.mono ?_
        rintro e w2 ⟨⟨r, rfl, hr⟩, hb2⟩
        have HB2 := Lib.hid (HL.out.1.trans (hb2.mono hsz))
        have HR := Lib.hid hr
        clear hb2 hr
        cases r with
        | true =>
          go_wp2_with fail
          exact ⟨⟨i + 1, by go_num, by omega, Lib.hid ⟨HB2.out, by
            rw [HTS.out]
            intro x hx
            rcases List.mem_append.1 hx with hx | hx
            · exact HL.out.2 x hx
            · simp only [List.mem_singleton] at hx; rw [hx]; exact HR.out trivial⟩⟩, by simp [intOf]; omega⟩
        | false =>
          go_wp2_with fail
          go_ret
          exact ⟨⟨_, rfl, fun h => by simp at h⟩, HB2.out⟩
  · have t0 : decide ((es.length : Int) > 2147483647) = true := by simp; omega
    go_enter Tryz.func32, Tryz.ntmps32
    go_wp2_with fail
    go_ret
    exact ⟨⟨_, rfl, fun h => by simp at h⟩, Below.refl _ _⟩
end Go.Proofs.YtjmahgefijncaaaGreatFmt

