/- AncestorOf, AncestorOfFold of names. -/
import Derived.Test.YtjmahgefijncaaaGreatFmtNDn
namespace Go.Proofs.YtjmahgefijncaaaGreatFmt
open Go Go.RowKit

theorem ptr_drop {w : World} {b off c k : Nat} {n : Nm.Name} (h : PtrRdns w (.slice (some ⟨b, off, none⟩) n.length c) n) (hk : k ≤ n.length) : PtrRdns w (.slice (some ⟨b, off + k, none⟩) (n.drop k).length (c - k)) (n.drop k) := by
  obtain ⟨o', c', hv, hc, h1⟩ := h
  injection hv with e1 e2 e3
  refine ⟨_, _, rfl, by rw [List.length_drop]; omega, fun j ps hj => ?_⟩
  rw [List.getElem?_drop] at hj
  obtain ⟨b', off', a, h2, h3, h4⟩ := h1 (k + j) ps hj
  rw [← e1] at h2
  injection h2 with h2
  injection h2 with h2 h5
  subst h2 h5
  exact ⟨_, _, a, rfl, by rw [show off + k + j = off + (k + j) by omega]; exact h3, h4⟩

set_option maxRecDepth 100000 in
set_option maxHeartbeats 4000000 in
theorem dn_above (a b : Nat) (n m : Nm.Name) (w : World) (hA : DnIn w a n) (hB : DnIn w b m) (fn : NameFits n) (fm : NameFits m) :
    Calls Tryz.prog 59 #[.pointer (some ⟨a, 0, none⟩), .pointer (some ⟨b, 0, none⟩)] w fun e w' => e = .returned (.bool (NC.above false n m)) ∧ Below w.heap.size w w' := by
  obtain ⟨oa, ca, cA, hpa, hal, -⟩ := hA.cell
  obtain ⟨ob, cb, cB, hpb, hbl, hcb⟩ := hB.cell
  by_cases hlen : n.length < m.length
  case neg =>
    have t0 : m.length ≤ n.length := by omega
    have hr : NC.above false n m = false := by unfold NC.above; rw [decide_eq_false hlen]; rfl
    rw [hr]
    clear hr hA hB hpa hpb fn fm hlen
    go_enter Tryz.func59, Tryz.ntmps59
    go_wp2_with fail
    go_quiet (fail)
    go_wp2_with fail
    go_ret
    exact ⟨rfl, drewN_below w nq⟩
  have t0 : ¬ m.length ≤ n.length := by omega
  have KA := Lib.hid (fun (w' : World) (hb : Below w.heap.size w w') => (hb.cell (p := ⟨a, 0, none⟩) hal).trans cA)
  have KB := Lib.hid (fun (w' : World) (hb : Below w.heap.size w w') => (hb.cell (p := ⟨b, 0, none⟩) hbl).trans cB)
  have HN := Lib.hid hpa
  have FN := Lib.hid fn.2
  have hn9 := fn.1
  have hm9 := fm.1
  obtain ⟨k, hk⟩ : ∃ k, k = m.length - n.length := ⟨_, rfl⟩
  have hkm : k ≤ m.length := by omega
  have s0 : (0 : Int) ≤ (m.length : Int) - (n.length : Int) := by omega
  have s1 : (m.length : Int) - (n.length : Int) ≤ (m.length : Int) := by omega
  have s2 : ((m.length : Int) - (n.length : Int)).toNat = k := by omega
  have s3 : m.length - k = n.length := by omega
  have hr : NC.above false n m = NC.namesEq false n (m.drop k) := by unfold NC.above; rw [decide_eq_true hlen, hk]; rfl
  have FM := Lib.hid (fun ps (h : ps ∈ m.drop k) => fm.2 ps (List.mem_of_mem_drop h))
  obtain ⟨bm, fom, rfl⟩ : ∃ bm fom, ob = some ⟨bm, fom, none⟩ := by
    obtain ⟨q, hq⟩ : ∃ q, m[0]? = some q := ⟨_, List.getElem?_eq_getElem (by omega)⟩
    obtain ⟨bb, fb, _, h, _⟩ := hpb.nth hq
    exact ⟨_, _, h⟩
  have HM0 := Lib.hid (ptr_drop hpb hkm)
  have hl2 : (m.drop k).length = n.length := by rw [List.length_drop]; omega
  rw [hr]
  rw [hl2] at HM0
  have HK := Lib.hid hk
  clear hA hB hpa hpb fn fm hr hk
  generalize m.drop k = m2 at *
  go_enter Tryz.func59, Tryz.ntmps59
  go_wp2_with fail
  go_quiet (fail)
  have hb0 := drewN_below w nq
  have c1 := KA.out _ hb0
  have c2 := KB.out _ hb0
  have HB0 := Lib.hid hb0
  clear cA cB hb0
  generalize w.drewN nq = w1 at *
  go_wp2_with fail
  by_cases hcap : cb = k
  · have hn0 : n.length = 0 := by have := HK.out; omega
    have HM : Hid (PtrRdns w (.slice (some ⟨bm, fom, none⟩) n.length (cb - k)) m2) := Lib.hid ⟨_, _, by rw [hl2], by omega, fun j ps hj => by
      rw [List.length_eq_zero_iff.1 (hl2.trans hn0)] at hj; simp at hj⟩
    clear HM0
    go_quiet (fail)
    have hb0 := HB0.out.trans ((drewN_below w1 nq).mono HB0.out.size)
    have c1 := KA.out _ hb0
    have c2 := KB.out _ hb0
    have HB0 := Lib.hid hb0
    clear hb0
    generalize w1.drewN nq = w2 at *
    go_wp2_with fail
    go_loopw [39] (fun t39 wr => ∃ (i : Nat), t39 = .int .i64 i ∧ Hid (EqInv false n m2 w i wr)) (fun t39 _ => n.length - (intOf t39).toNat)
    case atStart => exact ⟨0, rfl, Lib.hid ⟨Nat.zero_le _, rfl, HB0.out⟩⟩
    case round =>
      clear HB0 c1 c2
      obtain ⟨i, rfl, HI⟩ := hrel
      have hle := HI.out.le
      have hbz := HI.out.bel.size
      by_cases hend : i = n.length
      · have t1 : decide ((i : Int) < (n.length : Int)) = false := by simp; omega
        have hres : NC.namesEq false n m2 = true := by
          rw [← HI.out.rest, hend, List.drop_length, List.drop_of_length_le (by omega)]; rfl
        have HRS := Lib.hid hres
        clear hres
        go_wp2_with fail
        go_ret
        exact ⟨by rw [HRS.out]; rfl, HI.out.bel⟩
      · exact absurd (show i = n.length by omega) hend
  · have HM := HM0
    clear HM0
    go_quiet (fail)
    have hb0 := HB0.out.trans ((drewN_below w1 nq).mono HB0.out.size)
    have c1 := KA.out _ hb0
    have c2 := KB.out _ hb0
    have HB0 := Lib.hid hb0
    clear hb0
    generalize w1.drewN nq = w2 at *
    go_wp2_with fail
    go_loopw [39] (fun t39 wr => ∃ (i : Nat), t39 = .int .i64 i ∧ Hid (EqInv false n m2 w i wr)) (fun t39 _ => n.length - (intOf t39).toNat)
    case atStart => exact ⟨0, rfl, Lib.hid ⟨Nat.zero_le _, rfl, HB0.out⟩⟩
    case round =>
      clear HB0 c1 c2
      obtain ⟨i, rfl, HI⟩ := hrel
      have hle := HI.out.le
      have hbz := HI.out.bel.size
      by_cases hend : i = n.length
      · have t1 : decide ((i : Int) < (n.length : Int)) = false := by simp; omega
        have hres : NC.namesEq false n m2 = true := by
          rw [← HI.out.rest, hend, List.drop_length, List.drop_of_length_le (by omega)]; rfl
        have HRS := Lib.hid hres
        clear hres
        go_wp2_with fail
        go_ret
        exact ⟨by rw [HRS.out]; rfl, HI.out.bel⟩
      · have hlt : i < n.length := by omega
        have hltm : i < m2.length := by omega
        have t1 : decide ((i : Int) < (n.length : Int)) = true := by simp; omega
        obtain ⟨ps, hp⟩ : ∃ ps, n[i]? = some ps := ⟨_, List.getElem?_eq_getElem hlt⟩
        obtain ⟨qs, hq⟩ : ∃ qs, m2[i]? = some qs := ⟨_, List.getElem?_eq_getElem hltm⟩
        obtain ⟨ba, fa, aa, rfl, ca0, hra⟩ := HN.out.nth hp
        obtain ⟨bb, fb, ab, hbb, cb0, hrb⟩ := HM.out.nth hq
        injection hbb with hbb
        injection hbb with hbb1 hbb2
        subst hbb1 hbb2
        have k1 : wr.cell? ⟨ba, fa + i, none⟩ = some (.pointer (some ⟨aa, 0, none⟩)) := (HI.out.bel.cell (World.block_lt_of_cell? w ⟨ba, fa + i, none⟩ ca0)).trans ca0
        have k2 := (HI.out.bel.cell (World.block_lt_of_cell? w _ cb0)).trans cb0
        have k3 := KA.out _ HI.out.bel
        have k4 := KB.out _ HI.out.bel
        have i0 : (0 : Int) ≤ (i : Int) := by omega
        have i1 : (i : Int) < (n.length : Int) := by omega
        have i2 : (i : Int) < (m2.length : Int) := by omega
        have HC := Lib.hid (fun w' (hb : Below w.heap.size w w') => rdn_eq aa ab ps qs w' (hra.stays hb) (hrb.stays hb) (FN.out ps (List.mem_of_getElem? hp)) (FM.out qs (List.mem_of_getElem? hq)))
        have hrest := HI.out.rest
        rw [drop_at hp, drop_at hq, NC.namesEq] at hrest
        have HREST := Lib.hid hrest
        clear hrest ca0 cb0 hra hrb hp hq hend
        cases hr : NC.rdnEq false ps qs with
        | false =>
          rw [hr] at HC HREST
          clear hr
          go_wp2_with fail
          go_still_tail 11, (by kernel_rfl)
          go_wp2_with fail
          refine (HC.out _ (HI.out.bel.trans ((drewN_below wr 1).mono hbz))).mono ?_
          rintro e w2 ⟨rfl, hb2⟩
          have HE := Lib.hid ((HI.out.bel.trans ((drewN_below wr 1).mono hbz)).trans (hb2.mono hbz))
          clear hb2
          go_wp2_with fail
          go_ret
          exact ⟨by rw [← HREST.out]; rfl, HE.out⟩
        | true =>
          rw [hr] at HC HREST
          clear hr
          go_wp2_with fail
          go_still_tail 11, (by kernel_rfl)
          go_wp2_with fail
          refine (HC.out _ (HI.out.bel.trans ((drewN_below wr 1).mono hbz))).mono ?_
          rintro e w2 ⟨rfl, hb2⟩
          have HE := Lib.hid ((HI.out.bel.trans ((drewN_below wr 1).mono hbz)).trans (hb2.mono hbz))
          clear hb2
          go_wp2_with fail
          exact ⟨⟨i + 1, by go_num, Lib.hid ⟨hlt, HREST.out, HE.out⟩⟩, by simp [intOf]; omega⟩

set_option maxRecDepth 100000 in
set_option maxHeartbeats 4000000 in
theorem dn_above_fold (a b : Nat) (n m : Nm.Name) (w : World) (hA : DnIn w a n) (hB : DnIn w b m) (fn : NameFits n) (fm : NameFits m) :
    Calls Tryz.prog 60 #[.pointer (some ⟨a, 0, none⟩), .pointer (some ⟨b, 0, none⟩)] w fun e w' => e = .returned (.bool (NC.above true n m)) ∧ Below w.heap.size w w' := by
  obtain ⟨oa, ca, cA, hpa, hal, -⟩ := hA.cell
  obtain ⟨ob, cb, cB, hpb, hbl, hcb⟩ := hB.cell
  by_cases hlen : n.length < m.length
  case neg =>
    have t0 : m.length ≤ n.length := by omega
    have hr : NC.above true n m = false := by unfold NC.above; rw [decide_eq_false hlen]; rfl
    rw [hr]
    clear hr hA hB hpa hpb fn fm hlen
    go_enter Tryz.func60, Tryz.ntmps60
    go_wp2_with fail
    go_quiet (fail)
    go_wp2_with fail
    go_ret
    exact ⟨rfl, drewN_below w nq⟩
  have t0 : ¬ m.length ≤ n.length := by omega
  have KA := Lib.hid (fun (w' : World) (hb : Below w.heap.size w w') => (hb.cell (p := ⟨a, 0, none⟩) hal).trans cA)
  have KB := Lib.hid (fun (w' : World) (hb : Below w.heap.size w w') => (hb.cell (p := ⟨b, 0, none⟩) hbl).trans cB)
  have HN := Lib.hid hpa
  have FN := Lib.hid fn.2
  have hn9 := fn.1
  have hm9 := fm.1
  obtain ⟨k, hk⟩ : ∃ k, k = m.length - n.length := ⟨_, rfl⟩
  have hkm : k ≤ m.length := by omega
  have s0 : (0 : Int) ≤ (m.length : Int) - (n.length : Int) := by omega
  have s1 : (m.length : Int) - (n.length : Int) ≤ (m.length : Int) := by omega
  have s2 : ((m.length : Int) - (n.length : Int)).toNat = k := by omega
  have s3 : m.length - k = n.length := by omega
  have hr : NC.above true n m = NC.namesEq true n (m.drop k) := by unfold NC.above; rw [decide_eq_true hlen, hk]; rfl
  have FM := Lib.hid (fun ps (h : ps ∈ m.drop k) => fm.2 ps (List.mem_of_mem_drop h))
  obtain ⟨bm, fom, rfl⟩ : ∃ bm fom, ob = some ⟨bm, fom, none⟩ := by
    obtain ⟨q, hq⟩ : ∃ q, m[0]? = some q := ⟨_, List.getElem?_eq_getElem (by omega)⟩
    obtain ⟨bb, fb, _, h, _⟩ := hpb.nth hq
    exact ⟨_, _, h⟩
  have HM0 := Lib.hid (ptr_drop hpb hkm)
  have hl2 : (m.drop k).length = n.length := by rw [List.length_drop]; omega
  rw [hr]
  rw [hl2] at HM0
  have HK := Lib.hid hk
  clear hA hB hpa hpb fn fm hr hk
  generalize m.drop k = m2 at *
  go_enter Tryz.func60, Tryz.ntmps60
  go_wp2_with fail
  go_quiet (fail)
  have hb0 := drewN_below w nq
  have c1 := KA.out _ hb0
  have c2 := KB.out _ hb0
  have HB0 := Lib.hid hb0
  clear cA cB hb0
  generalize w.drewN nq = w1 at *
  go_wp2_with fail
  by_cases hcap : cb = k
  · have hn0 : n.length = 0 := by have := HK.out; omega
    have HM : Hid (PtrRdns w (.slice (some ⟨bm, fom, none⟩) n.length (cb - k)) m2) := Lib.hid ⟨_, _, by rw [hl2], by omega, fun j ps hj => by
      rw [List.length_eq_zero_iff.1 (hl2.trans hn0)] at hj; simp at hj⟩
    clear HM0
    go_quiet (fail)
    have hb0 := HB0.out.trans ((drewN_below w1 nq).mono HB0.out.size)
    have c1 := KA.out _ hb0
    have c2 := KB.out _ hb0
    have HB0 := Lib.hid hb0
    clear hb0
    generalize w1.drewN nq = w2 at *
    go_wp2_with fail
    go_loopw [39] (fun t39 wr => ∃ (i : Nat), t39 = .int .i64 i ∧ Hid (EqInv true n m2 w i wr)) (fun t39 _ => n.length - (intOf t39).toNat)
    case atStart => exact ⟨0, rfl, Lib.hid ⟨Nat.zero_le _, rfl, HB0.out⟩⟩
    case round =>
      clear HB0 c1 c2
      obtain ⟨i, rfl, HI⟩ := hrel
      have hle := HI.out.le
      have hbz := HI.out.bel.size
      by_cases hend : i = n.length
      · have t1 : decide ((i : Int) < (n.length : Int)) = false := by simp; omega
        have hres : NC.namesEq true n m2 = true := by
          rw [← HI.out.rest, hend, List.drop_length, List.drop_of_length_le (by omega)]; rfl
        have HRS := Lib.hid hres
        clear hres
        go_wp2_with fail
        go_ret
        exact ⟨by rw [HRS.out]; rfl, HI.out.bel⟩
      · exact absurd (show i = n.length by omega) hend
  · have HM := HM0
    clear HM0
    go_quiet (fail)
    have hb0 := HB0.out.trans ((drewN_below w1 nq).mono HB0.out.size)
    have c1 := KA.out _ hb0
    have c2 := KB.out _ hb0
    have HB0 := Lib.hid hb0
    clear hb0
    generalize w1.drewN nq = w2 at *
    go_wp2_with fail
    go_loopw [39] (fun t39 wr => ∃ (i : Nat), t39 = .int .i64 i ∧ Hid (EqInv true n m2 w i wr)) (fun t39 _ => n.length - (intOf t39).toNat)
    case atStart => exact ⟨0, rfl, Lib.hid ⟨Nat.zero_le _, rfl, HB0.out⟩⟩
    case round =>
      clear HB0 c1 c2
      obtain ⟨i, rfl, HI⟩ := hrel
      have hle := HI.out.le
      have hbz := HI.out.bel.size
      by_cases hend : i = n.length
      · have t1 : decide ((i : Int) < (n.length : Int)) = false := by simp; omega
        have hres : NC.namesEq true n m2 = true := by
          rw [← HI.out.rest, hend, List.drop_length, List.drop_of_length_le (by omega)]; rfl
        have HRS := Lib.hid hres
        clear hres
        go_wp2_with fail
        go_ret
        exact ⟨by rw [HRS.out]; rfl, HI.out.bel⟩
      · have hlt : i < n.length := by omega
        have hltm : i < m2.length := by omega
        have t1 : decide ((i : Int) < (n.length : Int)) = true := by simp; omega
        obtain ⟨ps, hp⟩ : ∃ ps, n[i]? = some ps := ⟨_, List.getElem?_eq_getElem hlt⟩
        obtain ⟨qs, hq⟩ : ∃ qs, m2[i]? = some qs := ⟨_, List.getElem?_eq_getElem hltm⟩
        obtain ⟨ba, fa, aa, rfl, ca0, hra⟩ := HN.out.nth hp
        obtain ⟨bb, fb, ab, hbb, cb0, hrb⟩ := HM.out.nth hq
        injection hbb with hbb
        injection hbb with hbb1 hbb2
        subst hbb1 hbb2
        have k1 : wr.cell? ⟨ba, fa + i, none⟩ = some (.pointer (some ⟨aa, 0, none⟩)) := (HI.out.bel.cell (World.block_lt_of_cell? w ⟨ba, fa + i, none⟩ ca0)).trans ca0
        have k2 := (HI.out.bel.cell (World.block_lt_of_cell? w _ cb0)).trans cb0
        have k3 := KA.out _ HI.out.bel
        have k4 := KB.out _ HI.out.bel
        have i0 : (0 : Int) ≤ (i : Int) := by omega
        have i1 : (i : Int) < (n.length : Int) := by omega
        have i2 : (i : Int) < (m2.length : Int) := by omega
        have HC := Lib.hid (fun w' (hb : Below w.heap.size w w') => rdn_eq_fold aa ab ps qs w' (hra.stays hb) (hrb.stays hb) (FN.out ps (List.mem_of_getElem? hp)) (FM.out qs (List.mem_of_getElem? hq)))
        have hrest := HI.out.rest
        rw [drop_at hp, drop_at hq, NC.namesEq] at hrest
        have HREST := Lib.hid hrest
        clear hrest ca0 cb0 hra hrb hp hq hend
        cases hr : NC.rdnEq true ps qs with
        | false =>
          rw [hr] at HC HREST
          clear hr
          go_wp2_with fail
          go_still_tail 11, (by kernel_rfl)
          go_wp2_with fail
          refine (HC.out _ (HI.out.bel.trans ((drewN_below wr 1).mono hbz))).mono ?_
          rintro e w2 ⟨rfl, hb2⟩
          have HE := Lib.hid ((HI.out.bel.trans ((drewN_below wr 1).mono hbz)).trans (hb2.mono hbz))
          clear hb2
          go_wp2_with fail
          go_ret
          exact ⟨by rw [← HREST.out]; rfl, HE.out⟩
        | true =>
          rw [hr] at HC HREST
          clear hr
          go_wp2_with fail
          go_still_tail 11, (by kernel_rfl)
          go_wp2_with fail
          refine (HC.out _ (HI.out.bel.trans ((drewN_below wr 1).mono hbz))).mono ?_
          rintro e w2 ⟨rfl, hb2⟩
          have HE := Lib.hid ((HI.out.bel.trans ((drewN_below wr 1).mono hbz)).trans (hb2.mono hbz))
          clear hb2
          go_wp2_with fail
          exact ⟨⟨i + 1, by go_num, Lib.hid ⟨hlt, HREST.out, HE.out⟩⟩, by simp [intOf]; omega⟩

end Go.Proofs.YtjmahgefijncaaaGreatFmt
