/- Equal, EqualFold of relative names. -/
import Derived.Test.YtjmahgefijncaaaGreatFmtNHas
namespace Go.Proofs.YtjmahgefijncaaaGreatFmt
open Go Go.RowKit

theorem RdnIn.cell {w : World} {r : Nat} {ps : List Nm.Part} (h : RdnIn w r ps) : ∃ o c, w.cell? ⟨r, 0, none⟩ = some (.slice o ps.length c) ∧ PtrParts w (.slice o ps.length c) ps ∧ r < w.heap.size := by
  obtain ⟨v, h1, o, c, rfl, h2⟩ := h
  exact ⟨o, c, blockCell h1 0, ⟨o, c, rfl, h2⟩, blockLt h1⟩
def RdnFits (ps : List Nm.Part) : Prop := ps.length < 1000000000 ∧ ∀ p ∈ ps, PartFits p
def NameFits (n : Nm.Name) : Prop := n.length < 1000000000 ∧ ∀ ps ∈ n, RdnFits ps

set_option maxRecDepth 100000 in
set_option maxHeartbeats 4000000 in
theorem rdn_eq (a b : Nat) (ps qs : List Nm.Part) (w : World) (hA : RdnIn w a ps) (hB : RdnIn w b qs) (fp : RdnFits ps) (fq : RdnFits qs) :
    Calls Tryz.prog 80 #[.pointer (some ⟨a, 0, none⟩), .pointer (some ⟨b, 0, none⟩)] w fun e w' => e = .returned (.bool (NC.rdnEq false ps qs)) ∧ Below w.heap.size w w' := by
  obtain ⟨oa, ca, cA, hpa, hal⟩ := hA.cell
  obtain ⟨ob, cb, cB, hpb, hbl⟩ := hB.cell
  by_cases hlen : ps.length = qs.length
  · have t0 : ((ps.length : Int) != (qs.length : Int)) = false := by simp [hlen]
    have HA := Lib.hid (fun w' (hb : Below w.heap.size w w') => has_all a (.slice ob qs.length cb) ps qs w' (hA.stays hb) (hpb.stays hb) fp.2 fq.2 fp.1 fq.1)
    have HB := Lib.hid (fun w' (hb : Below w.heap.size w w') => has_all b (.slice oa ps.length ca) qs ps w' (hB.stays hb) (hpa.stays hb) fq.2 fp.2 fq.1 fp.1)
    have hr : NC.rdnEq false ps qs = (NC.hasAll (qs.map (NC.key false)) (ps.map (NC.key false)) && NC.hasAll (ps.map (NC.key false)) (qs.map (NC.key false))) := by
      unfold NC.rdnEq; rw [hlen]; simp
    rw [hr]
    clear hr hA hB hpa hpb fp fq hlen
    generalize NC.hasAll (qs.map (NC.key false)) (ps.map (NC.key false)) = r1 at *
    generalize NC.hasAll (ps.map (NC.key false)) (qs.map (NC.key false)) = r2 at *
    have kA : ∀ w', Below w.heap.size w w' → w'.cell? ⟨a, 0, none⟩ = some (.slice oa ps.length ca) := fun w' hb => (hb.cell (p := ⟨a, 0, none⟩) hal).trans cA
    have kB : ∀ w', Below w.heap.size w w' → w'.cell? ⟨b, 0, none⟩ = some (.slice ob qs.length cb) := fun w' hb => (hb.cell (p := ⟨b, 0, none⟩) hbl).trans cB
    have KA := Lib.hid kA
    have KB := Lib.hid kB
    clear kA kB
    go_enter Tryz.func80, Tryz.ntmps80
    go_wp2_with fail
    go_quiet (fail)
    have hb0 := drewN_below w nq
    have c1 := KA.out _ hb0
    have c2 := KB.out _ hb0
    have HB0 := Lib.hid hb0
    have hz0 : w.heap.size ≤ (w.drewN nq).heap.size := hb0.size
    clear cA cB hb0
    generalize w.drewN nq = w1 at *
    cases r1 with
    | false =>
      go_wp2_with fail
      refine (HA.out _ HB0.out).mono ?_
      rintro e w2 ⟨rfl, hb2⟩
      have HE := Lib.hid (HB0.out.trans (hb2.mono hz0))
      clear hb2
      go_wp2_with fail
      go_ret
      exact ⟨rfl, HE.out⟩
    | true =>
      go_wp2_with fail
      refine (HA.out _ HB0.out).mono ?_
      rintro e w2 ⟨rfl, hb2⟩
      have hb3 := HB0.out.trans (hb2.mono hz0)
      have hz2 := hb3.size
      have c3 := KA.out _ hb3
      have HE := Lib.hid hb3
      clear hb2 hb3 c1 c2
      go_wp2_with fail
      refine (HB.out _ HE.out).mono ?_
      rintro e w4 ⟨rfl, hb4⟩
      have HE2 := Lib.hid (HE.out.trans (hb4.mono hz2))
      clear hb4
      go_wp2_with fail
      go_ret
      exact ⟨rfl, HE2.out⟩
  · have t0 : ((ps.length : Int) != (qs.length : Int)) = true := by rw [bne_iff_ne]; omega
    have hr : NC.rdnEq false ps qs = false := by
      unfold NC.rdnEq
      have : (ps.length == qs.length) = false := by simpa using hlen
      rw [this]; rfl
    rw [hr]
    clear hr hA hB hpa hpb fp fq hlen
    go_enter Tryz.func80, Tryz.ntmps80
    go_wp2_with fail
    go_quiet (fail)
    go_wp2_with fail
    go_ret
    exact ⟨rfl, drewN_below w nq⟩

set_option maxRecDepth 100000 in
set_option maxHeartbeats 4000000 in
theorem rdn_eq_fold (a b : Nat) (ps qs : List Nm.Part) (w : World) (hA : RdnIn w a ps) (hB : RdnIn w b qs) (fp : RdnFits ps) (fq : RdnFits qs) :
    Calls Tryz.prog 81 #[.pointer (some ⟨a, 0, none⟩), .pointer (some ⟨b, 0, none⟩)] w fun e w' => e = .returned (.bool (NC.rdnEq true ps qs)) ∧ Below w.heap.size w w' := by
  obtain ⟨oa, ca, cA, hpa, hal⟩ := hA.cell
  obtain ⟨ob, cb, cB, hpb, hbl⟩ := hB.cell
  by_cases hlen : ps.length = qs.length
  · have t0 : ((ps.length : Int) != (qs.length : Int)) = false := by simp [hlen]
    have HA := Lib.hid (fun w' (hb : Below w.heap.size w w') => has_all_fold a (.slice ob qs.length cb) ps qs w' (hA.stays hb) (hpb.stays hb) fp.2 fq.2 fp.1 fq.1)
    have HB := Lib.hid (fun w' (hb : Below w.heap.size w w') => has_all_fold b (.slice oa ps.length ca) qs ps w' (hB.stays hb) (hpa.stays hb) fq.2 fp.2 fq.1 fp.1)
    have hr : NC.rdnEq true ps qs = (NC.hasAll (qs.map (NC.key true)) (ps.map (NC.key true)) && NC.hasAll (ps.map (NC.key true)) (qs.map (NC.key true))) := by
      unfold NC.rdnEq; rw [hlen]; simp
    rw [hr]
    clear hr hA hB hpa hpb fp fq hlen
    generalize NC.hasAll (qs.map (NC.key true)) (ps.map (NC.key true)) = r1 at *
    generalize NC.hasAll (ps.map (NC.key true)) (qs.map (NC.key true)) = r2 at *
    have kA : ∀ w', Below w.heap.size w w' → w'.cell? ⟨a, 0, none⟩ = some (.slice oa ps.length ca) := fun w' hb => (hb.cell (p := ⟨a, 0, none⟩) hal).trans cA
    have kB : ∀ w', Below w.heap.size w w' → w'.cell? ⟨b, 0, none⟩ = some (.slice ob qs.length cb) := fun w' hb => (hb.cell (p := ⟨b, 0, none⟩) hbl).trans cB
    have KA := Lib.hid kA
    have KB := Lib.hid kB
    clear kA kB
    go_enter Tryz.func81, Tryz.ntmps81
    go_wp2_with fail
    go_quiet (fail)
    have hb0 := drewN_below w nq
    have c1 := KA.out _ hb0
    have c2 := KB.out _ hb0
    have HB0 := Lib.hid hb0
    have hz0 : w.heap.size ≤ (w.drewN nq).heap.size := hb0.size
    clear cA cB hb0
    generalize w.drewN nq = w1 at *
    cases r1 with
    | false =>
      go_wp2_with fail
      refine (HA.out _ HB0.out).mono ?_
      rintro e w2 ⟨rfl, hb2⟩
      have HE := Lib.hid (HB0.out.trans (hb2.mono hz0))
      clear hb2
      go_wp2_with fail
      go_ret
      exact ⟨rfl, HE.out⟩
    | true =>
      go_wp2_with fail
      refine (HA.out _ HB0.out).mono ?_
      rintro e w2 ⟨rfl, hb2⟩
      have hb3 := HB0.out.trans (hb2.mono hz0)
      have hz2 := hb3.size
      have c3 := KA.out _ hb3
      have HE := Lib.hid hb3
      clear hb2 hb3 c1 c2
      go_wp2_with fail
      refine (HB.out _ HE.out).mono ?_
      rintro e w4 ⟨rfl, hb4⟩
      have HE2 := Lib.hid (HE.out.trans (hb4.mono hz2))
      clear hb4
      go_wp2_with fail
      go_ret
      exact ⟨rfl, HE2.out⟩
  · have t0 : ((ps.length : Int) != (qs.length : Int)) = true := by rw [bne_iff_ne]; omega
    have hr : NC.rdnEq true ps qs = false := by
      unfold NC.rdnEq
      have : (ps.length == qs.length) = false := by simpa using hlen
      rw [this]; rfl
    rw [hr]
    clear hr hA hB hpa hpb fp fq hlen
    go_enter Tryz.func81, Tryz.ntmps81
    go_wp2_with fail
    go_quiet (fail)
    go_wp2_with fail
    go_ret
    exact ⟨rfl, drewN_below w nq⟩

end Go.Proofs.YtjmahgefijncaaaGreatFmt
