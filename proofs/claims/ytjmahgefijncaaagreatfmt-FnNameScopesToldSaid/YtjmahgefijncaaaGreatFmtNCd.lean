/- NamesCompared. -/
import Derived.Test.YtjmahgefijncaaaGreatFmtNMk
import Derived.Test.YtjmahgefijncaaaGreatFmtNAb
namespace Go.Proofs.YtjmahgefijncaaaGreatFmt
open Go Go.RowKit

theorem four_set2 {w : World} {b : Nat} {a1 a2 a3 a4 : Value} {t : TypeId} (h : w.heap[b]? = some (.cells #[a1, a2, a3, a4] t (0, 0))) (x1 x2 x3 x4 : Value) :
    ((((w.setCell ⟨b, 0, none⟩ x1).setCell ⟨b, 1, none⟩ x2).setCell ⟨b, 2, none⟩ x3).setCell ⟨b, 3, none⟩ x4).heap[b]? = some (.cells #[x1, x2, x3, x4] t (0, 0)) := by
  have h1 := blockSet h 0 x1
  have h2 := blockSet h1 1 x2
  have h3 := blockSet h2 2 x3
  have h4 := blockSet h3 3 x4
  simpa using h4

def Cmp (n m : Nm.Name) : Value := .agg #[.bool (NC.namesEq false n m), .bool (NC.namesEq true n m), .bool (NC.above false n m), .bool (NC.above true n m)]

set_option maxRecDepth 100000 in
set_option maxHeartbeats 8000000 in
theorem names_cmp (va vb : Value) (n m : Nm.Name) (w : World) (hA : NameIn w va n) (hB : NameIn w vb m) (fn : NameFits n) (fm : NameFits m) :
    Calls Tryz.prog 30 #[va, vb] w fun e w' => e = .returned (Cmp n m) ∧ Below w.heap.size w w' := by
  have HA := Lib.hid (fun w' (hb : Below w.heap.size w w') => dn_mk va n w' (hA.stays hb) fn.1 (fun ps h => (fn.2 ps h).1))
  have HB := Lib.hid (fun w' (hb : Below w.heap.size w w') => dn_mk vb m w' (hB.stays hb) fm.1 (fun ps h => (fm.2 ps h).1))
  have HE := Lib.hid (fun a b w' (h1 : DnIn w' a n) (h2 : DnIn w' b m) => And.intro (dn_eq a b n m w' h1 h2 fn fm) (And.intro (dn_eq_fold a b n m w' h1 h2 fn fm) (And.intro (dn_above a b n m w' h1 h2 fn fm) (dn_above_fold a b n m w' h1 h2 fn fm))))
  unfold Cmp
  generalize NC.namesEq false n m = r1 at *
  generalize NC.namesEq true n m = r2 at *
  generalize NC.above false n m = r3 at *
  generalize NC.above true n m = r4 at *
  clear hA hB fn fm
  go_enter Tryz.func30, Tryz.ntmps30
  go_wp2_with fail
  have hb0 := (Below.refl w.heap.size w).alloc (Nat.le_refl _) (.cells #[.bool false, .bool false, .bool false, .bool false] 55 (0, 0))
  have hC0 := heap_alloc_new w (.cells #[.bool false, .bool false, .bool false, .bool false] 55 (0, 0))
  have hz0 : w.heap.size < (w.alloc (.cells #[.bool false, .bool false, .bool false, .bool false] 55 (0, 0))).heap.size := by simp
  have HB0 := Lib.hid hb0
  have HC0 := Lib.hid hC0
  clear hb0 hC0
  generalize w.alloc (.cells #[.bool false, .bool false, .bool false, .bool false] 55 (0, 0)) = w0 at *
  generalize hC : w.heap.size = C at *
  have hz1 : C ≤ w0.heap.size := by omega
  refine (HA.out w0 HB0.out).mono ?_
  rintro e w1 ⟨a, rfl, hda, hb1⟩
  have hs1 := hb1.size
  have HK1 := Lib.hid hb1
  have HD1 := Lib.hid hda
  clear hb1 hda HA
  go_wp2_with fail
  refine (HB.out w1 (HB0.out.trans (HK1.out.mono hz1))).mono ?_
  rintro e w2 ⟨b, rfl, hdb, hb2⟩
  have hs2 := hb2.size
  have HK2 := Lib.hid (HK1.out.trans (hb2.mono hs1))
  have HD2 := Lib.hid (And.intro (HD1.out.stays hb2) hdb)
  clear hb2 hdb HB HD1 HK1
  go_wp2_with fail
  refine ((HE.out a b w2 HD2.out.1 HD2.out.2).1).mono ?_
  rintro e w3 ⟨rfl, hb3⟩
  have hs3 := hb3.size
  have HK3 := Lib.hid (HK2.out.trans (hb3.mono (by have := HK2.out.size; omega)))
  have HD3 := Lib.hid (And.intro (HD2.out.1.stays hb3) (HD2.out.2.stays hb3))
  clear hb3 HD2 HK2
  go_wp2_with fail
  refine ((HE.out a b w3 HD3.out.1 HD3.out.2).2.1).mono ?_
  rintro e w4 ⟨rfl, hb4⟩
  have hs4 := hb4.size
  have HK4 := Lib.hid (HK3.out.trans (hb4.mono (by have := HK3.out.size; omega)))
  have HD4 := Lib.hid (And.intro (HD3.out.1.stays hb4) (HD3.out.2.stays hb4))
  clear hb4 HD3 HK3
  go_wp2_with fail
  refine ((HE.out a b w4 HD4.out.1 HD4.out.2).2.2.1).mono ?_
  rintro e w5 ⟨rfl, hb5⟩
  have hs5 := hb5.size
  have HK5 := Lib.hid (HK4.out.trans (hb5.mono (by have := HK4.out.size; omega)))
  have HD5 := Lib.hid (And.intro (HD4.out.1.stays hb5) (HD4.out.2.stays hb5))
  clear hb5 HD4 HK4
  go_wp2_with fail
  refine ((HE.out a b w5 HD5.out.1 HD5.out.2).2.2.2).mono ?_
  rintro e w6 ⟨rfl, hb6⟩
  have hs6 := hb6.size
  have HK6 := Lib.hid (HK5.out.trans (hb6.mono (by have := HK5.out.size; omega)))
  have HD6 := Lib.hid (And.intro (HD5.out.1.stays hb6) (HD5.out.2.stays hb6))
  clear hb6 HD5 HK5
  have hC6 := (HK6.out.block C hz0).trans HC0.out
  have e0 := blockCell hC6 0
  have e1 := blockCell hC6 1
  have e2 := blockCell hC6 2
  have e3 := blockCell hC6 3
  have f0 := blockFrozen hC6 0
  have f1 := blockFrozen hC6 1
  have f2 := blockFrozen hC6 2
  have f3 := blockFrozen hC6 3
  have HBE := Lib.hid (HB0.out.trans (HK6.out.mono hz1))
  have HC6 := Lib.hid hC6
  clear HK6 HD6 hC6
  go_wp2_with fail
  try simp only [Exit.inBlock, Exit.then]
  refine bodyPost_ret (results_cell_row rfl _ _ C 55 _ (0, 0) _ rfl (four_set2 HC6.out _ _ _ _) Tryz.underlying55 rfl (by kernel_rfl)) rfl ?_
  refine ⟨rfl, ?_⟩
  rw [hC]
  exact (((HBE.out.setCell (p := ⟨C, 0, none⟩) (Nat.le_refl _) _).setCell (p := ⟨C, 1, none⟩) (Nat.le_refl _) _).setCell (p := ⟨C, 2, none⟩) (Nat.le_refl _) _).setCell (p := ⟨C, 3, none⟩) (Nat.le_refl _) _
end Go.Proofs.YtjmahgefijncaaaGreatFmt
