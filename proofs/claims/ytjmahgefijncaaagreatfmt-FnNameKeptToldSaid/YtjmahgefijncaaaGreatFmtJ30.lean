/- ParseDN's closure: an attribute is added; maybe the relative name is. -/
import Derived.Test.YtjmahgefijncaaaGreatFmtJ2
import Derived.Test.YtjmahgefijncaaaGreatFmtJ3
import Derived.BigRegion
import Derived.Deep.AppendLies
import Derived.Deep.RegionLaw
import Derived.Deep.DeepCutAuto
set_option linter.unusedVariables false
set_option linter.unusedSimpArgs false
namespace Go.Proofs.YtjmahgefijncaaaGreatFmt
open Go Go.RowKit

theorem info_atv : ∃ i, Tryz.prog.info? 119 = some i ∧ i.zero = some (.pointer none) ∧ i.size = 1 ∧ i.bytes = 8 := info_parts (by kernel_rfl)
theorem info_rdn : ∃ i, Tryz.prog.info? 115 = some i ∧ i.zero = some (.pointer none) ∧ i.size = 1 ∧ i.bytes = 8 := info_parts (by kernel_rfl)

theorem own_len {w : World} {B : Nat} {e : TypeId} {v : Value} {xs : List Value} (h : w.ownsRow B e 1 v xs.length xs) : ∃ o cp, v = .slice o xs.length cp := by
  rcases h.2 with ⟨h, h0⟩ | ⟨g, cap, cur, h, _⟩
  · exact ⟨none, 0, by rw [h, h0]⟩
  · exact ⟨_, _, h⟩

/-- What the walk of 'p.row = append(p.row, q)' asks: P a variable that holds the pointer to R, Q one that holds the pointer q. -/
theorem app_facts {w : World} {P Q R q : Nat} {v : Value} {xs : List Value} {tP tQ tR e : TypeId} (hP : w.heap[P]? = some (.cells #[.pointer (some ⟨R, 0, none⟩)] tP (0, 0))) (hQ : w.heap[Q]? = some (.cells #[.pointer (some ⟨q, 0, none⟩)] tQ (0, 0)))
    (hR : w.heap[R]? = some (.cells #[v] tR (0, 0))) (hown : w.ownsRow 0 e 1 v xs.length xs) (hvP : v.ownBlock ≠ some P) (hvQ : v.ownBlock ≠ some Q) (hvR : v.ownBlock ≠ some R) {W : World} (hW : W = (w.alloc (.cells #[.pointer (some ⟨q, 0, none⟩)] e (0, 0))).drew) :
    W.ownsRow 0 e 1 v xs.length xs ∧ W.cell? ⟨P, 0, none⟩ = some (.pointer (some ⟨R, 0, none⟩)) ∧ W.cell? ⟨Q, 0, none⟩ = some (.pointer (some ⟨q, 0, none⟩)) ∧ W.cell? ⟨R, 0, none⟩ = some v ∧
    (∀ w' : World, W.grownBy w' v.ownBlock → w'.heap[R]? = some (.cells #[v] tR (0, 0))) ∧ (∀ w' : World, W.grownBy w' v.ownBlock → w'.cell? ⟨P, 0, none⟩ = some (.pointer (some ⟨R, 0, none⟩))) ∧ (∀ w' : World, W.grownBy w' v.ownBlock → w'.cell? ⟨Q, 0, none⟩ = some (.pointer (some ⟨q, 0, none⟩))) ∧
    (∀ j u, ([.pointer (some ⟨q, 0, none⟩)] : List Value)[j]? = some u → W.cell? ((⟨w.heap.size, 0, none⟩ : Addr).add j) = some u) := by
  have hPlt := blockLt hP
  have hQlt := blockLt hQ
  have hRlt := blockLt hR
  have hold : ∀ k, k < w.heap.size → W.heap[k]? = w.heap[k]? := fun k hk => by rw [hW]; exact Below.heap_alloc w _ k hk
  have hnew : W.heap[w.heap.size]? = some (.cells #[.pointer (some ⟨q, 0, none⟩)] e (0, 0)) := by rw [hW]; exact heap_alloc_new w _
  have hz : W.heap.size = w.heap.size + 1 := by rw [hW]; simp
  refine ⟨by rw [hW]; exact hown.alloc _, blockCell ((hold P hPlt).trans hP) 0, blockCell ((hold Q hQlt).trans hQ) 0, blockCell ((hold R hRlt).trans hR) 0, fun w' hgr => (hgr.block R (by omega) (fun h => hvR h.symm)).trans ((hold R hRlt).trans hR),
    fun w' hgr => blockCell ((hgr.block P (by omega) (fun h => hvP h.symm)).trans ((hold P hPlt).trans hP)) 0, fun w' hgr => blockCell ((hgr.block Q (by omega) (fun h => hvQ h.symm)).trans ((hold Q hQlt).trans hQ)) 0, ?_⟩
  intro j u hj
  match j, hj with
  | 0, hj => simp at hj; subst hj; exact blockCell hnew 0


set_option maxRecDepth 100000 in
set_option maxHeartbeats 8000000 in
theorem add_part (w : World) (B X Y Z D Rb A : Nat) (v : Value) (xs : List Value) (vd : Value) (ds : List Value) (S : Nat → Prop) (ty val : List UInt8) (rdn : List Nm.Part) (dn : Nm.Name) (h : PInv B X Y Z D Rb A v xs vd ds S ty val rdn dn w) (hx : xs.length < 1000000000) :
    Calls Tryz.prog 67 #[.bool false, .pointer (some ⟨X, 0, none⟩), .pointer (some ⟨Y, 0, none⟩), .pointer (some ⟨Z, 0, none⟩)] w fun e w' => e = .returned (.tuple #[]) ∧ Below B w w' ∧
      ∃ (Rb' A' : Nat) (v' : Value) (xs' : List Value) (vd' : Value) (ds' : List Value) (S' : Nat → Prop), PInv B X Y Z D Rb' A' v' xs' vd' ds' S' [] [] (rdn ++ [(ty, val)]) dn w' := by
  have H := Lib.hid h
  obtain ⟨o, cp, rfl⟩ := own_len h.own
  obtain ⟨i0, hi, hz0, hz1, hz2⟩ := info_atv
  have hP := h.hX
  have hQ := h.hY
  have hR := h.hR
  have hvR : (Value.slice o xs.length cp).ownBlock ≠ some Rb := own_ne h.own h.hR (by decide)
  have c0 : w.cell? ⟨X, 0, none⟩ = some (.pointer (some ⟨Rb, 0, none⟩)) := blockCell hP 0
  have c1 : w.cell? ⟨Y, 0, none⟩ = some (.pointer (some ⟨A, 0, none⟩)) := blockCell hQ 0
  have c2 : w.cell? ⟨Rb, 0, none⟩ = some (.slice o xs.length cp) := blockCell hR 0
  have f2 := blockFrozen hR 0
  have hPlt := blockLt hP
  have hQlt := blockLt hQ
  have hRlt := blockLt hR
  have hPR : X ≠ Rb := ne_of_types hP hR (by decide)
  have hQR : Y ≠ Rb := ne_of_types hQ hR (by decide)
  obtain ⟨hownW, d0, d1, d2, hback, hbX, hbY, hnews⟩ := app_facts hP hQ hR h.own (own_ne h.own h.hX (by decide)) (h.vY) hvR (W := (w.alloc (.cells #[.pointer (some ⟨A, 0, none⟩)] 119)).drew) rfl
  have h1c : ∀ u ∈ ([.pointer (some ⟨A, 0, none⟩)] : List Value), u.oneCell' = true := by intro u hu; simp at hu; subst hu; rfl
  have h63 : xs.length + 1 ≤ maxLen := by simp only [maxLen]; omega
  have hby : (xs.length + 1) * 8 ≤ 140737488355328 := by omega
  clear h
  go_enter Tryz.func67, Tryz.ntmps67
  go_upto_region 0 with (fail)
  go_cut [] from 5 to 14 (fun wx => LongerSome 119 118 Rb (.slice o xs.length cp) xs (.pointer (some ⟨A, 0, none⟩)) w wx)
  case first =>
    go_region_law ((refine step_append_lies _ (by rfl) _ _ _ (by rfl) 0 119 i0 (.pointer none) 1 8 Tryz.underlying116 hi hz0 hz1 hz2 rfl (by decide) (.slice o xs.length cp) xs.length xs (by rfl) hownW ⟨w.heap.size, 0, none⟩ 1 1 [.pointer (some ⟨A, 0, none⟩)] (by rfl) rfl hnews h1c (by decide) h63 hby (Nat.zero_le _) (w.heap.size + 1) (by simp) ?_; intro g cap w4 hown' hgr hat hlt; have hR4 := hback w4 hgr; have e2 : w4.cell? ⟨Rb, 0, none⟩ = some (.slice o xs.length cp) := blockCell hR4 0; have e0 := hbX w4 hgr; have e1 := hbY w4 hgr; have g2 := blockFrozen hR4 0; have HQ := Lib.hid (And.intro hown' (And.intro hgr hat)); clear hown' hgr hat hR4))
    all_goals
      have HE := Lib.hid (longer_end hR hvR HQ.out.1 HQ.out.2.1 HQ.out.2.2)
      clear HQ
      go_wp2_with fail
      go_meet
      exact HE.out
  case rest =>
    obtain ⟨v', hl⟩ := hcut
    obtain ⟨hE, hb⟩ := H.out.part hl rfl
    have hYc : wc.heap[Y]? = w.heap[Y]? := hl.only.block Y hQlt (by rintro (e | e); exact hQR e; exact H.out.vY e)
    have cY : wc.cell? ⟨Y, 0, none⟩ = some (.pointer (some ⟨A, 0, none⟩)) := blockCell (hYc.trans hQ) 0
    have fY := blockFrozen (hYc.trans hQ) 0
    have hYl : Y < wc.heap.size := Nat.lt_of_lt_of_le hQlt hl.only.size
    have HE := Lib.hid hE
    have HB := Lib.hid hb
    clear hE hb hl hownW d0 d1 d2 hback hbX hbY hnews h1c h63 hby c0 c1 c2 f2 hP hQ hR hYc hi hz0 hz1 hz2
    go_wp2
    go_end0
    exact ⟨rfl, HB.out, _, _, _, _, _, _, _, HE.out⟩

set_option maxRecDepth 100000 in
set_option maxHeartbeats 8000000 in
theorem add_last (w : World) (B X Y Z D Rb A : Nat) (v : Value) (xs : List Value) (vd : Value) (ds : List Value) (S : Nat → Prop) (ty val : List UInt8) (rdn : List Nm.Part) (dn : Nm.Name) (h : PInv B X Y Z D Rb A v xs vd ds S ty val rdn dn w) (hx : xs.length < 1000000000) (hd : ds.length < 1000000000) :
    Calls Tryz.prog 67 #[.bool true, .pointer (some ⟨X, 0, none⟩), .pointer (some ⟨Y, 0, none⟩), .pointer (some ⟨Z, 0, none⟩)] w fun e w' => e = .returned (.tuple #[]) ∧ Below B w w' ∧
      ∃ (Rb' A' : Nat) (v' : Value) (xs' : List Value) (vd' : Value) (ds' : List Value) (S' : Nat → Prop), PInv B X Y Z D Rb' A' v' xs' vd' ds' S' [] [] [] (dn ++ [rdn ++ [(ty, val)]]) w' := by
  have H := Lib.hid h
  obtain ⟨o, cp, rfl⟩ := own_len h.own
  obtain ⟨i0, hi, hz0, hz1, hz2⟩ := info_atv
  have hP := h.hX
  have hQ := h.hY
  have hR := h.hR
  have hvR : (Value.slice o xs.length cp).ownBlock ≠ some Rb := own_ne h.own h.hR (by decide)
  have c0 : w.cell? ⟨X, 0, none⟩ = some (.pointer (some ⟨Rb, 0, none⟩)) := blockCell hP 0
  have c1 : w.cell? ⟨Y, 0, none⟩ = some (.pointer (some ⟨A, 0, none⟩)) := blockCell hQ 0
  have c2 : w.cell? ⟨Rb, 0, none⟩ = some (.slice o xs.length cp) := blockCell hR 0
  have f2 := blockFrozen hR 0
  have hPlt := blockLt hP
  have hQlt := blockLt hQ
  have hRlt := blockLt hR
  have hPR : X ≠ Rb := ne_of_types hP hR (by decide)
  have hQR : Y ≠ Rb := ne_of_types hQ hR (by decide)
  obtain ⟨hownW, d0, d1, d2, hback, hbX, hbY, hnews⟩ := app_facts hP hQ hR h.own (own_ne h.own h.hX (by decide)) (h.vY) hvR (W := (w.alloc (.cells #[.pointer (some ⟨A, 0, none⟩)] 119)).drew) rfl
  have h1c : ∀ u ∈ ([.pointer (some ⟨A, 0, none⟩)] : List Value), u.oneCell' = true := by intro u hu; simp at hu; subst hu; rfl
  have h63 : xs.length + 1 ≤ maxLen := by simp only [maxLen]; omega
  have hby : (xs.length + 1) * 8 ≤ 140737488355328 := by omega
  clear h
  go_enter Tryz.func67, Tryz.ntmps67
  go_upto_region 0 with (fail)
  go_cut [] from 5 to 14 (fun wx => LongerSome 119 118 Rb (.slice o xs.length cp) xs (.pointer (some ⟨A, 0, none⟩)) w wx)
  case first =>
    go_region_law ((refine step_append_lies _ (by rfl) _ _ _ (by rfl) 0 119 i0 (.pointer none) 1 8 Tryz.underlying116 hi hz0 hz1 hz2 rfl (by decide) (.slice o xs.length cp) xs.length xs (by rfl) hownW ⟨w.heap.size, 0, none⟩ 1 1 [.pointer (some ⟨A, 0, none⟩)] (by rfl) rfl hnews h1c (by decide) h63 hby (Nat.zero_le _) (w.heap.size + 1) (by simp) ?_; intro g cap w4 hown' hgr hat hlt; have hR4 := hback w4 hgr; have e2 : w4.cell? ⟨Rb, 0, none⟩ = some (.slice o xs.length cp) := blockCell hR4 0; have e0 := hbX w4 hgr; have e1 := hbY w4 hgr; have g2 := blockFrozen hR4 0; have HQ := Lib.hid (And.intro hown' (And.intro hgr hat)); clear hown' hgr hat hR4))
    all_goals
      have HE := Lib.hid (longer_end hR hvR HQ.out.1 HQ.out.2.1 HQ.out.2.2)
      clear HQ
      go_wp2_with fail
      go_meet
      exact HE.out
  case rest =>
    obtain ⟨v', hl⟩ := hcut
    obtain ⟨hE, hb⟩ := H.out.part hl rfl
    have hYc : wc.heap[Y]? = w.heap[Y]? := hl.only.block Y hQlt (by rintro (e | e); exact hQR e; exact H.out.vY e)
    have cY : wc.cell? ⟨Y, 0, none⟩ = some (.pointer (some ⟨A, 0, none⟩)) := blockCell (hYc.trans hQ) 0
    have fY := blockFrozen (hYc.trans hQ) 0
    have hYl : Y < wc.heap.size := Nat.lt_of_lt_of_le hQlt hl.only.size
    have HE := Lib.hid hE
    have HB := Lib.hid hb
    clear hE hb hl hownW d0 d1 d2 hback hbX hbY hnews h1c h63 hby c0 c1 c2 f2 hP hQ hR hYc hi hz0 hz1 hz2
    obtain ⟨W, hW⟩ : ∃ W, W = (wc.setCell ⟨Y, 0, none⟩ (.pointer (some ⟨wc.heap.size, 0, none⟩))).alloc (.cells #[.string (Nm.bs []), .string (Nm.bs [])] 120 (0, 0)) := ⟨_, rfl⟩
    rw [← hW] at HE HB
    go_upto_region 3 with (fail)
    rw [show (wc.setCell ⟨Y, 0, none⟩ (.pointer (some ⟨wc.heap.size, 0, none⟩))).alloc (.cells #[.string ⟨#[]⟩, .string ⟨#[]⟩] 120) = W from hW.symm]
    clear hW cY fY hPlt hQlt hRlt hPR hQR hvR hYl
    have h := HE.out
    generalize hA' : wc.heap.size = A' at *
    generalize hxs' : xs ++ [Value.pointer (some ⟨A, 0, none⟩)] = xs' at *
    clear hA'
    obtain ⟨o2, cp2, rfl⟩ := own_len h.ownD
    obtain ⟨i0, hi, hz0, hz1, hz2⟩ := info_rdn
    have hP := h.hZ
    have hQ := h.hX
    have hR := h.hD
    have hvR : (Value.slice o2 ds.length cp2).ownBlock ≠ some D := own_ne h.ownD h.hD (by decide)
    have c0 : W.cell? ⟨Z, 0, none⟩ = some (.pointer (some ⟨D, 0, none⟩)) := blockCell hP 0
    have c1 : W.cell? ⟨X, 0, none⟩ = some (.pointer (some ⟨Rb, 0, none⟩)) := blockCell hQ 0
    have c2 : W.cell? ⟨D, 0, none⟩ = some (.slice o2 ds.length cp2) := blockCell hR 0
    have f2 := blockFrozen hR 0
    have hPlt := blockLt hP
    have hQlt := blockLt hQ
    have hRlt := blockLt hR
    have hPR : Z ≠ D := ne_of_types hP hR (by decide)
    have hQR : X ≠ D := ne_of_types hQ hR (by decide)
    obtain ⟨hownW, d0, d1, d2, hback, hbX, hbY, hnews⟩ := app_facts hP hQ hR h.ownD (own_ne h.ownD h.hZ (by decide)) (h.dX) hvR (W := (W.alloc (.cells #[.pointer (some ⟨Rb, 0, none⟩)] 115)).drew) rfl
    have h1c : ∀ u ∈ ([.pointer (some ⟨Rb, 0, none⟩)] : List Value), u.oneCell' = true := by intro u hu; simp at hu; subst hu; rfl
    have h63 : ds.length + 1 ≤ maxLen := by simp only [maxLen]; omega
    have hby : (ds.length + 1) * 8 ≤ 140737488355328 := by omega
    clear h
    go_cut [] from 18 to 27 (fun wx => LongerSome 115 114 D (.slice o2 ds.length cp2) ds (.pointer (some ⟨Rb, 0, none⟩)) W wx)
    case first =>
      go_region_law ((refine step_append_lies _ (by rfl) _ _ _ (by rfl) 0 115 i0 (.pointer none) 1 8 Tryz.underlying112 hi hz0 hz1 hz2 rfl (by decide) (.slice o2 ds.length cp2) ds.length ds (by rfl) hownW ⟨W.heap.size, 0, none⟩ 1 1 [.pointer (some ⟨Rb, 0, none⟩)] (by rfl) rfl hnews h1c (by decide) h63 hby (Nat.zero_le _) (W.heap.size + 1) (by simp) ?_; intro g cap w4 hown' hgr hat hlt; have hR4 := hback w4 hgr; have e2 : w4.cell? ⟨D, 0, none⟩ = some (.slice o2 ds.length cp2) := blockCell hR4 0; have e0 := hbX w4 hgr; have e1 := hbY w4 hgr; have g2 := blockFrozen hR4 0; have HQ := Lib.hid (And.intro hown' (And.intro hgr hat)); clear hown' hgr hat hR4))
      all_goals
        have HE := Lib.hid (longer_end hR hvR HQ.out.1 HQ.out.2.1 HQ.out.2.2)
        clear HQ
        go_wp2_with fail
        go_meet
        exact HE.out
    case rest =>
      obtain ⟨vd', hl⟩ := hcut
      obtain ⟨hE, hb⟩ := HE.out.last hl rfl
      have hXc : wc.heap[X]? = W.heap[X]? := hl.only.block X hQlt (by rintro (e | e); exact hQR e; exact HE.out.dX e)
      have cX : wc.cell? ⟨X, 0, none⟩ = some (.pointer (some ⟨Rb, 0, none⟩)) := blockCell (hXc.trans hQ) 0
      have fX := blockFrozen (hXc.trans hQ) 0
      have hXl : X < wc.heap.size := Nat.lt_of_lt_of_le hQlt hl.only.size
      have HE2 := Lib.hid hE
      have HB2 := Lib.hid (HB.out.trans hb)
      clear hE hb hl hownW d0 d1 d2 hback hbX hbY hnews h1c h63 hby c0 c1 c2 f2 hP hQ hR hXc hi hz0 hz1 hz2 HE HB H hxs'
      go_wp2
      go_end0
      exact ⟨rfl, HB2.out, _, _, _, _, _, _, _, HE2.out⟩
end Go.Proofs.YtjmahgefijncaaaGreatFmt

