/- Equal, EqualFold of names. -/
import Derived.Test.YtjmahgefijncaaaGreatFmtNRdn
import Derived.StillTailTactics
namespace Go.Proofs.YtjmahgefijncaaaGreatFmt
open Go Go.RowKit

theorem DnIn.cell {w : World} {d : Nat} {n : Nm.Name} (h : DnIn w d n) : ∃ o c, w.cell? ⟨d, 0, none⟩ = some (.slice o n.length c) ∧ PtrRdns w (.slice o n.length c) n ∧ d < w.heap.size ∧ n.length ≤ c := by
  obtain ⟨v, h1, o, c, rfl, hc, h2⟩ := h
  exact ⟨o, c, blockCell h1 0, ⟨o, c, rfl, hc, h2⟩, blockLt h1, hc⟩
theorem PtrRdns.nth {w : World} {o : Option Addr} {c k : Nat} {n : Nm.Name} (h : PtrRdns w (.slice o k c) n) {j : Nat} {ps : List Nm.Part} (hj : n[j]? = some ps) : ∃ b off a, o = some ⟨b, off, none⟩ ∧ w.cell? ⟨b, off + j, none⟩ = some (.pointer (some ⟨a, 0, none⟩)) ∧ RdnIn w a ps := by
  obtain ⟨o', c', hv, _, h1⟩ := h
  injection hv with e1 e2 e3
  obtain ⟨b, off, a, h2, h3⟩ := h1 j ps hj
  exact ⟨b, off, a, e1.trans h2, h3⟩
theorem drop_at {α : Type} {l : List α} {i : Nat} {x : α} (h : l[i]? = some x) : l.drop i = x :: l.drop (i + 1) := by
  have hi : i < l.length := by
    rcases Nat.lt_or_ge i l.length with h2 | h2
    · exact h2
    · rw [List.getElem?_eq_none h2] at h; cases h
  rw [List.drop_eq_getElem_cons hi]
  rw [List.getElem?_eq_getElem hi] at h
  rw [Option.some.inj h]

structure EqInv (fold : Bool) (n m : Nm.Name) (w : World) (i : Nat) (wr : World) : Prop where
  le : i ≤ n.length
  rest : NC.namesEq fold (n.drop i) (m.drop i) = NC.namesEq fold n m
  bel : Below w.heap.size w wr

set_option maxRecDepth 100000 in
set_option maxHeartbeats 4000000 in
theorem dn_eq (a b : Nat) (n m : Nm.Name) (w : World) (hA : DnIn w a n) (hB : DnIn w b m) (fn : NameFits n) (fm : NameFits m) :
    Calls Tryz.prog 57 #[.pointer (some ⟨a, 0, none⟩), .pointer (some ⟨b, 0, none⟩)] w fun e w' => e = .returned (.bool (NC.namesEq false n m)) ∧ Below w.heap.size w w' := by
  obtain ⟨oa, ca, cA, hpa, hal, -⟩ := hA.cell
  obtain ⟨ob, cb, cB, hpb, hbl, -⟩ := hB.cell
  by_cases hlen : n.length = m.length
  case neg =>
    have t0 : ((n.length : Int) != (m.length : Int)) = true := by rw [bne_iff_ne]; omega
    rw [NC.namesEq_false hlen]
    clear hA hB hpa hpb fn fm hlen
    go_enter Tryz.func57, Tryz.ntmps57
    go_wp2_with fail
    go_quiet (fail)
    go_wp2_with fail
    go_ret
    exact ⟨rfl, drewN_below w nq⟩
  have t0 : ((n.length : Int) != (m.length : Int)) = false := by simp [hlen]
  have KA := Lib.hid (fun (w' : World) (hb : Below w.heap.size w w') => (hb.cell (p := ⟨a, 0, none⟩) hal).trans cA)
  have KB := Lib.hid (fun (w' : World) (hb : Below w.heap.size w w') => (hb.cell (p := ⟨b, 0, none⟩) hbl).trans cB)
  have HN := Lib.hid hpa
  have HM := Lib.hid hpb
  have FN := Lib.hid fn.2
  have FM := Lib.hid fm.2
  have hn9 := fn.1
  clear hA hB hpa hpb fn fm
  go_enter Tryz.func57, Tryz.ntmps57
  go_wp2_with fail
  go_quiet (fail)
  have hb0 := drewN_below w nq
  have c1 := KA.out _ hb0
  have c2 := KB.out _ hb0
  have HB0 := Lib.hid hb0
  clear cA cB hb0
  generalize w.drewN nq = w1 at *
  go_wp2_with fail
  go_loopw [22] (fun t22 wr => ∃ (i : Nat), t22 = .int .i64 i ∧ Hid (EqInv false n m w i wr)) (fun t22 _ => n.length - (intOf t22).toNat)
  case atStart => exact ⟨0, rfl, Lib.hid ⟨Nat.zero_le _, rfl, HB0.out⟩⟩
  case round =>
    clear HB0 c1 c2
    obtain ⟨i, rfl, HI⟩ := hrel
    have hle := HI.out.le
    have hbz := HI.out.bel.size
    by_cases hend : i = n.length
    · have t1 : decide ((i : Int) < (n.length : Int)) = false := by simp; omega
      have hres : NC.namesEq false n m = true := by
        rw [← HI.out.rest, hend, List.drop_length, List.drop_of_length_le (by omega)]; rfl
      have HRS := Lib.hid hres
      clear hres
      go_wp2_with fail
      go_ret
      exact ⟨by rw [HRS.out]; rfl, HI.out.bel⟩
    · have hlt : i < n.length := by omega
      have hltm : i < m.length := by omega
      have t1 : decide ((i : Int) < (n.length : Int)) = true := by simp; omega
      obtain ⟨ps, hp⟩ : ∃ ps, n[i]? = some ps := ⟨_, List.getElem?_eq_getElem hlt⟩
      obtain ⟨qs, hq⟩ : ∃ qs, m[i]? = some qs := ⟨_, List.getElem?_eq_getElem hltm⟩
      obtain ⟨ba, fa, aa, rfl, ca0, hra⟩ := HN.out.nth hp
      obtain ⟨bb, fb, ab, rfl, cb0, hrb⟩ := HM.out.nth hq
      have k1 : wr.cell? ⟨ba, fa + i, none⟩ = some (.pointer (some ⟨aa, 0, none⟩)) := (HI.out.bel.cell (World.block_lt_of_cell? w ⟨ba, fa + i, none⟩ ca0)).trans ca0
      have k2 := (HI.out.bel.cell (World.block_lt_of_cell? w _ cb0)).trans cb0
      have k3 := KA.out _ HI.out.bel
      have k4 := KB.out _ HI.out.bel
      have i0 : (0 : Int) ≤ (i : Int) := by omega
      have i1 : (i : Int) < (n.length : Int) := by omega
      have i2 : (i : Int) < (m.length : Int) := by omega
      have HC := Lib.hid (fun w' (hb : Below w.heap.size w w') => rdn_eq aa ab ps qs w' (hra.stays hb) (hrb.stays hb) (FN.out ps (List.mem_of_getElem? hp)) (FM.out qs (List.mem_of_getElem? hq)))
      have hrest := HI.out.rest
      rw [drop_at hp, drop_at hq, NC.namesEq] at hrest
      have HREST := Lib.hid hrest
      clear hrest ca0 cb0 hra hrb hp hq hend
      cases hr : NC.rdnEq false ps qs with
      | false =>
        rw [hr] at HC HREST
        clear hr
        go_wp2_with fail
        go_still_tail 14, (by kernel_rfl)
        go_wp2_with fail
        refine (HC.out _ (HI.out.bel.trans ((drewN_below wr 1).mono hbz))).mono ?_
        rintro e w2 ⟨rfl, hb2⟩
        have HE := Lib.hid ((HI.out.bel.trans ((drewN_below wr 1).mono hbz)).trans (hb2.mono hbz))
        clear hb2
        go_wp2_with fail
        go_ret
        exact ⟨by rw [← HREST.out]; rfl, HE.out⟩
      | true =>
        rw [hr] at HC HREST
        clear hr
        go_wp2_with fail
        go_still_tail 14, (by kernel_rfl)
        go_wp2_with fail
        refine (HC.out _ (HI.out.bel.trans ((drewN_below wr 1).mono hbz))).mono ?_
        rintro e w2 ⟨rfl, hb2⟩
        have HE := Lib.hid ((HI.out.bel.trans ((drewN_below wr 1).mono hbz)).trans (hb2.mono hbz))
        clear hb2
        go_wp2_with fail
        exact ⟨⟨i + 1, by go_num, Lib.hid ⟨hlt, HREST.out, HE.out⟩⟩, by simp [intOf]; omega⟩

set_option maxRecDepth 100000 in
set_option maxHeartbeats 4000000 in
theorem dn_eq_fold (a b : Nat) (n m : Nm.Name) (w : World) (hA : DnIn w a n) (hB : DnIn w b m) (fn : NameFits n) (fm : NameFits m) :
    Calls Tryz.prog 58 #[.pointer (some ⟨a, 0, none⟩), .pointer (some ⟨b, 0, none⟩)] w fun e w' => e = .returned (.bool (NC.namesEq true n m)) ∧ Below w.heap.size w w' := by
  obtain ⟨oa, ca, cA, hpa, hal, -⟩ := hA.cell
  obtain ⟨ob, cb, cB, hpb, hbl, -⟩ := hB.cell
  by_cases hlen : n.length = m.length
  case neg =>
    have t0 : ((n.length : Int) != (m.length : Int)) = true := by rw [bne_iff_ne]; omega
    rw [NC.namesEq_false hlen]
    clear hA hB hpa hpb fn fm hlen
    go_enter Tryz.func58, Tryz.ntmps58
    go_wp2_with fail
    go_quiet (fail)
    go_wp2_with fail
    go_ret
    exact ⟨rfl, drewN_below w nq⟩
  have t0 : ((n.length : Int) != (m.length : Int)) = false := by simp [hlen]
  have KA := Lib.hid (fun (w' : World) (hb : Below w.heap.size w w') => (hb.cell (p := ⟨a, 0, none⟩) hal).trans cA)
  have KB := Lib.hid (fun (w' : World) (hb : Below w.heap.size w w') => (hb.cell (p := ⟨b, 0, none⟩) hbl).trans cB)
  have HN := Lib.hid hpa
  have HM := Lib.hid hpb
  have FN := Lib.hid fn.2
  have FM := Lib.hid fm.2
  have hn9 := fn.1
  clear hA hB hpa hpb fn fm
  go_enter Tryz.func58, Tryz.ntmps58
  go_wp2_with fail
  go_quiet (fail)
  have hb0 := drewN_below w nq
  have c1 := KA.out _ hb0
  have c2 := KB.out _ hb0
  have HB0 := Lib.hid hb0
  clear cA cB hb0
  generalize w.drewN nq = w1 at *
  go_wp2_with fail
  go_loopw [22] (fun t22 wr => ∃ (i : Nat), t22 = .int .i64 i ∧ Hid (EqInv true n m w i wr)) (fun t22 _ => n.length - (intOf t22).toNat)
  case atStart => exact ⟨0, rfl, Lib.hid ⟨Nat.zero_le _, rfl, HB0.out⟩⟩
  case round =>
    clear HB0 c1 c2
    obtain ⟨i, rfl, HI⟩ := hrel
    have hle := HI.out.le
    have hbz := HI.out.bel.size
    by_cases hend : i = n.length
    · have t1 : decide ((i : Int) < (n.length : Int)) = false := by simp; omega
      have hres : NC.namesEq true n m = true := by
        rw [← HI.out.rest, hend, List.drop_length, List.drop_of_length_le (by omega)]; rfl
      have HRS := Lib.hid hres
      clear hres
      go_wp2_with fail
      go_ret
      exact ⟨by rw [HRS.out]; rfl, HI.out.bel⟩
    · have hlt : i < n.length := by omega
      have hltm : i < m.length := by omega
      have t1 : decide ((i : Int) < (n.length : Int)) = true := by simp; omega
      obtain ⟨ps, hp⟩ : ∃ ps, n[i]? = some ps := ⟨_, List.getElem?_eq_getElem hlt⟩
      obtain ⟨qs, hq⟩ : ∃ qs, m[i]? = some qs := ⟨_, List.getElem?_eq_getElem hltm⟩
      obtain ⟨ba, fa, aa, rfl, ca0, hra⟩ := HN.out.nth hp
      obtain ⟨bb, fb, ab, rfl, cb0, hrb⟩ := HM.out.nth hq
      have k1 : wr.cell? ⟨ba, fa + i, none⟩ = some (.pointer (some ⟨aa, 0, none⟩)) := (HI.out.bel.cell (World.block_lt_of_cell? w ⟨ba, fa + i, none⟩ ca0)).trans ca0
      have k2 := (HI.out.bel.cell (World.block_lt_of_cell? w _ cb0)).trans cb0
      have k3 := KA.out _ HI.out.bel
      have k4 := KB.out _ HI.out.bel
      have i0 : (0 : Int) ≤ (i : Int) := by omega
      have i1 : (i : Int) < (n.length : Int) := by omega
      have i2 : (i : Int) < (m.length : Int) := by omega
      have HC := Lib.hid (fun w' (hb : Below w.heap.size w w') => rdn_eq_fold aa ab ps qs w' (hra.stays hb) (hrb.stays hb) (FN.out ps (List.mem_of_getElem? hp)) (FM.out qs (List.mem_of_getElem? hq)))
      have hrest := HI.out.rest
      rw [drop_at hp, drop_at hq, NC.namesEq] at hrest
      have HREST := Lib.hid hrest
      clear hrest ca0 cb0 hra hrb hp hq hend
      cases hr : NC.rdnEq true ps qs with
      | false =>
        rw [hr] at HC HREST
        clear hr
        go_wp2_with fail
        go_still_tail 14, (by kernel_rfl)
        go_wp2_with fail
        refine (HC.out _ (HI.out.bel.trans ((drewN_below wr 1).mono hbz))).mono ?_
        rintro e w2 ⟨rfl, hb2⟩
        have HE := Lib.hid ((HI.out.bel.trans ((drewN_below wr 1).mono hbz)).trans (hb2.mono hbz))
        clear hb2
        go_wp2_with fail
        go_ret
        exact ⟨by rw [← HREST.out]; rfl, HE.out⟩
      | true =>
        rw [hr] at HC HREST
        clear hr
        go_wp2_with fail
        go_still_tail 14, (by kernel_rfl)
        go_wp2_with fail
        refine (HC.out _ (HI.out.bel.trans ((drewN_below wr 1).mono hbz))).mono ?_
        rintro e w2 ⟨rfl, hb2⟩
        have HE := Lib.hid ((HI.out.bel.trans ((drewN_below wr 1).mono hbz)).trans (hb2.mono hbz))
        clear hb2
        go_wp2_with fail
        exact ⟨⟨i + 1, by go_num, Lib.hid ⟨hlt, HREST.out, HE.out⟩⟩, by simp [intOf]; omega⟩

end Go.Proofs.YtjmahgefijncaaaGreatFmt
