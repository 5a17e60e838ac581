/- backDN: a name in memory as plain data. -/
import Derived.Test.YtjmahgefijncaaaGreatFmtRowsOf
import Derived.Test.YtjmahgefijncaaaGreatFmtSet
import Derived.BigRegion
import Derived.Deep.AppendLies
import Derived.Deep.RegionLaw
import Derived.Deep.DeepCutAuto
namespace Go.Proofs.YtjmahgefijncaaaGreatFmt
open Go Go.RowKit

theorem info_part : ∃ i, Tryz.prog.info? 70 = some i ∧ i.zero = some (.agg #[.string ⟨#[]⟩, .string ⟨#[]⟩]) ∧ i.size = 2 ∧ i.bytes = 32 := info_parts (by kernel_rfl)
theorem info_parts1 : ∃ i, Tryz.prog.info? 71 = some i ∧ i.zero = some (.slice none 0 0) ∧ i.size = 1 ∧ i.bytes = 24 := info_parts (by kernel_rfl)

theorem owns_start (w : World) (B : Nat) (e : TypeId) (sz : Nat) : w.ownsRow B e sz (.slice none 0 0) 0 [] := ⟨by simp, Or.inl ⟨rfl, rfl⟩⟩

/-- The outer round's head. -/
structure BackInv (S : Nat → Prop) (D : Nat) (n : Nm.Name) (w : World) (i : Nat) (vout : Value) (vs : List Value) (wr : World) : Prop where
  own : wr.ownsRow w.heap.size 71 1 vout i vs
  rows : RowsOwn 70 w.heap.size wr vs (n.take i)
  bel : Below w.heap.size w wr
def BackE (S : Nat → Prop) (D : Nat) (n : Nm.Name) (w : World) (i : Nat) (vout : Value) (wr : World) : Prop := ∃ vs, BackInv S D n w i vout vs wr

theorem take_snoc {α : Type} {l : List α} {i : Nat} {x : α} (h : l[i]? = some x) : l.take (i + 1) = l.take i ++ [x] := by
  have hi : i < l.length := by
    rcases Nat.lt_or_ge i l.length with h2 | h2
    · exact h2
    · rw [List.getElem?_eq_none h2] at h; cases h
  rw [List.take_succ_eq_append_getElem hi]
  rw [List.getElem?_eq_getElem hi] at h
  rw [Option.some.inj h]

set_option maxRecDepth 100000 in
set_option maxHeartbeats 16000000 in
theorem back_dn (S : Nat → Prop) (D : Nat) (n : Nm.Name) (w : World) (hD : DnAt w S D n) (hS : ∀ k, S k → k < w.heap.size) (hn : n.length < 1000000000) (hps : ∀ ps ∈ n, ps.length < 1000000000) :
    Calls Tryz.prog 40 #[.pointer (some ⟨D, 0, none⟩)] w fun e w' => ∃ v, e = .returned v ∧ NameOwn 71 70 w.heap.size w' v n ∧ Below w.heap.size w w' := by
  have HD := Lib.hid hD
  obtain ⟨hDS, vd, ds, hDc, hown, hvS, hrd⟩ := hD
  obtain ⟨od, cd, rfl⟩ : ∃ o cp, vd = .slice o ds.length cp := by
    rcases hown.2 with ⟨h, h0⟩ | ⟨g, cap, cur, h, _⟩
    · exact ⟨none, 0, by rw [h, h0]⟩
    · exact ⟨_, _, h⟩
  have hlen : ds.length = n.length := hrd.len
  rw [hlen] at hown hDc
  have cD : w.cell? ⟨D, 0, none⟩ = some (.slice od n.length cd) := blockCell hDc 0
  have HRD := Lib.hid hrd
  have HOWN := Lib.hid hown
  obtain ⟨i1, hi1, hz10, hz11, hz12⟩ := info_part
  obtain ⟨i2, hi2, hz20, hz21, hz22⟩ := info_parts1
  have HLEN := Lib.hid hlen
  clear hrd hown hDc hlen hvS hDS
  go_enter Tryz.func40, Tryz.ntmps40
  go_wp2_with fail
  go_loopw [3, 14] (fun t3 t14 wr => ∃ (i : Nat), t14 = .int .i64 i ∧ i ≤ n.length ∧ Hid (BackE S D n w i t3 wr)) (fun _ t14 _ => n.length - (intOf t14).toNat)
  case atStart => exact ⟨0, rfl, Nat.zero_le _, Lib.hid ⟨[], owns_start _ _ _ _, rfl, Below.refl _ _⟩⟩
  case round =>
    obtain ⟨i, rfl, hi, HE⟩ := hrel
    obtain ⟨vs, hinv⟩ := HE.out
    have HI := Lib.hid hinv
    clear hinv
    have hsz1 := HI.out.bel.size
    obtain ⟨o3, c3, rfl⟩ : ∃ o c, u3 = .slice o i c := by
      rcases HI.out.own.2 with ⟨h, h0⟩ | ⟨g, cap, cur, h, _⟩
      · exact ⟨none, 0, by rw [h, h0]⟩
      · exact ⟨_, _, h⟩
    by_cases hend : i = n.length
    · subst hend
      have t1 : decide ((n.length : Int) < (n.length : Int)) = false := by simp
      have hE : NameOwn 71 70 w.heap.size wr (.slice o3 n.length c3) n ∧ Below w.heap.size w wr := by
        refine ⟨⟨vs, HI.out.own, ?_⟩, HI.out.bel⟩
        have := HI.out.rows
        rw [List.take_length] at this
        exact this
      have HEE := Lib.hid hE
      clear hE
      go_wp2_with fail
      go_ret
      exact ⟨_, rfl, HEE.out.1, HEE.out.2⟩
    · have hlt : i < n.length := by omega
      have t1 : decide ((i : Int) < (n.length : Int)) = true := by simp; omega
      obtain ⟨ps, hp⟩ : ∃ ps, n[i]? = some ps := ⟨_, List.getElem?_eq_getElem hlt⟩
      have hpl : ps.length < 1000000000 := hps ps (List.mem_of_getElem? hp)
      have hrdw : RdnsAt wr S ds n := HRD.out.stays (fun k hk => HI.out.bel.block k (hS k hk)) (fun _ h => h)
      obtain ⟨r, hr, hrS, v, xs, hrc, hown, hvS, hpa⟩ := hrdw.nth hp
      have hownD : wr.ownsRow 0 115 1 (.slice od n.length cd) n.length ds := owns_stays HOWN.out (fun g hg => HI.out.bel.block g (owns_lt HOWN.out g hg))
      obtain ⟨g, c, e1, cr⟩ := owns_cell hownD hr
      injection e1 with e1 _ e1'
      subst e1
      subst e1'
      have hxl : xs.length = ps.length := hpa.len
      obtain ⟨ov, cv, rfl⟩ : ∃ o cp, v = .slice o ps.length cp := by
        rcases hown.2 with ⟨h, h0⟩ | ⟨g, cap, cur, h, _⟩
        · exact ⟨none, 0, by rw [h, ← hxl, h0]⟩
        · exact ⟨_, _, by rw [h, hxl]⟩
      rw [hxl] at hown
      have c0 : wr.cell? ⟨r, 0, none⟩ = some (.slice ov ps.length cv) := blockCell hrc 0
      have HPA := Lib.hid hpa
      have HO := Lib.hid hown
      have HP := Lib.hid hp
      clear hrdw hownD hr hrc hpa hown hvS hrS hp HE hxl hend
      go_wp2_with fail
      obtain ⟨wo, rfl⟩ : ∃ wo : World, wo = wr := ⟨_, rfl⟩
      go_loopw [6, 23] (fun t6 t23 wr => ∃ (j : Nat), t23 = .int .i64 j ∧ j ≤ ps.length ∧ Hid (wr.ownsRow wo.heap.size 70 2 t6 j (cellsOf (ps.take j)) ∧ Below wo.heap.size wo wr)) (fun _ t23 _ => ps.length - (intOf t23).toNat)
      case atStart => exact ⟨0, rfl, Nat.zero_le _, Lib.hid ⟨owns_start _ _ _ _, Below.refl _ _⟩⟩
      case round =>
        clear t1
        obtain ⟨j, rfl, hj, HJ⟩ := hrel
        have hsz2 := HJ.out.2.size
        obtain ⟨o6, c6, rfl⟩ : ∃ o c, u6 = .slice o j c := by
          rcases HJ.out.1.2 with ⟨h, h0⟩ | ⟨g, cap, cur, h, _⟩
          · exact ⟨none, 0, by rw [h, h0]⟩
          · exact ⟨_, _, h⟩
        by_cases hje : j = ps.length
        · subst hje
          have t2 : decide ((ps.length : Int) < (ps.length : Int)) = false := by simp
          have hown6 := HJ.out.1
          rw [List.take_length] at hown6
          have hb2 := HI.out.bel.trans (HJ.out.2.mono hsz1)
          have hout : wr.ownsRow w.heap.size 71 1 (.slice o3 i c3) i vs := owns_stays HI.out.own (fun g hg => HJ.out.2.block g (owns_lt HI.out.own g hg))
          have hrows : RowsOwn 70 w.heap.size wr vs (n.take i) := HI.out.rows.stays (fun g c hg => HJ.out.2.block g (blockLt hg))
          have hin : PartsOwn 70 wo.heap.size wr (.slice o6 ps.length c6) ps := hown6
          have hownW : (wr.alloc (.cells #[(.slice o6 ps.length c6)] 71)).ownsRow w.heap.size 71 1 (.slice o3 i c3) i vs := hout.alloc _
          have hnews : ∀ k u, ([(.slice o6 ps.length c6)] : List Value)[k]? = some u → (wr.alloc (.cells #[(.slice o6 ps.length c6)] 71)).cell? ((⟨wr.heap.size, 0, none⟩ : Addr).add k) = some u := by
            intro k u hk
            exact World.news_of_block (B := wr.heap.size) (heap_alloc_new wr _) k u (by simpa using hk)
          have h1c : ∀ u ∈ ([(.slice o6 ps.length c6)] : List Value), u.oneCell' = true := by
            intro u hu; simp at hu; subst hu
            obtain ⟨o, c, e⟩ := owns_form hin
            rw [e]; rfl
          have h63 : i + 1 ≤ maxLen := by simp only [maxLen]; omega
          have hby : (i + 1) * 24 ≤ 140737488355328 := by omega
          have hbase : w.heap.size ≤ (wr.alloc (.cells #[(.slice o6 ps.length c6)] 71)).heap.size := by simp; omega
          have HIN := Lib.hid hin
          have HB2 := Lib.hid hb2
          have HOUT := Lib.hid hout
          have HROWS := Lib.hid hrows
          clear hin hb2 hout hrows hown6
          go_wp2_with (at_builtin; go_loud (refine wpList_append_lies _ (by rfl) _ _ _ (by rfl) w.heap.size 71 i2 (.slice none 0 0) 1 24 Tryz.underlying26 hi2 hz20 hz21 hz22 rfl (by decide) (.slice o3 i c3) i vs (by rfl) hownW ⟨wr.heap.size, 0, none⟩ 1 1 [(.slice o6 ps.length c6)] (by rfl) rfl hnews h1c (by decide) h63 hby hbase (wr.heap.size + 1) (by simp) ?_))
          intro g' cap w4 hown' hgr hat hlt'
          have hE : BackE S D n w (i + 1) (.slice (some ⟨g', 0, none⟩) (i + 1) cap) w4 := by
            refine ⟨vs ++ [(.slice o6 ps.length c6)], hown', ?_, ?_⟩
            · rw [take_snoc HP.out]
              refine RowsOwn.snoc ((HIN.out.lower hsz1).stays fun k c hk => ?_) (HROWS.out.grown HOUT.out (by decide) hgr)
              rw [hgr.block k (by have := blockLt hk; simp; omega) (fun e => own_ne HOUT.out hk (by decide) e.symm), Below.heap_alloc _ _ _ (blockLt hk)]
            · exact (HB2.out.alloc (by omega) _).grown hgr (by simp; omega) (fun k hk => HOUT.out.lt k hk |>.1)
          have HE := Lib.hid hE
          clear hE hown' hgr hat hownW hnews h1c hby hbase
          go_wp2_with fail
          exact ⟨⟨i + 1, by go_num, by omega, HE⟩, by simp [intOf]; omega⟩
        · have hjl : j < ps.length := by omega
          have t2 : decide ((j : Int) < (ps.length : Int)) = true := by simp; omega
          obtain ⟨p, hp⟩ : ∃ p, ps[j]? = some p := ⟨_, List.getElem?_eq_getElem hjl⟩
          obtain ⟨a, ha, _, hpa⟩ := HPA.out.nth hp
          obtain ⟨gv, c2, e2, ca⟩ := owns_cell HO.out ha
          injection e2 with e2 _ e2'
          subst e2
          subst e2'
          have ca2 := (HJ.out.2.cell (World.block_lt_of_cell? wo ⟨gv, j, none⟩ ca)).trans ca
          have cp := (HJ.out.2.block a (blockLt hpa)).trans hpa
          have cp0 : wr.cell? ⟨a, 0, none⟩ = some (.string (Nm.bs p.1)) := blockCell cp 0
          have cp1 : wr.cell? ⟨a, 1, none⟩ = some (.string (Nm.bs p.2)) := blockCell cp 1
          have hown6 := HJ.out.1
          have hts := take_snoc hp
          obtain ⟨W, hW⟩ : ∃ W, W = (wr.alloc (.cells #[.string (Nm.bs p.1), .string (Nm.bs p.2)] 70)).drew := ⟨_, rfl⟩
          have hownW : W.ownsRow wo.heap.size 70 2 (.slice o6 j c6) j (cellsOf (ps.take j)) := by rw [hW]; exact hown6.alloc _
          have hnews : ∀ k u, ([.string (Nm.bs p.1), .string (Nm.bs p.2)] : List Value)[k]? = some u → W.cell? ((⟨wr.heap.size, 0, none⟩ : Addr).add k) = some u := by
            intro k u hk
            exact World.news_of_block (w := W) (B := wr.heap.size) (by rw [hW]; exact heap_alloc_new wr _) k u (by simpa using hk)
          have h1c : ∀ u ∈ ([.string (Nm.bs p.1), .string (Nm.bs p.2)] : List Value), u.oneCell' = true := by intro u hu; simp at hu; rcases hu with rfl | rfl <;> rfl
          have h63 : j + 1 ≤ maxLen := by simp only [maxLen]; omega
          have hby : (j + 1) * 32 ≤ 140737488355328 := by omega
          have hbase : wo.heap.size ≤ W.heap.size := by rw [hW]; simp; omega
          subst hW
          have HTS := Lib.hid hts
          clear hp hpa ha cp hts ca
          go_wp2_with fail
          go_region_law ((refine step_append_lies _ (by rfl) _ _ _ (by rfl) wo.heap.size 70 i1 (.agg #[.string ⟨#[]⟩, .string ⟨#[]⟩]) 2 32 Tryz.underlying71 hi1 hz10 hz11 hz12 rfl (by decide) _ j (cellsOf (ps.take j)) (by rfl) hownW ⟨wr.heap.size, 0, none⟩ 1 1 [.string (Nm.bs p.1), .string (Nm.bs p.2)] (by rfl) rfl hnews h1c (by decide) h63 hby hbase (wr.heap.size + 1) (by simp) ?_; intro g' cap w4 hown' hgr hat hlt'; have HQ := Lib.hid (And.intro hown' (And.intro hgr hat)); clear hown' hgr hat))
          all_goals
            have hE : w4.ownsRow wo.heap.size 70 2 (.slice (some ⟨g', 0, none⟩) (j + 1) cap) (j + 1) (cellsOf (ps.take (j + 1))) ∧ Below wo.heap.size wo w4 := by
              refine ⟨by rw [HTS.out, cellsOf_snoc]; exact HQ.out.1, ?_⟩
              exact (((HJ.out.2.alloc (by omega) _).drew).grown HQ.out.2.1 (by simp; omega) (fun k hk => hown6.lt k hk |>.1))
            have HE := Lib.hid hE
            clear hE HQ
            go_wp2_with fail
            exact ⟨⟨j + 1, by go_num, by omega, HE⟩, by simp [intOf]; omega⟩
end Go.Proofs.YtjmahgefijncaaaGreatFmt
