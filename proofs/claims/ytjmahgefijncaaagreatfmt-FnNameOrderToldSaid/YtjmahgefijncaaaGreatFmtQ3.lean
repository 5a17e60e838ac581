/- nameOf: plain data of one package as that of another. -/
import Derived.Test.YtjmahgefijncaaaGreatFmtQ2
import Derived.Deep.QuietTactic
import Derived.BigQuiet
set_option linter.unusedVariables false
set_option linter.unusedSimpArgs false
namespace Go.Proofs.YtjmahgefijncaaaGreatFmt
open Go Go.RowKit

theorem info_spart : ∃ i, Tryz.prog.info? 78 = some i ∧ i.zero = some (.agg #[.string ⟨#[]⟩, .string ⟨#[]⟩]) ∧ i.size = 2 ∧ i.bytes = 32 := info_parts (by kernel_rfl)
theorem info_sparts1 : ∃ i, Tryz.prog.info? 77 = some i ∧ i.zero = some (.slice none 0 0) ∧ i.size = 1 ∧ i.bytes = 24 := info_parts (by kernel_rfl)

/-- The outer round's head. -/
structure OfInv (n : Nm.Name) (w : World) (i : Nat) (vout : Value) (vs : List Value) (wr : World) : Prop where
  own : wr.ownsRow w.heap.size 77 1 vout i vs
  rows : RowsOwn 78 w.heap.size wr vs (n.take i)
  bel : Below w.heap.size w wr
def OfE (n : Nm.Name) (w : World) (i : Nat) (vout : Value) (wr : World) : Prop := ∃ vs, OfInv n w i vout vs wr

set_option maxRecDepth 100000 in
set_option maxHeartbeats 16000000 in
theorem name_of (v : Value) (n : Nm.Name) (w : World) (hN : NameIn w v n) (hn : n.length < 1000000000) (hps : ∀ ps ∈ n, ps.length < 1000000000) :
    Calls Tryz.prog 15 #[v] w fun e w' => ∃ v', e = .returned v' ∧ NameOwn 77 78 w.heap.size w' v' n ∧ Below w.heap.size w w' := by
  have HN := Lib.hid hN
  obtain ⟨od, cd, rfl, _⟩ := hN
  obtain ⟨i1, hi1, hz10, hz11, hz12⟩ := info_spart
  obtain ⟨i2, hi2, hz20, hz21, hz22⟩ := info_sparts1
  go_enter Tryz.func15, Tryz.ntmps15
  go_wp2_with fail
  go_loopw [3, 11] (fun t3 t11 wr => ∃ (i : Nat), t11 = .int .i64 i ∧ i ≤ n.length ∧ Hid (OfE n w i t3 wr)) (fun _ t11 _ => n.length - (intOf t11).toNat)
  case atStart => exact ⟨0, rfl, Nat.zero_le _, Lib.hid ⟨[], owns_start _ _ _ _, rfl, Below.refl _ _⟩⟩
  case round =>
    obtain ⟨i, rfl, hi, HE⟩ := hrel
    obtain ⟨vs, hinv⟩ := HE.out
    have HI := Lib.hid hinv
    clear hinv
    have hsz1 := HI.out.bel.size
    obtain ⟨o3, c3, rfl⟩ : ∃ o c, u3 = .slice o i c := by
      rcases HI.out.own.2 with ⟨h, h0⟩ | ⟨g, cap, cur, h, _⟩
      · exact ⟨none, 0, by rw [h, h0]⟩
      · exact ⟨_, _, h⟩
    by_cases hend : i = n.length
    · subst hend
      have t1 : decide ((n.length : Int) < (n.length : Int)) = false := by simp
      have hE : NameOwn 77 78 w.heap.size wr (.slice o3 n.length c3) n ∧ Below w.heap.size w wr := by
        refine ⟨⟨vs, HI.out.own, ?_⟩, HI.out.bel⟩
        have := HI.out.rows
        rw [List.take_length] at this
        exact this
      have HEE := Lib.hid hE
      clear hE
      go_wp2_with fail
      go_ret
      exact ⟨_, rfl, HEE.out.1, HEE.out.2⟩
    · have hlt : i < n.length := by omega
      have t1 : decide ((i : Int) < (n.length : Int)) = true := by simp; omega
      obtain ⟨ps, hp⟩ : ∃ ps, n[i]? = some ps := ⟨_, List.getElem?_eq_getElem hlt⟩
      have hpl : ps.length < 1000000000 := hps ps (List.mem_of_getElem? hp)
      obtain ⟨od', cd', e0, hrd⟩ := HN.out.stays HI.out.bel
      injection e0 with e0 _ e0'
      subst e0
      subst e0'
      obtain ⟨g, off, u, rfl, cr, hpa⟩ := hrd i ps hp
      obtain ⟨ov, cv, rfl, hpc⟩ := hpa
      have HPC := Lib.hid hpc
      have HP := Lib.hid hp
      clear hrd hpc hp HE hend
      go_wp2_with fail
      obtain ⟨wo, rfl⟩ : ∃ wo : World, wo = wr := ⟨_, rfl⟩
      go_loopw [6, 17] (fun t6 t17 wr => ∃ (j : Nat), t17 = .int .i64 j ∧ j ≤ ps.length ∧ Hid (wr.ownsRow wo.heap.size 78 2 t6 j (cellsOf (ps.take j)) ∧ Below wo.heap.size wo wr)) (fun _ t17 _ => ps.length - (intOf t17).toNat)
      case atStart => exact ⟨0, rfl, Nat.zero_le _, Lib.hid ⟨owns_start _ _ _ _, Below.refl _ _⟩⟩
      case round =>
        clear t1
        obtain ⟨j, rfl, hj, HJ⟩ := hrel
        have hsz2 := HJ.out.2.size
        obtain ⟨o6, c6, rfl⟩ : ∃ o c, u6 = .slice o j c := by
          rcases HJ.out.1.2 with ⟨h, h0⟩ | ⟨g, cap, cur, h, _⟩
          · exact ⟨none, 0, by rw [h, h0]⟩
          · exact ⟨_, _, h⟩
        by_cases hje : j = ps.length
        · subst hje
          have t2 : decide ((ps.length : Int) < (ps.length : Int)) = false := by simp
          have hown6 := HJ.out.1
          rw [List.take_length] at hown6
          have hb2 := HI.out.bel.trans (HJ.out.2.mono hsz1)
          have hout : wr.ownsRow w.heap.size 77 1 (.slice o3 i c3) i vs := owns_stays HI.out.own (fun g hg => HJ.out.2.block g (owns_lt HI.out.own g hg))
          have hrows : RowsOwn 78 w.heap.size wr vs (n.take i) := HI.out.rows.stays (fun g c hg => HJ.out.2.block g (blockLt hg))
          have hin : PartsOwn 78 wo.heap.size wr (.slice o6 ps.length c6) ps := hown6
          have hownW : (wr.alloc (.cells #[(.slice o6 ps.length c6)] 77)).ownsRow w.heap.size 77 1 (.slice o3 i c3) i vs := hout.alloc _
          have hnews : ∀ k u, ([(.slice o6 ps.length c6)] : List Value)[k]? = some u → (wr.alloc (.cells #[(.slice o6 ps.length c6)] 77)).cell? ((⟨wr.heap.size, 0, none⟩ : Addr).add k) = some u := by
            intro k u hk
            exact World.news_of_block (B := wr.heap.size) (heap_alloc_new wr _) k u (by simpa using hk)
          have h1c : ∀ u ∈ ([(.slice o6 ps.length c6)] : List Value), u.oneCell' = true := by
            intro u hu; simp at hu; subst hu
            obtain ⟨o, c, e⟩ := owns_form hin
            rw [e]; rfl
          have h63 : i + 1 ≤ maxLen := by simp only [maxLen]; omega
          have hby : (i + 1) * 24 ≤ 140737488355328 := by omega
          have hbase : w.heap.size ≤ (wr.alloc (.cells #[(.slice o6 ps.length c6)] 77)).heap.size := by simp; omega
          have HIN := Lib.hid hin
          have HB2 := Lib.hid hb2
          have HOUT := Lib.hid hout
          have HROWS := Lib.hid hrows
          clear hin hb2 hout hrows hown6
          go_wp2_with (at_builtin; go_loud (refine wpList_append_lies _ (by rfl) _ _ _ (by rfl) w.heap.size 77 i2 (.slice none 0 0) 1 24 Tryz.underlying22 hi2 hz20 hz21 hz22 rfl (by decide) (.slice o3 i c3) i vs (by rfl) hownW ⟨wr.heap.size, 0, none⟩ 1 1 [(.slice o6 ps.length c6)] (by rfl) rfl hnews h1c (by decide) h63 hby hbase (wr.heap.size + 1) (by simp) ?_))
          intro g' cap w4 hown' hgr hat hlt'
          have hE : OfE n w (i + 1) (.slice (some ⟨g', 0, none⟩) (i + 1) cap) w4 := by
            refine ⟨vs ++ [(.slice o6 ps.length c6)], hown', ?_, ?_⟩
            · rw [take_snoc HP.out]
              refine RowsOwn.snoc ((HIN.out.lower hsz1).stays fun k c hk => ?_) (HROWS.out.grown HOUT.out (by decide) hgr)
              rw [hgr.block k (by have := blockLt hk; simp; omega) (fun e => own_ne HOUT.out hk (by decide) e.symm), Below.heap_alloc _ _ _ (blockLt hk)]
            · exact (HB2.out.alloc (by omega) _).grown hgr (by simp; omega) (fun k hk => HOUT.out.lt k hk |>.1)
          have HE := Lib.hid hE
          clear hE hown' hgr hat hownW hnews h1c hby hbase
          go_wp2_with fail
          exact ⟨⟨i + 1, by go_num, by omega, HE⟩, by simp [intOf]; omega⟩
        · have hjl : j < ps.length := by omega
          have t2 : decide ((j : Int) < (ps.length : Int)) = true := by simp; omega
          obtain ⟨p, hp⟩ : ∃ p, ps[j]? = some p := ⟨_, List.getElem?_eq_getElem hjl⟩
          obtain ⟨gv, offv, rfl, ca, cb⟩ := HPC.out j p hp
          have cp0 : wr.cell? ⟨gv, offv + j * 2, none⟩ = some (.string (Nm.bs p.1)) := (HJ.out.2.cell (World.block_lt_of_cell? wo ⟨gv, offv + j * 2, none⟩ ca)).trans ca
          have cp1 : wr.cell? ⟨gv, offv + j * 2 + 1, none⟩ = some (.string (Nm.bs p.2)) := (HJ.out.2.cell (World.block_lt_of_cell? wo ⟨gv, offv + j * 2 + 1, none⟩ cb)).trans cb
          have hown6 := HJ.out.1
          have hts := take_snoc hp
          obtain ⟨W, hW⟩ : ∃ W, W = (wr.alloc (.cells #[.string (Nm.bs p.1), .string (Nm.bs p.2)] 70)).alloc (.cells #[.string (Nm.bs p.1), .string (Nm.bs p.2)] 78) := ⟨_, rfl⟩
          have hownW : W.ownsRow wo.heap.size 78 2 (.slice o6 j c6) j (cellsOf (ps.take j)) := by rw [hW]; exact (hown6.alloc _).alloc _
          have hnews : ∀ k u, ([.string (Nm.bs p.1), .string (Nm.bs p.2)] : List Value)[k]? = some u → W.cell? ((⟨wr.heap.size + 1, 0, none⟩ : Addr).add k) = some u := by
            intro k u hk
            exact World.news_of_block (w := W) (B := wr.heap.size + 1) (by rw [hW]; have := heap_alloc_new (wr.alloc (.cells #[.string (Nm.bs p.1), .string (Nm.bs p.2)] 70)) (.cells #[.string (Nm.bs p.1), .string (Nm.bs p.2)] 78); simpa using this) k u (by simpa using hk)
          have h1c : ∀ u ∈ ([.string (Nm.bs p.1), .string (Nm.bs p.2)] : List Value), u.oneCell' = true := by intro u hu; simp at hu; rcases hu with rfl | rfl <;> rfl
          have h63 : j + 1 ≤ maxLen := by simp only [maxLen]; omega
          have hby : (j + 1) * 32 ≤ 140737488355328 := by omega
          have hbase : wo.heap.size ≤ W.heap.size := by rw [hW]; simp; omega
          subst hW
          have HTS := Lib.hid hts
          clear hp hts ca cb
          go_wp2_with (at_builtin; go_loud (refine wpList_append_lies _ (by rfl) _ _ _ (by rfl) wo.heap.size 78 i1 (.agg #[.string ⟨#[]⟩, .string ⟨#[]⟩]) 2 32 Tryz.underlying77 hi1 hz10 hz11 hz12 rfl (by decide) _ j (cellsOf (ps.take j)) (by rfl) hownW ⟨wr.heap.size + 1, 0, none⟩ 1 1 [.string (Nm.bs p.1), .string (Nm.bs p.2)] (by rfl) rfl hnews h1c (by decide) h63 hby hbase (wr.heap.size + 1 + 1) (by simp) ?_))
          intro g' cap w4 hown' hgr hat hlt'
          have hE : w4.ownsRow wo.heap.size 78 2 (.slice (some ⟨g', 0, none⟩) (j + 1) cap) (j + 1) (cellsOf (ps.take (j + 1))) ∧ Below wo.heap.size wo w4 := by
            refine ⟨by rw [HTS.out, cellsOf_snoc]; exact hown', ?_⟩
            exact (((HJ.out.2.alloc (by omega) _).alloc (by simp; omega) _).grown hgr (by simp; omega) (fun k hk => hown6.lt k hk |>.1))
          have HE := Lib.hid hE
          clear hE hown' hgr hat hownW hnews h1c hby hbase
          go_wp2_with fail
          exact ⟨⟨j + 1, by go_num, by omega, HE⟩, by simp [intOf]; omega⟩
end Go.Proofs.YtjmahgefijncaaaGreatFmt

/- NameSame, at the same names. -/
namespace Go.Proofs.YtjmahgefijncaaaGreatFmt
open Go Go.RowKit

set_option maxRecDepth 100000 in
set_option maxHeartbeats 8000000 in
theorem name_same (va vb : Value) (n : Nm.Name) (w : World) (hA : NameIn w va n) (hB : NameIn w vb n) (hn : n.length < 1000000000) (hps : ∀ ps ∈ n, ps.length < 1000000000) :
    Calls Tryz.prog 14 #[va, vb] w fun e w' => e = .returned (.bool true) ∧ Below w.heap.size w w' := by
  obtain ⟨oa, ca, rfl, hrA⟩ := hA
  obtain ⟨ob, cb, rfl, hrB⟩ := hB
  have HA := Lib.hid hrA
  have HB := Lib.hid hrB
  clear hrA hrB
  have t0 : ((n.length : Int) != (n.length : Int)) = false := by simp
  go_enter Tryz.func14, Tryz.ntmps14
  go_wp2_with fail
  go_loopw [14] (fun t14 wr => ∃ (i : Nat), t14 = .int .i64 i ∧ i ≤ n.length ∧ Hid (Below w.heap.size w wr)) (fun t14 _ => n.length - (intOf t14).toNat)
  case atStart => exact ⟨0, rfl, Nat.zero_le _, Lib.hid (Below.refl _ _)⟩
  case round =>
    obtain ⟨i, rfl, hi, HL⟩ := hrel
    by_cases hend : i = n.length
    · subst hend
      have t1 : decide ((n.length : Int) < (n.length : Int)) = false := by simp
      go_wp2_with fail
      go_ret
      exact ⟨rfl, HL.out⟩
    · have hlt : i < n.length := by omega
      have t1 : decide ((i : Int) < (n.length : Int)) = true := by simp; omega
      obtain ⟨ps, hp⟩ : ∃ ps, n[i]? = some ps := ⟨_, List.getElem?_eq_getElem hlt⟩
      have hpl : ps.length < 1000000000 := hps ps (List.mem_of_getElem? hp)
      obtain ⟨ga, offa, ua, rfl, cra, hpa⟩ := HA.out i ps hp
      obtain ⟨gb, offb, ub, rfl, crb, hpb⟩ := HB.out i ps hp
      obtain ⟨oua, cua, rfl, hpca⟩ := hpa
      obtain ⟨oub, cub, rfl, hpcb⟩ := hpb
      have t2 : ((ps.length : Int) != (ps.length : Int)) = false := by simp
      have HPA := Lib.hid hpca
      have HPB := Lib.hid hpcb
      have HCA := Lib.hid cra
      have HCB := Lib.hid crb
      have i0 : (0 : Int) ≤ (i : Int) := by omega
      have i1 : (i : Int) < (n.length : Int) := by omega
      have ka : wr.cell? ⟨ga, offa + i, none⟩ = some (.slice oua ps.length cua) := (HL.out.cell (World.block_lt_of_cell? w ⟨ga, offa + i, none⟩ cra)).trans cra
      have kb : wr.cell? ⟨gb, offb + i, none⟩ = some (.slice oub ps.length cub) := (HL.out.cell (World.block_lt_of_cell? w ⟨gb, offb + i, none⟩ crb)).trans crb
      clear cra crb hpca hpcb hp hend
      go_wp2_with fail
      go_quiet (fail)
      go_wp2_with fail
      have HL2 : Hid (Below w.heap.size w (wr.drewN nq)) := Lib.hid ⟨HL.out.os, HL.out.tape, HL.out.output, HL.out.size, HL.out.block⟩
      clear HL ka kb
      generalize wr.drewN nq = wo at *
      go_loopw [33] (fun t33 wr => ∃ (j : Nat), t33 = .int .i64 j ∧ j ≤ ps.length ∧ Hid (Below w.heap.size w wr)) (fun t33 _ => ps.length - (intOf t33).toNat)
      case atStart => exact ⟨0, rfl, Nat.zero_le _, HL2⟩
      case round =>
        clear t1 HL2
        obtain ⟨j, rfl, hj, HL⟩ := hrel
        by_cases hje : j = ps.length
        · subst hje
          have t3 : decide ((ps.length : Int) < (ps.length : Int)) = false := by simp
          go_wp2_with fail
          exact ⟨⟨i + 1, by go_num, by omega, HL⟩, by simp [intOf]; omega⟩
        · have hjl : j < ps.length := by omega
          have t3 : decide ((j : Int) < (ps.length : Int)) = true := by simp; omega
          obtain ⟨p, hp⟩ : ∃ p, ps[j]? = some p := ⟨_, List.getElem?_eq_getElem hjl⟩
          obtain ⟨ha, fa, rfl, ca1, ca2⟩ := HPA.out j p hp
          obtain ⟨hb, fb, rfl, cb1, cb2⟩ := HPB.out j p hp
          have j0 : (0 : Int) ≤ (j : Int) := by omega
          have j1 : (j : Int) < (ps.length : Int) := by omega
          have mv : ∀ {b o : Nat} {u : Value}, w.cell? ⟨b, o, none⟩ = some u → wr.cell? ⟨b, o, none⟩ = some u := fun {b o u} h => (HL.out.cell (World.block_lt_of_cell? w ⟨b, o, none⟩ h)).trans h
          have ka := mv HCA.out
          have kb := mv HCB.out
          have k1 := mv ca1
          have k2 := mv ca2
          have k3 := mv cb1
          have k4 := mv cb2
          clear mv ca1 ca2 cb1 cb2 hp
          go_wp2_with fail
          go_quiet (fail)
          go_wp2_with fail
          exact ⟨⟨j + 1, by go_num, by omega, Lib.hid ⟨HL.out.os, HL.out.tape, HL.out.output, HL.out.size, HL.out.block⟩⟩, by simp [intOf]; omega⟩
end Go.Proofs.YtjmahgefijncaaaGreatFmt

