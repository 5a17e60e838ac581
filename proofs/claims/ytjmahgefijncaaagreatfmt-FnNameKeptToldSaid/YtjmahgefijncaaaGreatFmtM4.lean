/- nameOf: plain data of one package as that of another. -/
import Derived.Test.YtjmahgefijncaaaGreatFmtJ3
import Derived.Deep.QuietTactic
import Derived.BigQuiet
import Derived.Test.YtjmahgefijncaaaGreatFmtJ32
import Derived.Test.YtjmahgefijncaaaGreatFmtJ43
import Derived.Test.YtjmahgefijncaaaGreatFmtM1
import Derived.Test.YtjmahgefijncaaaGreatFmtJ4
import Derived.Deep.OwnRows
import Derived.BigRegion
import Derived.Deep.RegionLaw
import Derived.Test.YtjmahgefijncaaaGreatFmtJ35
set_option linter.unusedVariables false
set_option linter.unusedSimpArgs false
namespace Go.Proofs.YtjmahgefijncaaaGreatFmt
open Go Go.RowKit

theorem info_spart : ∃ i, Tryz.prog.info? 78 = some i ∧ i.zero = some (.agg #[.string ⟨#[]⟩, .string ⟨#[]⟩]) ∧ i.size = 2 ∧ i.bytes = 32 := info_parts (by kernel_rfl)
theorem info_sparts1 : ∃ i, Tryz.prog.info? 77 = some i ∧ i.zero = some (.slice none 0 0) ∧ i.size = 1 ∧ i.bytes = 24 := info_parts (by kernel_rfl)

/-- The outer round's head. -/
structure OfInv (n : Nm.Name) (w : World) (i : Nat) (vout : Value) (vs : List Value) (wr : World) : Prop where
  own : wr.ownsRow w.heap.size 77 1 vout i vs
  rows : RowsOwn 78 w.heap.size wr vs (n.take i)
  bel : Below w.heap.size w wr
def OfE (n : Nm.Name) (w : World) (i : Nat) (vout : Value) (wr : World) : Prop := ∃ vs, OfInv n w i vout vs wr

set_option maxRecDepth 100000 in
set_option maxHeartbeats 16000000 in
theorem name_of (v : Value) (n : Nm.Name) (w : World) (hN : NameIn w v n) (hn : n.length < 1000000000) (hps : ∀ ps ∈ n, ps.length < 1000000000) :
    Calls Tryz.prog 15 #[v] w fun e w' => ∃ v', e = .returned v' ∧ NameOwn 77 78 w.heap.size w' v' n ∧ Below w.heap.size w w' := by
  have HN := Lib.hid hN
  obtain ⟨od, cd, rfl, _⟩ := hN
  obtain ⟨i1, hi1, hz10, hz11, hz12⟩ := info_spart
  obtain ⟨i2, hi2, hz20, hz21, hz22⟩ := info_sparts1
  go_enter Tryz.func15, Tryz.ntmps15
  go_wp2_with fail
  go_loopw [3, 11] (fun t3 t11 wr => ∃ (i : Nat), t11 = .int .i64 i ∧ i ≤ n.length ∧ Hid (OfE n w i t3 wr)) (fun _ t11 _ => n.length - (intOf t11).toNat)
  case atStart => exact ⟨0, rfl, Nat.zero_le _, Lib.hid ⟨[], owns_start _ _ _ _, rfl, Below.refl _ _⟩⟩
  case round =>
    obtain ⟨i, rfl, hi, HE⟩ := hrel
    obtain ⟨vs, hinv⟩ := HE.out
    have HI := Lib.hid hinv
    clear hinv
    have hsz1 := HI.out.bel.size
    obtain ⟨o3, c3, rfl⟩ : ∃ o c, u3 = .slice o i c := by
      rcases HI.out.own.2 with ⟨h, h0⟩ | ⟨g, cap, cur, h, _⟩
      · exact ⟨none, 0, by rw [h, h0]⟩
      · exact ⟨_, _, h⟩
    by_cases hend : i = n.length
    · subst hend
      have t1 : decide ((n.length : Int) < (n.length : Int)) = false := by simp
      have hE : NameOwn 77 78 w.heap.size wr (.slice o3 n.length c3) n ∧ Below w.heap.size w wr := by
        refine ⟨⟨vs, HI.out.own, ?_⟩, HI.out.bel⟩
        have := HI.out.rows
        rw [List.take_length] at this
        exact this
      have HEE := Lib.hid hE
      clear hE
      go_wp2_with fail
      go_ret
      exact ⟨_, rfl, HEE.out.1, HEE.out.2⟩
    · have hlt : i < n.length := by omega
      have t1 : decide ((i : Int) < (n.length : Int)) = true := by simp; omega
      obtain ⟨ps, hp⟩ : ∃ ps, n[i]? = some ps := ⟨_, List.getElem?_eq_getElem hlt⟩
      have hpl : ps.length < 1000000000 := hps ps (List.mem_of_getElem? hp)
      obtain ⟨od', cd', e0, hrd⟩ := HN.out.stays HI.out.bel
      injection e0 with e0 _ e0'
      subst e0
      subst e0'
      obtain ⟨g, off, u, rfl, cr, hpa⟩ := hrd i ps hp
      obtain ⟨ov, cv, rfl, hpc⟩ := hpa
      have HPC := Lib.hid hpc
      have HP := Lib.hid hp
      clear hrd hpc hp HE hend
      go_wp2_with fail
      obtain ⟨wo, rfl⟩ : ∃ wo : World, wo = wr := ⟨_, rfl⟩
      go_loopw [6, 17] (fun t6 t17 wr => ∃ (j : Nat), t17 = .int .i64 j ∧ j ≤ ps.length ∧ Hid (wr.ownsRow wo.heap.size 78 2 t6 j (cellsOf (ps.take j)) ∧ Below wo.heap.size wo wr)) (fun _ t17 _ => ps.length - (intOf t17).toNat)
      case atStart => exact ⟨0, rfl, Nat.zero_le _, Lib.hid ⟨owns_start _ _ _ _, Below.refl _ _⟩⟩
      case round =>
        clear t1
        obtain ⟨j, rfl, hj, HJ⟩ := hrel
        have hsz2 := HJ.out.2.size
        obtain ⟨o6, c6, rfl⟩ : ∃ o c, u6 = .slice o j c := by
          rcases HJ.out.1.2 with ⟨h, h0⟩ | ⟨g, cap, cur, h, _⟩
          · exact ⟨none, 0, by rw [h, h0]⟩
          · exact ⟨_, _, h⟩
        by_cases hje : j = ps.length
        · subst hje
          have t2 : decide ((ps.length : Int) < (ps.length : Int)) = false := by simp
          have hown6 := HJ.out.1
          rw [List.take_length] at hown6
          have hb2 := HI.out.bel.trans (HJ.out.2.mono hsz1)
          have hout : wr.ownsRow w.heap.size 77 1 (.slice o3 i c3) i vs := owns_stays HI.out.own (fun g hg => HJ.out.2.block g (owns_lt HI.out.own g hg))
          have hrows : RowsOwn 78 w.heap.size wr vs (n.take i) := HI.out.rows.stays (fun g c hg => HJ.out.2.block g (blockLt hg))
          have hin : PartsOwn 78 wo.heap.size wr (.slice o6 ps.length c6) ps := hown6
          have hownW : (wr.alloc (.cells #[(.slice o6 ps.length c6)] 77)).ownsRow w.heap.size 77 1 (.slice o3 i c3) i vs := hout.alloc _
          have hnews : ∀ k u, ([(.slice o6 ps.length c6)] : List Value)[k]? = some u → (wr.alloc (.cells #[(.slice o6 ps.length c6)] 77)).cell? ((⟨wr.heap.size, 0, none⟩ : Addr).add k) = some u := by
            intro k u hk
            exact World.news_of_block (B := wr.heap.size) (heap_alloc_new wr _) k u (by simpa using hk)
          have h1c : ∀ u ∈ ([(.slice o6 ps.length c6)] : List Value), u.oneCell' = true := by
            intro u hu; simp at hu; subst hu
            obtain ⟨o, c, e⟩ := owns_form hin
            rw [e]; rfl
          have h63 : i + 1 ≤ maxLen := by simp only [maxLen]; omega
          have hby : (i + 1) * 24 ≤ 140737488355328 := by omega
          have hbase : w.heap.size ≤ (wr.alloc (.cells #[(.slice o6 ps.length c6)] 77)).heap.size := by simp; omega
          have HIN := Lib.hid hin
          have HB2 := Lib.hid hb2
          have HOUT := Lib.hid hout
          have HROWS := Lib.hid hrows
          clear hin hb2 hout hrows hown6
          go_wp2_with (at_builtin; go_loud (refine wpList_append_lies _ (by rfl) _ _ _ (by rfl) w.heap.size 77 i2 (.slice none 0 0) 1 24 Tryz.underlying22 hi2 hz20 hz21 hz22 rfl (by decide) (.slice o3 i c3) i vs (by rfl) hownW ⟨wr.heap.size, 0, none⟩ 1 1 [(.slice o6 ps.length c6)] (by rfl) rfl hnews h1c (by decide) h63 hby hbase (wr.heap.size + 1) (by simp) ?_))
          intro g' cap w4 hown' hgr hat hlt'
          have hE : OfE n w (i + 1) (.slice (some ⟨g', 0, none⟩) (i + 1) cap) w4 := by
            refine ⟨vs ++ [(.slice o6 ps.length c6)], hown', ?_, ?_⟩
            · rw [take_snoc HP.out]
              refine RowsOwn.snoc ((HIN.out.lower hsz1).stays fun k c hk => ?_) (HROWS.out.grown HOUT.out (by decide) hgr)
              rw [hgr.block k (by have := blockLt hk; simp; omega) (fun e => own_ne HOUT.out hk (by decide) e.symm), Below.heap_alloc _ _ _ (blockLt hk)]
            · exact (HB2.out.alloc (by omega) _).grown hgr (by simp; omega) (fun k hk => HOUT.out.lt k hk |>.1)
          have HE := Lib.hid hE
          clear hE hown' hgr hat hownW hnews h1c hby hbase
          go_wp2_with fail
          exact ⟨⟨i + 1, by go_num, by omega, HE⟩, by simp [intOf]; omega⟩
        · have hjl : j < ps.length := by omega
          have t2 : decide ((j : Int) < (ps.length : Int)) = true := by simp; omega
          obtain ⟨p, hp⟩ : ∃ p, ps[j]? = some p := ⟨_, List.getElem?_eq_getElem hjl⟩
          obtain ⟨gv, offv, rfl, ca, cb⟩ := HPC.out j p hp
          have cp0 : wr.cell? ⟨gv, offv + j * 2, none⟩ = some (.string (Nm.bs p.1)) := (HJ.out.2.cell (World.block_lt_of_cell? wo ⟨gv, offv + j * 2, none⟩ ca)).trans ca
          have cp1 : wr.cell? ⟨gv, offv + j * 2 + 1, none⟩ = some (.string (Nm.bs p.2)) := (HJ.out.2.cell (World.block_lt_of_cell? wo ⟨gv, offv + j * 2 + 1, none⟩ cb)).trans cb
          have hown6 := HJ.out.1
          have hts := take_snoc hp
          obtain ⟨W, hW⟩ : ∃ W, W = (wr.alloc (.cells #[.string (Nm.bs p.1), .string (Nm.bs p.2)] 70)).alloc (.cells #[.string (Nm.bs p.1), .string (Nm.bs p.2)] 78) := ⟨_, rfl⟩
          have hownW : W.ownsRow wo.heap.size 78 2 (.slice o6 j c6) j (cellsOf (ps.take j)) := by rw [hW]; exact (hown6.alloc _).alloc _
          have hnews : ∀ k u, ([.string (Nm.bs p.1), .string (Nm.bs p.2)] : List Value)[k]? = some u → W.cell? ((⟨wr.heap.size + 1, 0, none⟩ : Addr).add k) = some u := by
            intro k u hk
            exact World.news_of_block (w := W) (B := wr.heap.size + 1) (by rw [hW]; have := heap_alloc_new (wr.alloc (.cells #[.string (Nm.bs p.1), .string (Nm.bs p.2)] 70)) (.cells #[.string (Nm.bs p.1), .string (Nm.bs p.2)] 78); simpa using this) k u (by simpa using hk)
          have h1c : ∀ u ∈ ([.string (Nm.bs p.1), .string (Nm.bs p.2)] : List Value), u.oneCell' = true := by intro u hu; simp at hu; rcases hu with rfl | rfl <;> rfl
          have h63 : j + 1 ≤ maxLen := by simp only [maxLen]; omega
          have hby : (j + 1) * 32 ≤ 140737488355328 := by omega
          have hbase : wo.heap.size ≤ W.heap.size := by rw [hW]; simp; omega
          subst hW
          have HTS := Lib.hid hts
          clear hp hts ca cb
          go_wp2_with (at_builtin; go_loud (refine wpList_append_lies _ (by rfl) _ _ _ (by rfl) wo.heap.size 78 i1 (.agg #[.string ⟨#[]⟩, .string ⟨#[]⟩]) 2 32 Tryz.underlying77 hi1 hz10 hz11 hz12 rfl (by decide) _ j (cellsOf (ps.take j)) (by rfl) hownW ⟨wr.heap.size + 1, 0, none⟩ 1 1 [.string (Nm.bs p.1), .string (Nm.bs p.2)] (by rfl) rfl hnews h1c (by decide) h63 hby hbase (wr.heap.size + 1 + 1) (by simp) ?_))
          intro g' cap w4 hown' hgr hat hlt'
          have hE : w4.ownsRow wo.heap.size 78 2 (.slice (some ⟨g', 0, none⟩) (j + 1) cap) (j + 1) (cellsOf (ps.take (j + 1))) ∧ Below wo.heap.size wo w4 := by
            refine ⟨by rw [HTS.out, cellsOf_snoc]; exact hown', ?_⟩
            exact (((HJ.out.2.alloc (by omega) _).alloc (by simp; omega) _).grown hgr (by simp; omega) (fun k hk => hown6.lt k hk |>.1))
          have HE := Lib.hid hE
          clear hE hown' hgr hat hownW hnews h1c hby hbase
          go_wp2_with fail
          exact ⟨⟨j + 1, by go_num, by omega, HE⟩, by simp [intOf]; omega⟩
end Go.Proofs.YtjmahgefijncaaaGreatFmt

/- NameSame, at the same names. -/
namespace Go.Proofs.YtjmahgefijncaaaGreatFmt
open Go Go.RowKit

set_option maxRecDepth 100000 in
set_option maxHeartbeats 8000000 in
theorem name_same (va vb : Value) (n : Nm.Name) (w : World) (hA : NameIn w va n) (hB : NameIn w vb n) (hn : n.length < 1000000000) (hps : ∀ ps ∈ n, ps.length < 1000000000) :
    Calls Tryz.prog 14 #[va, vb] w fun e w' => e = .returned (.bool true) ∧ Below w.heap.size w w' := by
  obtain ⟨oa, ca, rfl, hrA⟩ := hA
  obtain ⟨ob, cb, rfl, hrB⟩ := hB
  have HA := Lib.hid hrA
  have HB := Lib.hid hrB
  clear hrA hrB
  have t0 : ((n.length : Int) != (n.length : Int)) = false := by simp
  go_enter Tryz.func14, Tryz.ntmps14
  go_wp2_with fail
  go_loopw [14] (fun t14 wr => ∃ (i : Nat), t14 = .int .i64 i ∧ i ≤ n.length ∧ Hid (Below w.heap.size w wr)) (fun t14 _ => n.length - (intOf t14).toNat)
  case atStart => exact ⟨0, rfl, Nat.zero_le _, Lib.hid (Below.refl _ _)⟩
  case round =>
    obtain ⟨i, rfl, hi, HL⟩ := hrel
    by_cases hend : i = n.length
    · subst hend
      have t1 : decide ((n.length : Int) < (n.length : Int)) = false := by simp
      go_wp2_with fail
      go_ret
      exact ⟨rfl, HL.out⟩
    · have hlt : i < n.length := by omega
      have t1 : decide ((i : Int) < (n.length : Int)) = true := by simp; omega
      obtain ⟨ps, hp⟩ : ∃ ps, n[i]? = some ps := ⟨_, List.getElem?_eq_getElem hlt⟩
      have hpl : ps.length < 1000000000 := hps ps (List.mem_of_getElem? hp)
      obtain ⟨ga, offa, ua, rfl, cra, hpa⟩ := HA.out i ps hp
      obtain ⟨gb, offb, ub, rfl, crb, hpb⟩ := HB.out i ps hp
      obtain ⟨oua, cua, rfl, hpca⟩ := hpa
      obtain ⟨oub, cub, rfl, hpcb⟩ := hpb
      have t2 : ((ps.length : Int) != (ps.length : Int)) = false := by simp
      have HPA := Lib.hid hpca
      have HPB := Lib.hid hpcb
      have HCA := Lib.hid cra
      have HCB := Lib.hid crb
      have i0 : (0 : Int) ≤ (i : Int) := by omega
      have i1 : (i : Int) < (n.length : Int) := by omega
      have ka : wr.cell? ⟨ga, offa + i, none⟩ = some (.slice oua ps.length cua) := (HL.out.cell (World.block_lt_of_cell? w ⟨ga, offa + i, none⟩ cra)).trans cra
      have kb : wr.cell? ⟨gb, offb + i, none⟩ = some (.slice oub ps.length cub) := (HL.out.cell (World.block_lt_of_cell? w ⟨gb, offb + i, none⟩ crb)).trans crb
      clear cra crb hpca hpcb hp hend
      go_wp2_with fail
      go_quiet (fail)
      go_wp2_with fail
      have HL2 : Hid (Below w.heap.size w (wr.drewN nq)) := Lib.hid ⟨HL.out.os, HL.out.tape, HL.out.output, HL.out.size, HL.out.block⟩
      clear HL ka kb
      generalize wr.drewN nq = wo at *
      go_loopw [33] (fun t33 wr => ∃ (j : Nat), t33 = .int .i64 j ∧ j ≤ ps.length ∧ Hid (Below w.heap.size w wr)) (fun t33 _ => ps.length - (intOf t33).toNat)
      case atStart => exact ⟨0, rfl, Nat.zero_le _, HL2⟩
      case round =>
        clear t1 HL2
        obtain ⟨j, rfl, hj, HL⟩ := hrel
        by_cases hje : j = ps.length
        · subst hje
          have t3 : decide ((ps.length : Int) < (ps.length : Int)) = false := by simp
          go_wp2_with fail
          exact ⟨⟨i + 1, by go_num, by omega, HL⟩, by simp [intOf]; omega⟩
        · have hjl : j < ps.length := by omega
          have t3 : decide ((j : Int) < (ps.length : Int)) = true := by simp; omega
          obtain ⟨p, hp⟩ : ∃ p, ps[j]? = some p := ⟨_, List.getElem?_eq_getElem hjl⟩
          obtain ⟨ha, fa, rfl, ca1, ca2⟩ := HPA.out j p hp
          obtain ⟨hb, fb, rfl, cb1, cb2⟩ := HPB.out j p hp
          have j0 : (0 : Int) ≤ (j : Int) := by omega
          have j1 : (j : Int) < (ps.length : Int) := by omega
          have mv : ∀ {b o : Nat} {u : Value}, w.cell? ⟨b, o, none⟩ = some u → wr.cell? ⟨b, o, none⟩ = some u := fun {b o u} h => (HL.out.cell (World.block_lt_of_cell? w ⟨b, o, none⟩ h)).trans h
          have ka := mv HCA.out
          have kb := mv HCB.out
          have k1 := mv ca1
          have k2 := mv ca2
          have k3 := mv cb1
          have k4 := mv cb2
          clear mv ca1 ca2 cb1 cb2 hp
          go_wp2_with fail
          go_quiet (fail)
          go_wp2_with fail
          exact ⟨⟨j + 1, by go_num, by omega, Lib.hid ⟨HL.out.os, HL.out.tape, HL.out.output, HL.out.size, HL.out.block⟩⟩, by simp [intOf]; omega⟩
end Go.Proofs.YtjmahgefijncaaaGreatFmt

/- NameRead, where what it reads is right; nameAwake. -/
namespace Go.Proofs.YtjmahgefijncaaaGreatFmt
open Go Go.RowKit

theorem parse_len (val : List UInt8 → Option (List UInt8)) : ∀ (l seg : List UInt8) (esc : Bool) (ty : List UInt8) (rdn : List Nm.Part) (dn n : Nm.Name) (k : Nat), Nm.parse val l seg esc ty rdn dn = some n → rdn.length + l.length < k → dn.length + l.length < k → (∀ ps ∈ dn, ps.length ≤ k) → n.length ≤ k ∧ ∀ ps ∈ n, ps.length ≤ k
  | [], seg, esc, ty, rdn, dn, n, k, h, h1, h2, h3 => by
    unfold Nm.parse at h
    split at h
    · cases h
    · simp only [Option.map_eq_some_iff] at h
      obtain ⟨v, _, rfl⟩ := h
      simp only [List.length_nil, Nat.add_zero] at h1 h2
      refine ⟨by rw [List.length_append]; simp; omega, fun ps hp => ?_⟩
      rcases List.mem_append.1 hp with hp | hp
      · exact h3 ps hp
      · simp only [List.mem_singleton] at hp
        rw [hp, List.length_append]; simp; omega
  | c :: r, seg, esc, ty, rdn, dn, n, k, h, h1, h2, h3 => by
    unfold Nm.parse at h
    simp only [List.length_cons] at h1 h2
    have add : ∀ q : List Nm.Part, q.length ≤ k → ∀ ps ∈ dn ++ [q], ps.length ≤ k := fun q hq ps hp => by
      rcases List.mem_append.1 hp with hp | hp
      · exact h3 ps hp
      · simp only [List.mem_singleton] at hp; rw [hp]; exact hq
    split at h
    · exact parse_len val r _ _ _ _ _ _ k h (by omega) (by omega) h3
    · split at h
      · exact parse_len val r _ _ _ _ _ _ k h (by omega) (by omega) h3
      · split at h
        · split at h
          · cases h
          · exact parse_len val r _ _ _ _ _ _ k h (by omega) (by omega) h3
        · split at h
          · split at h
            · cases h
            · split at h
              · cases h
              · split at h
                · exact parse_len val r _ _ _ _ _ _ k h (by rw [List.length_append]; simp; omega) (by omega) h3
                · exact parse_len val r _ _ _ _ _ _ k h (by simp; omega) (by rw [List.length_append]; simp; omega) (add _ (by rw [List.length_append]; simp; omega))
          · exact parse_len val r _ _ _ _ _ _ k h (by omega) (by omega) h3
theorem parseDN_len {val : List UInt8 → Option (List UInt8)} {l : List UInt8} {n : Nm.Name} (h : Nm.parseDN val l = some n) : n.length ≤ l.length + 1 ∧ ∀ ps ∈ n, ps.length ≤ l.length + 1 := by
  unfold Nm.parseDN at h
  split at h
  · rw [← Option.some.inj h]; simp
  · exact parse_len val l _ _ _ _ _ _ (l.length + 1) h (by simp) (by simp) (by simp)

set_option maxRecDepth 100000 in
set_option maxHeartbeats 8000000 in
theorem read_in (val : List UInt8 → Option (List UInt8)) (l : List UInt8) (hl : l.length < 100000000) (n : Nm.Name) (hn : Nm.parseDN val l = some n) (w : World) (hval : ValAt w val) (ev : Value) (hE : w.cell? ⟨1, 0, none⟩ = some ev) :
    Calls Tryz.prog 13 #[.string (Nm.bs l)] w fun e w' => ∃ v, e = .returned (.tuple #[v, .string ⟨#[]⟩]) ∧ NameOwn 71 70 w.heap.size w' v n ∧ Below w.heap.size w w' := by
  obtain ⟨hb1, hb2⟩ := parseDN_len hn
  have HP := Lib.hid (parse_in val l hl n hn w hval ev hE)
  have HB2 := Lib.hid hb2
  clear hval hn hb2
  go_enter Tryz.func13, Tryz.ntmps13
  go_wp2_with fail
  refine HP.out.mono ?_
  rintro e w1 ⟨D, S, rfl, hD, hS, hb⟩
  have hB := back_dn S D n w1 hD hS (by omega) (fun ps hp => by have := HB2.out ps hp; omega)
  have HB := Lib.hid hB
  have hsz := hb.size
  have HBL := Lib.hid hb
  clear hB hb hD hS HP
  go_wp2_with fail
  refine HB.out.mono ?_
  rintro e w2 ⟨v, rfl, hn, hb2⟩
  have HE : Hid (NameOwn 71 70 w.heap.size w2 v n ∧ Below w.heap.size w w2) := by
    refine Lib.hid ⟨?_, HBL.out.trans (hb2.mono hsz)⟩
    obtain ⟨vs, h1, h2⟩ := hn
    refine ⟨vs, ⟨h1.1, h1.2.imp id ?_⟩, ?_⟩
    · rintro ⟨g, cap, cur, e1, e2, e3⟩
      exact ⟨g, cap, cur, e1, Nat.le_trans hsz e2, e3⟩
    · exact rowsOwn_lower hsz h2
  clear hn hb2 HB HBL
  go_wp2_with fail
  go_ret2
  exact ⟨_, rfl, HE.out.1, HE.out.2⟩

theorem read_some (val : List UInt8 → Option (List UInt8)) (hval : ValWorks val) (l : List UInt8) (hl : l.length < 100000000) (n : Nm.Name) (hn : Nm.parseDN val l = some n) (w : World) (ev : Value) (hE : w.cell? ⟨1, 0, none⟩ = some ev) :
    Calls Tryz.prog 13 #[.string (Nm.bs l)] w fun e w' => ∃ v, e = .returned (.tuple #[v, .string ⟨#[]⟩]) ∧ NameOwn 71 70 w.heap.size w' v n ∧ Below w.heap.size w w' :=
  read_in val l hl n hn w (hval.at w) ev hE

def awakeName : Nm.Name := [[([99, 110], [97])], [([111], [98])]]
theorem awake_parse : Nm.parseDN plainVal [99, 110, 61, 97, 44, 111, 61, 98] = some awakeName := by decide +kernel

theorem awake_lit (w W : World) (hW : W = ((w.alloc (.cells #[.string ⟨#[99, 110]⟩, .string ⟨#[97]⟩] 78 (0, 0))).alloc (.cells #[.string ⟨#[111]⟩, .string ⟨#[98]⟩] 78 (0, 0))).alloc (.cells #[.slice (some ⟨w.heap.size, 0, none⟩) 1 1, .slice (some ⟨w.heap.size + 1, 0, none⟩) 1 1] 77 (0, 0))) :
    NameIn W (.slice (some ⟨w.heap.size + 1 + 1, 0, none⟩) 2 2) awakeName ∧ Below w.heap.size w W := by
  have h : ∀ k, W.heap[w.heap.size + k]? = (#[Obj.cells #[.string ⟨#[99, 110]⟩, .string ⟨#[97]⟩] 78 (0, 0), .cells #[.string ⟨#[111]⟩, .string ⟨#[98]⟩] 78 (0, 0), .cells #[.slice (some ⟨w.heap.size, 0, none⟩) 1 1, .slice (some ⟨w.heap.size + 1, 0, none⟩) 1 1] 77 (0, 0)] : Array Obj)[k]? := by
    intro k
    have e : W.heap = w.heap ++ (#[Obj.cells #[.string ⟨#[99, 110]⟩, .string ⟨#[97]⟩] 78 (0, 0), .cells #[.string ⟨#[111]⟩, .string ⟨#[98]⟩] 78 (0, 0), .cells #[.slice (some ⟨w.heap.size, 0, none⟩) 1 1, .slice (some ⟨w.heap.size + 1, 0, none⟩) 1 1] 77 (0, 0)] : Array Obj) := by
      rw [hW]
      simp only [World.alloc]
      apply Array.ext'
      simp
    rw [e, Array.getElem?_append_right (by omega)]
    congr 1
    omega
  refine ⟨⟨_, _, rfl, fun j ps hj => ?_⟩, ?_⟩
  · match j, hj with
    | 0, hj =>
      simp only [awakeName, List.getElem?_cons_zero, Option.some.injEq] at hj
      subst hj
      refine ⟨_, _, _, rfl, blockCell (h 2) 0, _, _, rfl, fun j p hj => ?_⟩
      match j, hj with
      | 0, hj =>
        simp only [List.getElem?_cons_zero, Option.some.injEq] at hj
        subst hj
        exact ⟨_, _, rfl, blockCell (h 0) 0, blockCell (h 0) 1⟩
    | 1, hj =>
      simp only [awakeName, List.getElem?_cons_succ, List.getElem?_cons_zero, Option.some.injEq] at hj
      subst hj
      refine ⟨_, _, _, rfl, blockCell (h 2) 1, _, _, rfl, fun j p hj => ?_⟩
      match j, hj with
      | 0, hj =>
        simp only [List.getElem?_cons_zero, Option.some.injEq] at hj
        subst hj
        exact ⟨_, _, rfl, blockCell (h 1) 0, blockCell (h 1) 1⟩
  · rw [hW]
    exact (((Below.refl _ w).alloc (Nat.le_refl _) _).alloc (by simp) _).alloc (by simp; omega) _

set_option maxRecDepth 100000 in
set_option maxHeartbeats 8000000 in
theorem awake_any (w : World) (ev : Value) (hE : w.cell? ⟨1, 0, none⟩ = some ev) :
    Calls Tryz.prog 12 #[] w fun e w' => e = .returned (.bool true) ∧ Below w.heap.size w w' := by
  have HR := Lib.hid (read_some plainVal plain_works [99, 110, 61, 97, 44, 111, 61, 98] (by simp) awakeName awake_parse w ev hE)
  go_enter Tryz.func12, Tryz.ntmps12
  go_wp2_with fail
  refine HR.out.mono ?_
  rintro e w1 ⟨v, rfl, hn, hb⟩
  have hsz := hb.size
  have HN := Lib.hid (name_of v awakeName w1 hn.in' (by simp [awakeName]) (by simp [awakeName]))
  have HB := Lib.hid hb
  clear hn hb HR
  go_wp2_with fail
  refine HN.out.mono ?_
  rintro e w2 ⟨v', rfl, hn, hb⟩
  obtain ⟨hL, hLb⟩ := awake_lit w2 _ rfl
  have hS := name_same v' _ awakeName _ (hn.in'.stays hLb) hL (by simp [awakeName]) (by simp [awakeName])
  have hsz2 := hb.size
  have HS := Lib.hid hS
  have HB2 := Lib.hid ((HB.out.trans (hb.mono hsz)).trans (hLb.mono (by omega)))
  have hsz3 := hLb.size
  clear hS hn hb hL hLb HN HB
  go_wp2_with fail
  refine HS.out.mono ?_
  rintro e w3 ⟨rfl, hb3⟩
  have HB3 := Lib.hid (HB2.out.trans (hb3.mono (by simp at hsz3 ⊢; omega)))
  clear hb3 HS HB2
  go_wp2_with fail
  go_ret
  exact ⟨rfl, HB3.out⟩
end Go.Proofs.YtjmahgefijncaaaGreatFmt

/- impl.NameRead of any text: it ends; what it may say. -/
namespace Go.Proofs.YtjmahgefijncaaaGreatFmt
open Go Go.RowKit Go.Extern.Stop Go.Stop Go.Extern

theorem parseR_len {VR : List UInt8 → List UInt8 → Prop} {VE : List UInt8 → Prop} : ∀ (l seg : List UInt8) (esc : Bool) (ty : List UInt8) (rdn : List Nm.Part) (dn : Nm.Name) (n : Nm.Name), Nm.parseR VR VE l seg esc ty rdn dn (some n) → ∀ k, rdn.length ≤ k → dn.length ≤ k → (∀ ps ∈ dn, ps.length ≤ k) → n.length ≤ k + l.length + 1 ∧ ∀ ps ∈ n, ps.length ≤ k + l.length + 1
  | [], seg, esc, ty, rdn, dn, n, h, k, h1, h2, h3 => by
    unfold Nm.parseR at h
    split at h
    · cases h
    · rcases h with ⟨-, h⟩ | ⟨v, -, h⟩
      · cases h
      · injection h with h
        subst h
        refine ⟨by simp; omega, fun ps hps => ?_⟩
        rcases List.mem_append.1 hps with hps | hps
        · have := h3 ps hps; simp; omega
        · simp only [List.mem_singleton] at hps
          rw [hps]; simp; omega
  | c :: l, seg, esc, ty, rdn, dn, n, h, k, h1, h2, h3 => by
    have key : ∀ (seg' : List UInt8) (esc' : Bool) (ty' : List UInt8) (rdn' : List Nm.Part) (dn' : Nm.Name), Nm.parseR VR VE l seg' esc' ty' rdn' dn' (some n) → rdn'.length ≤ k + 1 → dn'.length ≤ k + 1 → (∀ ps ∈ dn', ps.length ≤ k + 1) → n.length ≤ k + (c :: l).length + 1 ∧ ∀ ps ∈ n, ps.length ≤ k + (c :: l).length + 1 := by
      intro seg' esc' ty' rdn' dn' h' g1 g2 g3
      have := parseR_len l seg' esc' ty' rdn' dn' n h' (k + 1) g1 g2 g3
      rw [List.length_cons]
      exact ⟨by omega, fun ps hps => by have := this.2 ps hps; omega⟩
    have h3' : ∀ ps ∈ dn, ps.length ≤ k + 1 := fun ps hps => by have := h3 ps hps; omega
    unfold Nm.parseR at h
    split at h
    · exact key _ _ _ _ _ h (by omega) (by omega) h3'
    · split at h
      · exact key _ _ _ _ _ h (by omega) (by omega) h3'
      · split at h
        · rcases h with ⟨-, h⟩ | ⟨t, -, h⟩
          · cases h
          · exact key _ _ _ _ _ h (by omega) (by omega) h3'
        · split at h
          · split at h
            · cases h
            · rcases h with ⟨-, h⟩ | ⟨v, -, h⟩
              · cases h
              · split at h
                · exact key _ _ _ _ _ h (by simp; omega) (by omega) h3'
                · refine key _ _ _ _ _ h (by simp) (by simp; omega) (fun ps hps => ?_)
                  rcases List.mem_append.1 hps with hps | hps
                  · exact h3' ps hps
                  · simp only [List.mem_singleton] at hps
                    rw [hps]; simp; omega
          · exact key _ _ _ _ _ h (by omega) (by omega) h3'
theorem parseDNR_len {VR : List UInt8 → List UInt8 → Prop} {VE : List UInt8 → Prop} {l : List UInt8} {n : Nm.Name} (h : Nm.parseDNR VR VE l (some n)) : n.length ≤ l.length + 1 ∧ ∀ ps ∈ n, ps.length ≤ l.length + 1 := by
  unfold Nm.parseDNR at h
  split at h
  · injection h with h; subst h; simp
  · have := parseR_len l [] false [] [] [] n h 0 (by simp) (by simp) (by simp)
    simpa using this

theorem errText_anyN (w : World) (a : Addr) (s : ByteArray) (h : w.cell? a = some (.string s)) :
    Calls Tryz.prog 188 #[.pointer (some a)] w fun e w' => e = .returned (.string s) ∧ w = w' := by
  go_enter Tryz.func188, Tryz.ntmps188
  go_wp2
  go_ret
  exact ⟨rfl, rfl⟩
theorem nil_ahead_errN (a : Addr) (w : World) : (nilAhead 371 144 (.pointer (some a)) "Error").run Tryz.prog w = .ok (some false) w := by kernel_rfl
theorem method_errN (a : Addr) (w : World) : (method 371 144 (.pointer (some a)) "Error").run Tryz.prog w = .ok (188, .pointer (some a)) w := by kernel_rfl

/-- What NameRead comes to. -/
def NameOut (B : Nat) (r : Option Nm.Name) (e : Ending) (w' : World) : Prop :=
  match r with
  | some n => ∃ v, e = .returned (.tuple #[v, .string ⟨#[]⟩]) ∧ NameOwn 71 70 B w' v n
  | none => ∃ s, e = .returned (.tuple #[.slice none 0 0, .string s]) ∧ 0 < s.size

set_option maxRecDepth 100000 in
set_option maxHeartbeats 4000000 in
theorem read_total (F : Interp) (VR : List UInt8 → List UInt8 → Prop) (VE : List UInt8 → Prop) (l : List UInt8) (hl : l.length ≤ 900) (w : World) (hF : F.told.answers w.tape) (hval : ValT F w VR VE) (ev : Value) (hE : w.cell? ⟨1, 0, none⟩ = some ev) :
    Calls Tryz.prog 13 #[.string (Nm.bs l)] w fun e w' => (∃ r, Nm.parseDNR VR VE l r ∧ NameOut w.heap.size r e w') ∧ Below w.heap.size w w' := by
  have HP := Lib.hid (parse_total F VR VE l hl w hF hval ev hE)
  clear hval hF
  go_enter Tryz.func13, Tryz.ntmps13
  go_wp2_with fail
  refine HP.out.mono ?_
  rintro e w1 ⟨⟨r, hr, ho⟩, hb⟩
  have hsz := hb.size
  have HR := Lib.hid hr
  have HBL := Lib.hid hb
  cases r with
  | some n =>
    obtain ⟨D, S, rfl, hD, hS⟩ := ho
    obtain ⟨hb1, hb2⟩ := parseDNR_len hr
    have hB := back_dn S D n w1 hD hS (by omega) (fun ps hp => by have := hb2 ps hp; omega)
    have HB := Lib.hid hB
    clear hB hb hD hS HP hr hb1 hb2
    go_wp2_with fail
    refine HB.out.mono ?_
    rintro e w2 ⟨v, rfl, hn, hb2⟩
    have HE : Hid (NameOwn 71 70 w.heap.size w2 v n ∧ Below w.heap.size w w2) := by
      refine Lib.hid ⟨?_, HBL.out.trans (hb2.mono hsz)⟩
      obtain ⟨vs, h1, h2⟩ := hn
      refine ⟨vs, ⟨h1.1, h1.2.imp id ?_⟩, ?_⟩
      · rintro ⟨g, cap, cur, e1, e2, e3⟩
        exact ⟨g, cap, cur, e1, Nat.le_trans hsz e2, e3⟩
      · exact rowsOwn_lower hsz h2
    clear hn hb2 HB HBL
    go_wp2_with fail
    go_ret2
    exact ⟨⟨some n, HR.out, _, rfl, HE.out.1⟩, HE.out.2⟩
  | none =>
    obtain ⟨pv, ev1, rfl, he⟩ := ho
    obtain ⟨a, rfl, -, s, c, t, hbk, hcs, hs0, hs1⟩ := he
    have HNA := fun w9 => nil_ahead_errN a w9
    have HME := fun w9 => method_errN a w9
    have HT := Lib.hid (errText_anyN w1 a s hcs)
    clear hr hb hbk HP
    go_wp2_with fail
    refine HT.out.mono ?_
    rintro e w2 ⟨rfl, rfl⟩
    go_wp2_with fail
    go_ret2
    exact ⟨⟨none, HR.out, _, rfl, hs0⟩, HBL.out⟩
end Go.Proofs.YtjmahgefijncaaaGreatFmt

/- Names with pointers in memory, as they are read; the comparison of two parts. -/
namespace Go.Proofs.YtjmahgefijncaaaGreatFmt
open Go Go.RowKit

/-- The slice v holds pointers to parts. -/
def PtrParts (w : World) (v : Value) (ps : List Nm.Part) : Prop :=
  ∃ o cap, v = .slice o ps.length cap ∧ ∀ (j : Nat) (p : Nm.Part), ps[j]? = some p → ∃ b off a, o = some ⟨b, off, none⟩ ∧ w.cell? ⟨b, off + j, none⟩ = some (.pointer (some ⟨a, 0, none⟩)) ∧ PartAt w a p
/-- The block r is a relative name. -/
def RdnIn (w : World) (r : Nat) (ps : List Nm.Part) : Prop := ∃ v, w.heap[r]? = some (.cells #[v] 118 (0, 0)) ∧ PtrParts w v ps
def PtrRdns (w : World) (v : Value) (n : Nm.Name) : Prop :=
  ∃ o cap, v = .slice o n.length cap ∧ n.length ≤ cap ∧ ∀ (j : Nat) (ps : List Nm.Part), n[j]? = some ps → ∃ b off a, o = some ⟨b, off, none⟩ ∧ w.cell? ⟨b, off + j, none⟩ = some (.pointer (some ⟨a, 0, none⟩)) ∧ RdnIn w a ps
def DnIn (w : World) (d : Nat) (n : Nm.Name) : Prop := ∃ v, w.heap[d]? = some (.cells #[v] 114 (0, 0)) ∧ PtrRdns w v n

section
variable {w w' : World}
theorem partAt_stays {a : Nat} {p : Nm.Part} (h : PartAt w a p) (k : Below w.heap.size w w') : PartAt w' a p := (k.block a (blockLt h)).trans h
theorem PtrParts.stays {v : Value} {ps : List Nm.Part} (h : PtrParts w v ps) (k : Below w.heap.size w w') : PtrParts w' v ps := by
  obtain ⟨o, c, hv, h1⟩ := h
  refine ⟨o, c, hv, fun j p hj => ?_⟩
  obtain ⟨b, off, a, e, c0, hp⟩ := h1 j p hj
  exact ⟨b, off, a, e, (k.cell (World.block_lt_of_cell? w ⟨b, off + j, none⟩ c0)).trans c0, partAt_stays hp k⟩
theorem RdnIn.stays {r : Nat} {ps : List Nm.Part} (h : RdnIn w r ps) (k : Below w.heap.size w w') : RdnIn w' r ps := by
  obtain ⟨v, h1, h2⟩ := h
  exact ⟨v, (k.block r (blockLt h1)).trans h1, h2.stays k⟩
theorem PtrRdns.stays {v : Value} {n : Nm.Name} (h : PtrRdns w v n) (k : Below w.heap.size w w') : PtrRdns w' v n := by
  obtain ⟨o, c, hv, hc, h1⟩ := h
  refine ⟨o, c, hv, hc, fun j p hj => ?_⟩
  obtain ⟨b, off, a, e, c0, hp⟩ := h1 j p hj
  exact ⟨b, off, a, e, (k.cell (World.block_lt_of_cell? w ⟨b, off + j, none⟩ c0)).trans c0, hp.stays k⟩
theorem DnIn.stays {d : Nat} {n : Nm.Name} (h : DnIn w d n) (k : Below w.heap.size w w') : DnIn w' d n := by
  obtain ⟨v, h1, h2⟩ := h
  exact ⟨v, (k.block d (blockLt h1)).trans h1, h2.stays k⟩
theorem RdnAt.in' {S : Nat → Prop} {r : Nat} {ps : List Nm.Part} (h : RdnAt w S r ps) : RdnIn w r ps := by
  obtain ⟨_, v, xs, h1, h2, _, h3⟩ := h
  obtain ⟨o, c, hv⟩ := owns_form h2
  refine ⟨v, h1, o, c, by rw [hv, h3.len], fun j p hj => ?_⟩
  obtain ⟨a, e1, _, e2⟩ := h3.nth hj
  obtain ⟨g, c2, e3, e4⟩ := owns_cell h2 e1
  rw [hv] at e3
  injection e3 with e3 _ _
  exact ⟨g, 0, a, e3, by rw [Nat.zero_add]; exact e4, e2⟩
theorem DnAt.in' {S : Nat → Prop} {d : Nat} {n : Nm.Name} (h : DnAt w S d n) : DnIn w d n := by
  obtain ⟨_, v, xs, h1, h2, _, h3⟩ := h
  obtain ⟨o, c, hv⟩ := owns_form h2
  have hcap : n.length ≤ c := by
    rw [← h3.len]
    rcases h2.2 with ⟨e, h0⟩ | ⟨g, c2, cur, e, _, _, hle, _⟩
    · omega
    · rw [hv] at e; injection e with _ _ e3; omega
  refine ⟨v, h1, o, c, by rw [hv, h3.len], hcap, fun j p hj => ?_⟩
  obtain ⟨a, e1, e2⟩ := h3.nth hj
  obtain ⟨g, c2, e3, e4⟩ := owns_cell h2 e1
  rw [hv] at e3
  injection e3 with e3 _ _
  exact ⟨g, 0, a, e3, by rw [Nat.zero_add]; exact e4, e2.in'⟩
end

def partEq (fold : Bool) (p q : Nm.Part) : Bool := foldSame p.1 q.1 && (if fold then foldSame p.2 q.2 else decide (p.2 = q.2))
theorem partEq_key (fold : Bool) (p q : Nm.Part) : partEq fold p q = decide (NC.key fold p = NC.key fold q) := by
  unfold partEq NC.key foldSame
  rw [Bool.eq_iff_iff]
  cases fold <;> simp

/-- Texts of a sane length. -/
def PartFits (p : Nm.Part) : Prop := p.1.length < 1000000000 ∧ p.2.length < 1000000000

end Go.Proofs.YtjmahgefijncaaaGreatFmt

/- Equal and EqualFold of parts; hasAllAttributes, hasAllAttributesFold. -/
namespace Go.Proofs.YtjmahgefijncaaaGreatFmt
open Go Go.RowKit

set_option maxRecDepth 100000 in
set_option maxHeartbeats 4000000 in
theorem part_eq (a b : Nat) (p q : Nm.Part) (w : World) (hA : PartAt w a p) (hB : PartAt w b q) (fp : PartFits p) (fq : PartFits q) :
    Calls Tryz.prog 104 #[.pointer (some ⟨a, 0, none⟩), .pointer (some ⟨b, 0, none⟩)] w fun e w' => e = .returned (.bool (partEq false p q)) ∧ ∃ m, w' = w.drewN m := by
  have a0 : w.cell? ⟨a, 0, none⟩ = some (.string (Nm.bs p.1)) := blockCell hA 0
  have a1 : w.cell? ⟨a, 1, none⟩ = some (.string (Nm.bs p.2)) := blockCell hA 1
  have b0 : w.cell? ⟨b, 0, none⟩ = some (.string (Nm.bs q.1)) := blockCell hB 0
  have b1 : w.cell? ⟨b, 1, none⟩ = some (.string (Nm.bs q.2)) := blockCell hB 1
  have HF := fun w => fold_quiet p.1 q.1 (by have := fp.1; omega) (by have := fq.1; omega) w
  have hc : ((Nm.bs p.2).toList == (Nm.bs q.2).toList) = decide (p.2 = q.2) := by
    rw [bs_toList, bs_toList, Bool.eq_iff_iff]; simp
  unfold partEq
  simp only [Bool.false_eq_true, if_false]
  generalize foldSame p.1 q.1 = r1 at *
  generalize decide (p.2 = q.2) = r2 at *
  have HF := Lib.hid HF
  generalize Nm.bs p.2 = s1 at *
  generalize Nm.bs q.2 = s2 at *
  clear hA hB fp fq
  cases r1 with
  | false =>
    go_enter Tryz.func104, Tryz.ntmps104
    go_wp2_with fail
    go_quiet ((go_at_call 72; exact Calls.quiet_of (HF.out _)))
    go_wp2_with fail
    go_ret
    exact ⟨rfl, _, rfl⟩
  | true =>
    go_enter Tryz.func104, Tryz.ntmps104
    go_wp2_with fail
    go_quiet ((go_at_call 72; exact Calls.quiet_of (HF.out _)))
    go_wp2_with fail
    go_ret
    exact ⟨rfl, _, rfl⟩

set_option maxRecDepth 100000 in
set_option maxHeartbeats 4000000 in
theorem part_eq_fold (a b : Nat) (p q : Nm.Part) (w : World) (hA : PartAt w a p) (hB : PartAt w b q) (fp : PartFits p) (fq : PartFits q) :
    Calls Tryz.prog 105 #[.pointer (some ⟨a, 0, none⟩), .pointer (some ⟨b, 0, none⟩)] w fun e w' => e = .returned (.bool (partEq true p q)) ∧ ∃ m, w' = w.drewN m := by
  have a0 : w.cell? ⟨a, 0, none⟩ = some (.string (Nm.bs p.1)) := blockCell hA 0
  have a1 : w.cell? ⟨a, 1, none⟩ = some (.string (Nm.bs p.2)) := blockCell hA 1
  have b0 : w.cell? ⟨b, 0, none⟩ = some (.string (Nm.bs q.1)) := blockCell hB 0
  have b1 : w.cell? ⟨b, 1, none⟩ = some (.string (Nm.bs q.2)) := blockCell hB 1
  have HF := fun w => fold_quiet p.1 q.1 (by have := fp.1; omega) (by have := fq.1; omega) w
  have HG := fun w => fold_quiet p.2 q.2 (by have := fp.2; omega) (by have := fq.2; omega) w
  unfold partEq
  simp only [if_true]
  generalize foldSame p.1 q.1 = r1 at *
  generalize foldSame p.2 q.2 = r2 at *
  generalize Nm.bs p.1 = s1 at *
  generalize Nm.bs q.1 = s2 at *
  generalize Nm.bs p.2 = s3 at *
  generalize Nm.bs q.2 = s4 at *
  have HX : ∀ (x y : ByteArray) (r : Bool) (w : World), (x = s1 ∧ y = s2 ∧ r = r1) ∨ (x = s3 ∧ y = s4 ∧ r = r2) → Calls Tryz.prog 72 #[.string x, .string y] w fun e w' => e = .returned (.bool r) ∧ ∃ m, w' = w.drewN m := by
    rintro x y r w (⟨rfl, rfl, rfl⟩ | ⟨rfl, rfl, rfl⟩)
    · exact HF w
    · exact HG w
  have HX := Lib.hid HX
  clear hA hB fp fq HF HG
  cases r1 with
  | false =>
    go_enter Tryz.func105, Tryz.ntmps105
    go_wp2_with fail
    go_quiet ((go_at_call 72; exact Calls.quiet_of (HX.out _ _ _ _ (by first | exact Or.inl ⟨rfl, rfl, rfl⟩ | exact Or.inr ⟨rfl, rfl, rfl⟩))))
    go_wp2_with fail
    go_ret
    exact ⟨rfl, _, rfl⟩
  | true =>
    go_enter Tryz.func105, Tryz.ntmps105
    go_wp2_with fail
    go_quiet ((go_at_call 72; exact Calls.quiet_of (HX.out _ _ _ _ (by first | exact Or.inl ⟨rfl, rfl, rfl⟩ | exact Or.inr ⟨rfl, rfl, rfl⟩))))
    go_wp2_with fail
    go_ret
    exact ⟨rfl, _, rfl⟩

theorem info_bool : ∃ i, Tryz.prog.info? 4 = some i ∧ i.zero = some (.bool false) ∧ i.size = 1 ∧ i.bytes = 1 := info_parts (by kernel_rfl)

/-- The parts that are not taken yet. -/
def live : List Nm.Part → List Bool → List Nm.Part
  | k :: ks, f :: fs => if f then live ks fs else k :: live ks fs
  | _, _ => []
theorem live_start : ∀ ks : List Nm.Part, live ks (List.replicate ks.length false) = ks
  | [] => rfl
  | k :: ks => by rw [List.length_cons, List.replicate_succ, live, if_neg (by simp), live_start ks]
theorem live_none : ∀ {ks : List Nm.Part} {fl : List Bool} {k : Nm.Part}, (∀ (j : Nat) (k' : Nm.Part), ks[j]? = some k' → fl[j]? = some false → k' ≠ k) → k ∉ live ks fl
  | [], _, k, _ => by simp [live]
  | _ :: _, [], k, _ => by simp [live]
  | x :: ks, f :: fs, k, h => by
    have ih := live_none (ks := ks) (fl := fs) (k := k) (fun j k' h1 h2 => h (j + 1) k' (by simpa using h1) (by simpa using h2))
    rw [live]
    cases f with
    | true => simpa using ih
    | false =>
      have := h 0 x rfl rfl
      simp only [Bool.false_eq_true, if_false, List.mem_cons, not_or]
      exact ⟨fun e => this e.symm, ih⟩
theorem live_found : ∀ {ks : List Nm.Part} {fl : List Bool} {j : Nat} {k : Nm.Part}, ks[j]? = some k → fl[j]? = some false → (∀ (i : Nat) (k' : Nm.Part), i < j → ks[i]? = some k' → fl[i]? = some false → k' ≠ k) →
    k ∈ live ks fl ∧ live ks (fl.set j true) = (live ks fl).erase k
  | [], _, j, k, h, _, _ => by simp at h
  | _ :: _, [], j, k, _, h, _ => by simp at h
  | x :: ks, f :: fs, 0, k, h1, h2, _ => by
    simp only [List.getElem?_cons_zero, Option.some.injEq] at h1 h2
    subst h1 h2
    rw [List.set_cons_zero, live, live]
    simp
  | x :: ks, f :: fs, j + 1, k, h1, h2, h3 => by
    obtain ⟨e1, e2⟩ := live_found (ks := ks) (fl := fs) (j := j) (k := k) (by simpa using h1) (by simpa using h2) (fun i k' hi h4 h5 => h3 (i + 1) k' (by omega) (by simpa using h4) (by simpa using h5))
    rw [List.set_cons_succ, live, live]
    cases f with
    | true => simpa using ⟨e1, e2⟩
    | false =>
      have hne := h3 0 x (by omega) rfl rfl
      simp only [Bool.false_eq_true, if_false, List.mem_cons]
      refine ⟨Or.inr e1, ?_⟩
      rw [e2, List.erase_cons_tail (by simpa using hne)]

/-- A row of bools. -/
def FRow (w : World) (g : Nat) (fl : List Bool) : Prop := w.rowIs g 4 fl.length (fun j => .bool (fl.getD j false))
theorem FRow.cell {w : World} {g : Nat} {fl : List Bool} (h : FRow w g fl) {j : Nat} {b : Bool} (hj : fl[j]? = some b) : w.cell? ⟨g, j, none⟩ = some (.bool b) := by
  have hlt : j < fl.length := by
    rcases Nat.lt_or_ge j fl.length with h1 | h1
    · exact h1
    · rw [List.getElem?_eq_none h1] at hj; cases hj
  rw [World.rowIs.cell h hlt, List.getD_eq_getElem?_getD, hj]; rfl
theorem FRow.set {w : World} {g : Nat} {fl : List Bool} (h : FRow w g fl) (j : Nat) (hj : j < fl.length) (b : Bool) : FRow (w.setCell ⟨g, j, none⟩ (.bool b)) g (fl.set j b) := by
  have h1 := World.rowIs.set h j (.bool b)
  unfold FRow
  rw [List.length_set]
  refine h1.congr fun i hi => ?_
  rw [List.getD_eq_getElem?_getD, List.getD_eq_getElem?_getD, List.getElem?_set]
  by_cases e : i = j
  · subst e; simp [hi]
  · rw [if_neg e, if_neg (fun h => e h.symm)]
theorem FRow.stays {w w' : World} {g : Nat} {fl : List Bool} (h : FRow w g fl) (k : w'.heap[g]? = w.heap[g]?) : FRow w' g fl := World.rowIs.of_block h k
theorem FRow.made (w : World) (n : Nat) : FRow (w.alloc (.cells (madeCells #[.bool false] n) 4 (0, 0))) w.heap.size (List.replicate n false) := by
  have h := World.rowIs_made w (.bool false) n 4
  unfold FRow
  rw [List.length_replicate]
  exact h.congr fun i hi => by rw [List.getD_eq_getElem?_getD, List.getElem?_replicate, if_pos hi]; rfl

structure HasInv (fold : Bool) (ps qs : List Nm.Part) (w : World) (i : Nat) (fl : List Bool) (wr : World) : Prop where
  le : i ≤ qs.length
  len : fl.length = ps.length
  rest : NC.hasAll ((qs.drop i).map (NC.key fold)) (live (ps.map (NC.key fold)) fl) = NC.hasAll (qs.map (NC.key fold)) (ps.map (NC.key fold))
  row : FRow wr w.heap.size fl
  bel : Below w.heap.size w wr

end Go.Proofs.YtjmahgefijncaaaGreatFmt

/- hasAllAttributes, hasAllAttributesFold. -/
namespace Go.Proofs.YtjmahgefijncaaaGreatFmt
open Go Go.RowKit

set_option maxRecDepth 100000 in
set_option maxHeartbeats 8000000 in
theorem has_all (r : Nat) (v : Value) (ps qs : List Nm.Part) (w : World) (hR : RdnIn w r ps) (hQ : PtrParts w v qs) (fp : ∀ p ∈ ps, PartFits p) (fq : ∀ q ∈ qs, PartFits q) (hlp : ps.length < 1000000000) (hlq : qs.length < 1000000000) :
    Calls Tryz.prog 90 #[.pointer (some ⟨r, 0, none⟩), v] w fun e w' => e = .returned (.bool (NC.hasAll (qs.map (NC.key false)) (ps.map (NC.key false)))) ∧ Below w.heap.size w w' := by
  obtain ⟨vr, hrc, op, cp, rfl, hP⟩ := hR
  obtain ⟨oq, cq, rfl, hQ0⟩ := hQ
  have cR : w.cell? ⟨r, 0, none⟩ = some (.slice op ps.length cp) := blockCell hrc 0
  have hrlt := blockLt hrc
  have HP := Lib.hid hP
  have HQ := Lib.hid hQ0
  have FP := Lib.hid fp
  have FQ := Lib.hid fq
  obtain ⟨i0, hi, hz0, hz1, hz2⟩ := info_bool
  clear hrc hP hQ0 fp fq
  go_enter Tryz.func90, Tryz.ntmps90
  go_wp2_with (refine wpList_make_row _ rfl _ _ 108 rfl 4 i0 (.bool false) Tryz.underlying108 hi hz0 hz1 rfl .i64 .i64 ps.length rfl rfl ?b1 ?b2 ?_)
  case b1 => rw [hz2]; omega
  case b2 => omega
  have hrow := FRow.made w ps.length
  have hbel : Below w.heap.size w (w.alloc (.cells (madeCells #[.bool false] ps.length) 4 (0, 0))) := (Below.refl _ w).alloc (Nat.le_refl _) _
  have H0 : Hid (HasInv false ps qs w 0 (List.replicate ps.length false) (w.alloc (.cells (madeCells #[.bool false] ps.length) 4 (0, 0)))) := Lib.hid ⟨Nat.zero_le _, by simp, by
    rw [List.drop_zero]
    have := live_start (ps.map (NC.key false))
    rw [List.length_map] at this
    rw [this], hrow, hbel⟩
  have hsz : w.heap.size < (w.alloc (.cells (madeCells #[.bool false] ps.length) 4 (0, 0))).heap.size := by simp
  have cR1 : (w.alloc (.cells (madeCells #[.bool false] ps.length) 4 (0, 0))).cell? ⟨r, 0, none⟩ = some (.slice op ps.length cp) := (hbel.cell (p := ⟨r, 0, none⟩) hrlt).trans cR
  clear hrow hbel
  generalize (w.alloc (.cells (madeCells #[.bool false] ps.length) 4 (0, 0))) = W at *
  go_wp2_with fail
  go_loopw [19] (fun t19 wr => ∃ (i : Nat) (fl : List Bool), t19 = .int .i64 i ∧ Hid (HasInv false ps qs w i fl wr)) (fun t19 _ => qs.length - (intOf t19).toNat)
  case atStart => exact ⟨0, _, rfl, H0⟩
  case round =>
    clear H0 hsz cR1
    obtain ⟨i, fl, rfl, HI⟩ := hrel
    have hle := HI.out.le
    have hbz := HI.out.bel.size
    have hfl := HI.out.len
    have hgl := World.rowIs.lt HI.out.row
    by_cases hend : i = qs.length
    · have t1 : decide ((i : Int) < (qs.length : Int)) = false := by simp; omega
      have hres : NC.hasAll (qs.map (NC.key false)) (ps.map (NC.key false)) = true := by
        rw [← HI.out.rest, hend, List.drop_length]; rfl
      have HRS := Lib.hid hres
      clear hres
      go_wp2_with fail
      go_ret
      exact ⟨by rw [HRS.out]; rfl, HI.out.bel⟩
    · have hlt : i < qs.length := by omega
      have t1 : decide ((i : Int) < (qs.length : Int)) = true := by simp; omega
      obtain ⟨q, hq⟩ : ∃ q, qs[i]? = some q := ⟨_, List.getElem?_eq_getElem hlt⟩
      obtain ⟨bq, fq, aq, rfl, cq0, hqa⟩ := HQ.out i q hq
      have kq : wr.cell? ⟨bq, fq + i, none⟩ = some (.pointer (some ⟨aq, 0, none⟩)) := (HI.out.bel.cell (World.block_lt_of_cell? w ⟨bq, fq + i, none⟩ cq0)).trans cq0
      have kR : wr.cell? ⟨r, 0, none⟩ = some (.slice op ps.length cp) := (HI.out.bel.cell (p := ⟨r, 0, none⟩) hrlt).trans cR
      have hdrop : qs.drop i = q :: qs.drop (i + 1) := by
        rw [List.drop_eq_getElem_cons hlt]
        rw [List.getElem?_eq_getElem hlt] at hq
        rw [Option.some.inj hq]
      have HD := Lib.hid hdrop
      have HQA := Lib.hid hqa
      have fqq : PartFits q := FQ.out q (List.mem_of_getElem? hq)
      have HFQ := Lib.hid fqq
      have HB0 := Lib.hid HI.out.bel
      have HROW := Lib.hid HI.out.row
      clear hdrop hqa fqq cq0 hq
      go_wp2_with fail
      obtain ⟨wo, rfl⟩ : ∃ wo, wo = wr := ⟨_, rfl⟩
      go_loopw [8, 28] (fun t8 t28 wr => ∃ (j : Nat), t8 = .bool false ∧ t28 = .int .i64 j ∧ j ≤ ps.length ∧ Hid ((∀ (m : Nat) (k' : Nm.Part), m < j → (ps.map (NC.key false))[m]? = some k' → fl[m]? = some false → k' ≠ NC.key false q) ∧ FRow wr w.heap.size fl ∧ Below w.heap.size w wr)) (fun _ t28 _ => ps.length - (intOf t28).toNat)
      case atStart => exact ⟨0, rfl, rfl, Nat.zero_le _, Lib.hid ⟨fun m k' hm => absurd hm (Nat.not_lt_zero m), HROW.out, HB0.out⟩⟩
      case round =>
        clear t1
        obtain ⟨j, rfl, rfl, hj, HJ⟩ := hrel
        have hgj := World.rowIs.lt HJ.out.2.1
        by_cases hje : j = ps.length
        · have t2 : decide ((j : Int) < (ps.length : Int)) = false := by simp; omega
          have hres : NC.hasAll (qs.map (NC.key false)) (ps.map (NC.key false)) = false := by
            rw [← HI.out.rest, HD.out, List.map_cons, NC.hasAll, if_neg]
            refine live_none fun m k' h1 h2 => HJ.out.1 m k' ?_ h1 h2
            have : m < (ps.map (NC.key false)).length := by
              rcases Nat.lt_or_ge m (ps.map (NC.key false)).length with h | h
              · exact h
              · rw [List.getElem?_eq_none h] at h1; cases h1
            rw [List.length_map] at this
            omega
          have HRS := Lib.hid hres
          clear hres
          go_wp2_with fail
          go_ret
          exact ⟨by rw [HRS.out]; rfl, HJ.out.2.2⟩
        · have hjl : j < ps.length := by omega
          have hjf : j < fl.length := by omega
          have t2 : decide ((j : Int) < (ps.length : Int)) = true := by simp; omega
          obtain ⟨p, hp⟩ : ∃ p, ps[j]? = some p := ⟨_, List.getElem?_eq_getElem hjl⟩
          obtain ⟨bp, fo, ap, rfl, cp0, hpa⟩ := HP.out j p hp
          have kp : wr.cell? ⟨bp, fo + j, none⟩ = some (.pointer (some ⟨ap, 0, none⟩)) := (HJ.out.2.2.cell (World.block_lt_of_cell? w ⟨bp, fo + j, none⟩ cp0)).trans cp0
          have j0 : (0 : Int) ≤ (j : Int) := by omega
          have j1 : (j : Int) < (ps.length : Int) := by omega
          have hkp : (ps.map (NC.key false))[j]? = some (NC.key false p) := by rw [List.getElem?_map, hp]; rfl
          obtain ⟨b, hb⟩ : ∃ b, fl[j]? = some b := ⟨_, List.getElem?_eq_getElem hjf⟩
          have kb := HJ.out.2.1.cell hb
          cases b with
          | true =>
            have hnext : ∀ (m : Nat) (k' : Nm.Part), m < j + 1 → (ps.map (NC.key false))[m]? = some k' → fl[m]? = some false → k' ≠ NC.key false q := fun m k' hm h1 h2 => by
              by_cases e : m = j
              · subst e; rw [hb] at h2; cases h2
              · exact HJ.out.1 m k' (by omega) h1 h2
            have HN := Lib.hid hnext
            clear hnext hb hkp hpa hp cp0
            go_wp2_with fail
            exact ⟨⟨j + 1, rfl, by go_num, by omega, Lib.hid ⟨HN.out, HJ.out.2⟩⟩, by simp [intOf]; omega⟩
          | false =>
            have hwi := HJ.out.2.2.size
            have HE := Lib.hid (part_eq ap aq p q wr (partAt_stays hpa HJ.out.2.2) (partAt_stays HQA.out HJ.out.2.2) (FP.out p (List.mem_of_getElem? hp)) HFQ.out)
            rw [partEq_key] at HE
            by_cases hk : NC.key false p = NC.key false q
            · rw [decide_eq_true hk] at HE
              have hrest : NC.hasAll ((qs.drop (i + 1)).map (NC.key false)) (live (ps.map (NC.key false)) (fl.set j true)) = NC.hasAll (qs.map (NC.key false)) (ps.map (NC.key false)) := by
                obtain ⟨e1, e2⟩ := live_found (hk ▸ hkp) hb (fun m k' hm h1 h2 => HJ.out.1 m k' hm h1 h2)
                rw [← HI.out.rest, HD.out, List.map_cons, NC.hasAll, if_pos e1, e2]
              have HN := Lib.hid hrest
              clear hrest hk hkp hb hpa hp cp0
              go_wp2_with fail
              refine HE.out.mono ?_
              rintro e w2 ⟨rfl, m2, rfl⟩
              have hrow2 : FRow (wr.drewN m2) w.heap.size fl := HJ.out.2.1.stays rfl
              have hbel2 : Below w.heap.size w (wr.drewN m2) := HJ.out.2.2.trans ((drewN_below wr m2).mono hwi)
              have kb2 : (wr.drewN m2).cell? ⟨w.heap.size, j, none⟩ = some (.bool false) := kb
              have kf2 : (wr.drewN m2).frozen? ⟨w.heap.size, j, none⟩ = false := World.rowIs.frozen hrow2 j
              have hnew : HasInv false ps qs w (i + 1) (fl.set j true) ((wr.drewN m2).setCell ⟨w.heap.size, j, none⟩ (.bool true)) := ⟨hlt, by rw [List.length_set]; exact hfl, HN.out, hrow2.set j hjf true, hbel2.setCell (p := ⟨w.heap.size, j, none⟩) (Nat.le_refl _) _⟩
              have HNW := Lib.hid hnew
              clear hnew hrow2 hbel2 HE
              generalize wr.drewN m2 = w2 at *
              go_wp2_with fail
              exact ⟨⟨i + 1, _, by go_num, HNW⟩, by simp [intOf]; omega⟩
            · rw [decide_eq_false hk] at HE
              have hnext : ∀ (m : Nat) (k' : Nm.Part), m < j + 1 → (ps.map (NC.key false))[m]? = some k' → fl[m]? = some false → k' ≠ NC.key false q := fun m k' hm h1 h2 => by
                by_cases e : m = j
                · subst e; rw [hkp] at h1; rw [← Option.some.inj h1]; exact hk
                · exact HJ.out.1 m k' (by omega) h1 h2
              have HN := Lib.hid hnext
              clear hnext hb hkp hpa hp cp0 hk
              go_wp2_with fail
              refine HE.out.mono ?_
              rintro e w2 ⟨rfl, m2, rfl⟩
              have hst : FRow (wr.drewN m2) w.heap.size fl ∧ Below w.heap.size w (wr.drewN m2) := ⟨HJ.out.2.1.stays rfl, HJ.out.2.2.trans ((drewN_below wr m2).mono hwi)⟩
              have HST := Lib.hid hst
              clear hst HE
              generalize wr.drewN m2 = w2 at *
              go_wp2_with fail
              exact ⟨⟨j + 1, rfl, by go_num, by omega, Lib.hid ⟨HN.out, HST.out⟩⟩, by simp [intOf]; omega⟩

set_option maxRecDepth 100000 in
set_option maxHeartbeats 8000000 in
theorem has_all_fold (r : Nat) (v : Value) (ps qs : List Nm.Part) (w : World) (hR : RdnIn w r ps) (hQ : PtrParts w v qs) (fp : ∀ p ∈ ps, PartFits p) (fq : ∀ q ∈ qs, PartFits q) (hlp : ps.length < 1000000000) (hlq : qs.length < 1000000000) :
    Calls Tryz.prog 91 #[.pointer (some ⟨r, 0, none⟩), v] w fun e w' => e = .returned (.bool (NC.hasAll (qs.map (NC.key true)) (ps.map (NC.key true)))) ∧ Below w.heap.size w w' := by
  obtain ⟨vr, hrc, op, cp, rfl, hP⟩ := hR
  obtain ⟨oq, cq, rfl, hQ0⟩ := hQ
  have cR : w.cell? ⟨r, 0, none⟩ = some (.slice op ps.length cp) := blockCell hrc 0
  have hrlt := blockLt hrc
  have HP := Lib.hid hP
  have HQ := Lib.hid hQ0
  have FP := Lib.hid fp
  have FQ := Lib.hid fq
  obtain ⟨i0, hi, hz0, hz1, hz2⟩ := info_bool
  clear hrc hP hQ0 fp fq
  go_enter Tryz.func91, Tryz.ntmps91
  go_wp2_with (refine wpList_make_row _ rfl _ _ 108 rfl 4 i0 (.bool false) Tryz.underlying108 hi hz0 hz1 rfl .i64 .i64 ps.length rfl rfl ?b1 ?b2 ?_)
  case b1 => rw [hz2]; omega
  case b2 => omega
  have hrow := FRow.made w ps.length
  have hbel : Below w.heap.size w (w.alloc (.cells (madeCells #[.bool false] ps.length) 4 (0, 0))) := (Below.refl _ w).alloc (Nat.le_refl _) _
  have H0 : Hid (HasInv true ps qs w 0 (List.replicate ps.length false) (w.alloc (.cells (madeCells #[.bool false] ps.length) 4 (0, 0)))) := Lib.hid ⟨Nat.zero_le _, by simp, by
    rw [List.drop_zero]
    have := live_start (ps.map (NC.key true))
    rw [List.length_map] at this
    rw [this], hrow, hbel⟩
  have hsz : w.heap.size < (w.alloc (.cells (madeCells #[.bool false] ps.length) 4 (0, 0))).heap.size := by simp
  have cR1 : (w.alloc (.cells (madeCells #[.bool false] ps.length) 4 (0, 0))).cell? ⟨r, 0, none⟩ = some (.slice op ps.length cp) := (hbel.cell (p := ⟨r, 0, none⟩) hrlt).trans cR
  clear hrow hbel
  generalize (w.alloc (.cells (madeCells #[.bool false] ps.length) 4 (0, 0))) = W at *
  go_wp2_with fail
  go_loopw [19] (fun t19 wr => ∃ (i : Nat) (fl : List Bool), t19 = .int .i64 i ∧ Hid (HasInv true ps qs w i fl wr)) (fun t19 _ => qs.length - (intOf t19).toNat)
  case atStart => exact ⟨0, _, rfl, H0⟩
  case round =>
    clear H0 hsz cR1
    obtain ⟨i, fl, rfl, HI⟩ := hrel
    have hle := HI.out.le
    have hbz := HI.out.bel.size
    have hfl := HI.out.len
    have hgl := World.rowIs.lt HI.out.row
    by_cases hend : i = qs.length
    · have t1 : decide ((i : Int) < (qs.length : Int)) = false := by simp; omega
      have hres : NC.hasAll (qs.map (NC.key true)) (ps.map (NC.key true)) = true := by
        rw [← HI.out.rest, hend, List.drop_length]; rfl
      have HRS := Lib.hid hres
      clear hres
      go_wp2_with fail
      go_ret
      exact ⟨by rw [HRS.out]; rfl, HI.out.bel⟩
    · have hlt : i < qs.length := by omega
      have t1 : decide ((i : Int) < (qs.length : Int)) = true := by simp; omega
      obtain ⟨q, hq⟩ : ∃ q, qs[i]? = some q := ⟨_, List.getElem?_eq_getElem hlt⟩
      obtain ⟨bq, fq, aq, rfl, cq0, hqa⟩ := HQ.out i q hq
      have kq : wr.cell? ⟨bq, fq + i, none⟩ = some (.pointer (some ⟨aq, 0, none⟩)) := (HI.out.bel.cell (World.block_lt_of_cell? w ⟨bq, fq + i, none⟩ cq0)).trans cq0
      have kR : wr.cell? ⟨r, 0, none⟩ = some (.slice op ps.length cp) := (HI.out.bel.cell (p := ⟨r, 0, none⟩) hrlt).trans cR
      have hdrop : qs.drop i = q :: qs.drop (i + 1) := by
        rw [List.drop_eq_getElem_cons hlt]
        rw [List.getElem?_eq_getElem hlt] at hq
        rw [Option.some.inj hq]
      have HD := Lib.hid hdrop
      have HQA := Lib.hid hqa
      have fqq : PartFits q := FQ.out q (List.mem_of_getElem? hq)
      have HFQ := Lib.hid fqq
      have HB0 := Lib.hid HI.out.bel
      have HROW := Lib.hid HI.out.row
      clear hdrop hqa fqq cq0 hq
      go_wp2_with fail
      obtain ⟨wo, rfl⟩ : ∃ wo, wo = wr := ⟨_, rfl⟩
      go_loopw [8, 28] (fun t8 t28 wr => ∃ (j : Nat), t8 = .bool false ∧ t28 = .int .i64 j ∧ j ≤ ps.length ∧ Hid ((∀ (m : Nat) (k' : Nm.Part), m < j → (ps.map (NC.key true))[m]? = some k' → fl[m]? = some false → k' ≠ NC.key true q) ∧ FRow wr w.heap.size fl ∧ Below w.heap.size w wr)) (fun _ t28 _ => ps.length - (intOf t28).toNat)
      case atStart => exact ⟨0, rfl, rfl, Nat.zero_le _, Lib.hid ⟨fun m k' hm => absurd hm (Nat.not_lt_zero m), HROW.out, HB0.out⟩⟩
      case round =>
        clear t1
        obtain ⟨j, rfl, rfl, hj, HJ⟩ := hrel
        have hgj := World.rowIs.lt HJ.out.2.1
        by_cases hje : j = ps.length
        · have t2 : decide ((j : Int) < (ps.length : Int)) = false := by simp; omega
          have hres : NC.hasAll (qs.map (NC.key true)) (ps.map (NC.key true)) = false := by
            rw [← HI.out.rest, HD.out, List.map_cons, NC.hasAll, if_neg]
            refine live_none fun m k' h1 h2 => HJ.out.1 m k' ?_ h1 h2
            have : m < (ps.map (NC.key true)).length := by
              rcases Nat.lt_or_ge m (ps.map (NC.key true)).length with h | h
              · exact h
              · rw [List.getElem?_eq_none h] at h1; cases h1
            rw [List.length_map] at this
            omega
          have HRS := Lib.hid hres
          clear hres
          go_wp2_with fail
          go_ret
          exact ⟨by rw [HRS.out]; rfl, HJ.out.2.2⟩
        · have hjl : j < ps.length := by omega
          have hjf : j < fl.length := by omega
          have t2 : decide ((j : Int) < (ps.length : Int)) = true := by simp; omega
          obtain ⟨p, hp⟩ : ∃ p, ps[j]? = some p := ⟨_, List.getElem?_eq_getElem hjl⟩
          obtain ⟨bp, fo, ap, rfl, cp0, hpa⟩ := HP.out j p hp
          have kp : wr.cell? ⟨bp, fo + j, none⟩ = some (.pointer (some ⟨ap, 0, none⟩)) := (HJ.out.2.2.cell (World.block_lt_of_cell? w ⟨bp, fo + j, none⟩ cp0)).trans cp0
          have j0 : (0 : Int) ≤ (j : Int) := by omega
          have j1 : (j : Int) < (ps.length : Int) := by omega
          have hkp : (ps.map (NC.key true))[j]? = some (NC.key true p) := by rw [List.getElem?_map, hp]; rfl
          obtain ⟨b, hb⟩ : ∃ b, fl[j]? = some b := ⟨_, List.getElem?_eq_getElem hjf⟩
          have kb := HJ.out.2.1.cell hb
          cases b with
          | true =>
            have hnext : ∀ (m : Nat) (k' : Nm.Part), m < j + 1 → (ps.map (NC.key true))[m]? = some k' → fl[m]? = some false → k' ≠ NC.key true q := fun m k' hm h1 h2 => by
              by_cases e : m = j
              · subst e; rw [hb] at h2; cases h2
              · exact HJ.out.1 m k' (by omega) h1 h2
            have HN := Lib.hid hnext
            clear hnext hb hkp hpa hp cp0
            go_wp2_with fail
            exact ⟨⟨j + 1, rfl, by go_num, by omega, Lib.hid ⟨HN.out, HJ.out.2⟩⟩, by simp [intOf]; omega⟩
          | false =>
            have hwi := HJ.out.2.2.size
            have HE := Lib.hid (part_eq_fold ap aq p q wr (partAt_stays hpa HJ.out.2.2) (partAt_stays HQA.out HJ.out.2.2) (FP.out p (List.mem_of_getElem? hp)) HFQ.out)
            rw [partEq_key] at HE
            by_cases hk : NC.key true p = NC.key true q
            · rw [decide_eq_true hk] at HE
              have hrest : NC.hasAll ((qs.drop (i + 1)).map (NC.key true)) (live (ps.map (NC.key true)) (fl.set j true)) = NC.hasAll (qs.map (NC.key true)) (ps.map (NC.key true)) := by
                obtain ⟨e1, e2⟩ := live_found (hk ▸ hkp) hb (fun m k' hm h1 h2 => HJ.out.1 m k' hm h1 h2)
                rw [← HI.out.rest, HD.out, List.map_cons, NC.hasAll, if_pos e1, e2]
              have HN := Lib.hid hrest
              clear hrest hk hkp hb hpa hp cp0
              go_wp2_with fail
              refine HE.out.mono ?_
              rintro e w2 ⟨rfl, m2, rfl⟩
              have hrow2 : FRow (wr.drewN m2) w.heap.size fl := HJ.out.2.1.stays rfl
              have hbel2 : Below w.heap.size w (wr.drewN m2) := HJ.out.2.2.trans ((drewN_below wr m2).mono hwi)
              have kb2 : (wr.drewN m2).cell? ⟨w.heap.size, j, none⟩ = some (.bool false) := kb
              have kf2 : (wr.drewN m2).frozen? ⟨w.heap.size, j, none⟩ = false := World.rowIs.frozen hrow2 j
              have hnew : HasInv true ps qs w (i + 1) (fl.set j true) ((wr.drewN m2).setCell ⟨w.heap.size, j, none⟩ (.bool true)) := ⟨hlt, by rw [List.length_set]; exact hfl, HN.out, hrow2.set j hjf true, hbel2.setCell (p := ⟨w.heap.size, j, none⟩) (Nat.le_refl _) _⟩
              have HNW := Lib.hid hnew
              clear hnew hrow2 hbel2 HE
              generalize wr.drewN m2 = w2 at *
              go_wp2_with fail
              exact ⟨⟨i + 1, _, by go_num, HNW⟩, by simp [intOf]; omega⟩
            · rw [decide_eq_false hk] at HE
              have hnext : ∀ (m : Nat) (k' : Nm.Part), m < j + 1 → (ps.map (NC.key true))[m]? = some k' → fl[m]? = some false → k' ≠ NC.key true q := fun m k' hm h1 h2 => by
                by_cases e : m = j
                · subst e; rw [hkp] at h1; rw [← Option.some.inj h1]; exact hk
                · exact HJ.out.1 m k' (by omega) h1 h2
              have HN := Lib.hid hnext
              clear hnext hb hkp hpa hp cp0 hk
              go_wp2_with fail
              refine HE.out.mono ?_
              rintro e w2 ⟨rfl, m2, rfl⟩
              have hst : FRow (wr.drewN m2) w.heap.size fl ∧ Below w.heap.size w (wr.drewN m2) := ⟨HJ.out.2.1.stays rfl, HJ.out.2.2.trans ((drewN_below wr m2).mono hwi)⟩
              have HST := Lib.hid hst
              clear hst HE
              generalize wr.drewN m2 = w2 at *
              go_wp2_with fail
              exact ⟨⟨j + 1, rfl, by go_num, by omega, Lib.hid ⟨HN.out, HST.out⟩⟩, by simp [intOf]; omega⟩

end Go.Proofs.YtjmahgefijncaaaGreatFmt

/- Equal, EqualFold of relative names. -/
namespace Go.Proofs.YtjmahgefijncaaaGreatFmt
open Go Go.RowKit

theorem RdnIn.cell {w : World} {r : Nat} {ps : List Nm.Part} (h : RdnIn w r ps) : ∃ o c, w.cell? ⟨r, 0, none⟩ = some (.slice o ps.length c) ∧ PtrParts w (.slice o ps.length c) ps ∧ r < w.heap.size := by
  obtain ⟨v, h1, o, c, rfl, h2⟩ := h
  exact ⟨o, c, blockCell h1 0, ⟨o, c, rfl, h2⟩, blockLt h1⟩
def RdnFits (ps : List Nm.Part) : Prop := ps.length < 1000000000 ∧ ∀ p ∈ ps, PartFits p
def NameFits (n : Nm.Name) : Prop := n.length < 1000000000 ∧ ∀ ps ∈ n, RdnFits ps

set_option maxRecDepth 100000 in
set_option maxHeartbeats 4000000 in
theorem rdn_eq (a b : Nat) (ps qs : List Nm.Part) (w : World) (hA : RdnIn w a ps) (hB : RdnIn w b qs) (fp : RdnFits ps) (fq : RdnFits qs) :
    Calls Tryz.prog 80 #[.pointer (some ⟨a, 0, none⟩), .pointer (some ⟨b, 0, none⟩)] w fun e w' => e = .returned (.bool (NC.rdnEq false ps qs)) ∧ Below w.heap.size w w' := by
  obtain ⟨oa, ca, cA, hpa, hal⟩ := hA.cell
  obtain ⟨ob, cb, cB, hpb, hbl⟩ := hB.cell
  by_cases hlen : ps.length = qs.length
  · have t0 : ((ps.length : Int) != (qs.length : Int)) = false := by simp [hlen]
    have HA := Lib.hid (fun w' (hb : Below w.heap.size w w') => has_all a (.slice ob qs.length cb) ps qs w' (hA.stays hb) (hpb.stays hb) fp.2 fq.2 fp.1 fq.1)
    have HB := Lib.hid (fun w' (hb : Below w.heap.size w w') => has_all b (.slice oa ps.length ca) qs ps w' (hB.stays hb) (hpa.stays hb) fq.2 fp.2 fq.1 fp.1)
    have hr : NC.rdnEq false ps qs = (NC.hasAll (qs.map (NC.key false)) (ps.map (NC.key false)) && NC.hasAll (ps.map (NC.key false)) (qs.map (NC.key false))) := by
      unfold NC.rdnEq; rw [hlen]; simp
    rw [hr]
    clear hr hA hB hpa hpb fp fq hlen
    generalize NC.hasAll (qs.map (NC.key false)) (ps.map (NC.key false)) = r1 at *
    generalize NC.hasAll (ps.map (NC.key false)) (qs.map (NC.key false)) = r2 at *
    have kA : ∀ w', Below w.heap.size w w' → w'.cell? ⟨a, 0, none⟩ = some (.slice oa ps.length ca) := fun w' hb => (hb.cell (p := ⟨a, 0, none⟩) hal).trans cA
    have kB : ∀ w', Below w.heap.size w w' → w'.cell? ⟨b, 0, none⟩ = some (.slice ob qs.length cb) := fun w' hb => (hb.cell (p := ⟨b, 0, none⟩) hbl).trans cB
    have KA := Lib.hid kA
    have KB := Lib.hid kB
    clear kA kB
    go_enter Tryz.func80, Tryz.ntmps80
    go_wp2_with fail
    go_quiet (fail)
    have hb0 := drewN_below w nq
    have c1 := KA.out _ hb0
    have c2 := KB.out _ hb0
    have HB0 := Lib.hid hb0
    have hz0 : w.heap.size ≤ (w.drewN nq).heap.size := hb0.size
    clear cA cB hb0
    generalize w.drewN nq = w1 at *
    cases r1 with
    | false =>
      go_wp2_with fail
      refine (HA.out _ HB0.out).mono ?_
      rintro e w2 ⟨rfl, hb2⟩
      have HE := Lib.hid (HB0.out.trans (hb2.mono hz0))
      clear hb2
      go_wp2_with fail
      go_ret
      exact ⟨rfl, HE.out⟩
    | true =>
      go_wp2_with fail
      refine (HA.out _ HB0.out).mono ?_
      rintro e w2 ⟨rfl, hb2⟩
      have hb3 := HB0.out.trans (hb2.mono hz0)
      have hz2 := hb3.size
      have c3 := KA.out _ hb3
      have HE := Lib.hid hb3
      clear hb2 hb3 c1 c2
      go_wp2_with fail
      refine (HB.out _ HE.out).mono ?_
      rintro e w4 ⟨rfl, hb4⟩
      have HE2 := Lib.hid (HE.out.trans (hb4.mono hz2))
      clear hb4
      go_wp2_with fail
      go_ret
      exact ⟨rfl, HE2.out⟩
  · have t0 : ((ps.length : Int) != (qs.length : Int)) = true := by rw [bne_iff_ne]; omega
    have hr : NC.rdnEq false ps qs = false := by
      unfold NC.rdnEq
      have : (ps.length == qs.length) = false := by simpa using hlen
      rw [this]; rfl
    rw [hr]
    clear hr hA hB hpa hpb fp fq hlen
    go_enter Tryz.func80, Tryz.ntmps80
    go_wp2_with fail
    go_quiet (fail)
    go_wp2_with fail
    go_ret
    exact ⟨rfl, drewN_below w nq⟩

set_option maxRecDepth 100000 in
set_option maxHeartbeats 4000000 in
theorem rdn_eq_fold (a b : Nat) (ps qs : List Nm.Part) (w : World) (hA : RdnIn w a ps) (hB : RdnIn w b qs) (fp : RdnFits ps) (fq : RdnFits qs) :
    Calls Tryz.prog 81 #[.pointer (some ⟨a, 0, none⟩), .pointer (some ⟨b, 0, none⟩)] w fun e w' => e = .returned (.bool (NC.rdnEq true ps qs)) ∧ Below w.heap.size w w' := by
  obtain ⟨oa, ca, cA, hpa, hal⟩ := hA.cell
  obtain ⟨ob, cb, cB, hpb, hbl⟩ := hB.cell
  by_cases hlen : ps.length = qs.length
  · have t0 : ((ps.length : Int) != (qs.length : Int)) = false := by simp [hlen]
    have HA := Lib.hid (fun w' (hb : Below w.heap.size w w') => has_all_fold a (.slice ob qs.length cb) ps qs w' (hA.stays hb) (hpb.stays hb) fp.2 fq.2 fp.1 fq.1)
    have HB := Lib.hid (fun w' (hb : Below w.heap.size w w') => has_all_fold b (.slice oa ps.length ca) qs ps w' (hB.stays hb) (hpa.stays hb) fq.2 fp.2 fq.1 fp.1)
    have hr : NC.rdnEq true ps qs = (NC.hasAll (qs.map (NC.key true)) (ps.map (NC.key true)) && NC.hasAll (ps.map (NC.key true)) (qs.map (NC.key true))) := by
      unfold NC.rdnEq; rw [hlen]; simp
    rw [hr]
    clear hr hA hB hpa hpb fp fq hlen
    generalize NC.hasAll (qs.map (NC.key true)) (ps.map (NC.key true)) = r1 at *
    generalize NC.hasAll (ps.map (NC.key true)) (qs.map (NC.key true)) = r2 at *
    have kA : ∀ w', Below w.heap.size w w' → w'.cell? ⟨a, 0, none⟩ = some (.slice oa ps.length ca) := fun w' hb => (hb.cell (p := ⟨a, 0, none⟩) hal).trans cA
    have kB : ∀ w', Below w.heap.size w w' → w'.cell? ⟨b, 0, none⟩ = some (.slice ob qs.length cb) := fun w' hb => (hb.cell (p := ⟨b, 0, none⟩) hbl).trans cB
    have KA := Lib.hid kA
    have KB := Lib.hid kB
    clear kA kB
    go_enter Tryz.func81, Tryz.ntmps81
    go_wp2_with fail
    go_quiet (fail)
    have hb0 := drewN_below w nq
    have c1 := KA.out _ hb0
    have c2 := KB.out _ hb0
    have HB0 := Lib.hid hb0
    have hz0 : w.heap.size ≤ (w.drewN nq).heap.size := hb0.size
    clear cA cB hb0
    generalize w.drewN nq = w1 at *
    cases r1 with
    | false =>
      go_wp2_with fail
      refine (HA.out _ HB0.out).mono ?_
      rintro e w2 ⟨rfl, hb2⟩
      have HE := Lib.hid (HB0.out.trans (hb2.mono hz0))
      clear hb2
      go_wp2_with fail
      go_ret
      exact ⟨rfl, HE.out⟩
    | true =>
      go_wp2_with fail
      refine (HA.out _ HB0.out).mono ?_
      rintro e w2 ⟨rfl, hb2⟩
      have hb3 := HB0.out.trans (hb2.mono hz0)
      have hz2 := hb3.size
      have c3 := KA.out _ hb3
      have HE := Lib.hid hb3
      clear hb2 hb3 c1 c2
      go_wp2_with fail
      refine (HB.out _ HE.out).mono ?_
      rintro e w4 ⟨rfl, hb4⟩
      have HE2 := Lib.hid (HE.out.trans (hb4.mono hz2))
      clear hb4
      go_wp2_with fail
      go_ret
      exact ⟨rfl, HE2.out⟩
  · have t0 : ((ps.length : Int) != (qs.length : Int)) = true := by rw [bne_iff_ne]; omega
    have hr : NC.rdnEq true ps qs = false := by
      unfold NC.rdnEq
      have : (ps.length == qs.length) = false := by simpa using hlen
      rw [this]; rfl
    rw [hr]
    clear hr hA hB hpa hpb fp fq hlen
    go_enter Tryz.func81, Tryz.ntmps81
    go_wp2_with fail
    go_quiet (fail)
    go_wp2_with fail
    go_ret
    exact ⟨rfl, drewN_below w nq⟩

end Go.Proofs.YtjmahgefijncaaaGreatFmt

/- Bounds of what ParseDN may read. -/
namespace Go.Proofs.YtjmahgefijncaaaGreatFmt
open Go Go.RowKit

theorem encode_len4 (n : Int) : (Lib.encodeRune n).length ≤ 4 := by
  have h : (Lib.encodeRuneZ n).length ≤ 4 := by
    unfold Lib.encodeRuneZ
    repeat' split
    all_goals simp
  simpa [Lib.encodeRune] using h
theorem unescape_len : ∀ (k : Nat) (rs : List Nat) (v : List UInt8), rs.length ≤ k → Nm.unescape rs = some v → v.length ≤ 4 * rs.length
  | _, [], v, _, h => by simp [Nm.unescape] at h; subst h; simp
  | 0, c :: r, v, hk, h => by simp at hk
  | k + 1, c :: r, v, hk, h => by
    simp only [List.length_cons] at hk
    unfold Nm.unescape at h
    split at h
    · split at h
      · cases h
      · rename_i d r1
        simp only [List.length_cons] at hk
        split at h
        · simp only [Option.map_eq_some_iff] at h
          obtain ⟨u, hu, rfl⟩ := h
          have h1 := unescape_len k r1 u (by omega) hu
          have h2 := encode_len4 (d : Int)
          simp only [List.length_append, List.length_cons]
          omega
        · split at h
          · cases h
          · rename_i e r2
            simp only [List.length_cons] at hk
            split at h
            · simp only [Option.map_eq_some_iff] at h
              obtain ⟨u, hu, rfl⟩ := h
              have h1 := unescape_len k r2 u (by omega) hu
              simp only [List.length_cons]
              omega
            · cases h
    · split at h
      · cases h
      · simp only [Option.map_eq_some_iff] at h
        obtain ⟨u, hu, rfl⟩ := h
        have h1 := unescape_len k r u (by omega) hu
        have h2 := encode_len4 (c : Int)
        simp only [List.length_append, List.length_cons]
        omega
theorem decode_len4 {l v : List UInt8} (h : Nm.decode l = some v) : v.length ≤ 4 * (l.length + 1) := by
  have hsl : (Nm.strip l).length ≤ l.length + 1 := by
    have h1 := trimL_le l
    have h2 := trimR_le (Nm.trimL l)
    unfold Nm.strip
    split
    · simp; omega
    · omega
  have h1 := unescape_len _ _ _ (Nat.le_refl _) h
  have h2 := runes_len (Nm.bs (Nm.strip l)) (Nm.strip l).length 0
  omega
theorem anyR_len {l v : List UInt8} (h : AnyR l v) : v.length ≤ 40 * (l.length + 1) := by
  unfold AnyR at h
  split at h
  · obtain ⟨b, hb, p, hp, rfl⟩ := h
    have h1 := (Ber.readR_fits _ _ _ _ _ hp).size
    have h2 := Lib.Hx.decode_len (l.drop 1)
    rw [hb] at h2
    have h2 : b.length ≤ (l.drop 1).length / 2 := h2
    rw [List.length_drop] at h2
    have h3 : (Ber.body p).length ≤ (Ber.enc p).length := by
      cases p
      simp only [Ber.enc, List.length_append]
      omega
    simp only [List.length_nil] at h1
    omega
  · have := decode_len4 h
    omega

/-- What holds of all parts that may be read. -/
theorem parseR_all {VR : List UInt8 → List UInt8 → Prop} {VE : List UInt8 → Prop} (L : Nat) (P : Nm.Part → Prop) (hP : ∀ (s1 s2 t v : List UInt8), s1.length ≤ L → s2.length ≤ L → t ≠ [] → Nm.decode s1 = some t → VR s2 v → P (t, v)) :
    ∀ (l seg : List UInt8) (esc : Bool) (ty : List UInt8) (rdn : List Nm.Part) (dn : Nm.Name) (n : Nm.Name), Nm.parseR VR VE l seg esc ty rdn dn (some n) → seg.length + l.length ≤ L → (ty = [] ∨ ∃ s, s.length ≤ L ∧ Nm.decode s = some ty) → (∀ p ∈ rdn, P p) → (∀ ps ∈ dn, ∀ p ∈ ps, P p) → ∀ ps ∈ n, ∀ p ∈ ps, P p
  | [], seg, esc, ty, rdn, dn, n, h, hL, ht, h1, h2 => by
    unfold Nm.parseR at h
    split at h
    · cases h
    · rename_i hty
      obtain ⟨s, hs, hd⟩ := ht.resolve_left hty
      rcases h with ⟨-, h⟩ | ⟨v, hv, h⟩
      · cases h
      · injection h with h
        subst h
        intro ps hps
        rcases List.mem_append.1 hps with hps | hps
        · exact h2 ps hps
        · simp only [List.mem_singleton] at hps
          subst hps
          intro p hp
          rcases List.mem_append.1 hp with hp | hp
          · exact h1 p hp
          · simp only [List.mem_singleton] at hp
            subst hp
            exact hP s seg ty v hs (by omega) hty hd hv
  | c :: l, seg, esc, ty, rdn, dn, n, h, hL, ht, h1, h2 => by
    simp only [List.length_cons] at hL
    unfold Nm.parseR at h
    split at h
    · exact parseR_all L P hP l _ _ _ _ _ n h (by simp; omega) ht h1 h2
    · split at h
      · exact parseR_all L P hP l _ _ _ _ _ n h (by simp; omega) ht h1 h2
      · split at h
        · rcases h with ⟨-, h⟩ | ⟨t, hd, h⟩
          · cases h
          · exact parseR_all L P hP l _ _ _ _ _ n h (by simp; omega) (Or.inr ⟨seg, by omega, hd⟩) h1 h2
        · split at h
          · split at h
            · cases h
            · rename_i hty
              obtain ⟨s, hs, hd⟩ := ht.resolve_left hty
              rcases h with ⟨-, h⟩ | ⟨v, hv, h⟩
              · cases h
              · have hr : ∀ p ∈ rdn ++ [(ty, v)], P p := by
                  intro p hp
                  rcases List.mem_append.1 hp with hp | hp
                  · exact h1 p hp
                  · simp only [List.mem_singleton] at hp
                    subst hp
                    exact hP s seg ty v hs (by omega) hty hd hv
                split at h
                · exact parseR_all L P hP l _ _ _ _ _ n h (by simp; omega) (Or.inl rfl) hr h2
                · refine parseR_all L P hP l _ _ _ _ _ n h (by simp; omega) (Or.inl rfl) (by simp) (fun ps hps => ?_)
                  rcases List.mem_append.1 hps with hps | hps
                  · exact h2 ps hps
                  · simp only [List.mem_singleton] at hps
                    subst hps
                    exact hr
          · exact parseR_all L P hP l _ _ _ _ _ n h (by simp; omega) ht h1 h2
theorem parseDNR_all {VR : List UInt8 → List UInt8 → Prop} {VE : List UInt8 → Prop} {l : List UInt8} {n : Nm.Name} (P : Nm.Part → Prop) (hP : ∀ (s1 s2 t v : List UInt8), s1.length ≤ l.length → s2.length ≤ l.length → t ≠ [] → Nm.decode s1 = some t → VR s2 v → P (t, v)) (h : Nm.parseDNR VR VE l (some n)) : ∀ ps ∈ n, ∀ p ∈ ps, P p := by
  unfold Nm.parseDNR at h
  split at h
  · injection h with h; subst h; simp
  · exact parseR_all l.length P hP l [] false [] [] [] n h (by simp) (Or.inl rfl) (by simp) (by simp)

theorem any_fits {l : List UInt8} {n : Nm.Name} (hl : l.length ≤ 900) (h : Nm.parseDNR AnyR AnyE l (some n)) : NameFits n := by
  obtain ⟨h1, h2⟩ := parseDNR_len h
  refine ⟨by omega, fun ps hps => ⟨by have := h2 ps hps; omega, ?_⟩⟩
  refine parseDNR_all PartFits (fun s1 s2 t v hs1 hs2 _ hd hv => ⟨?_, ?_⟩) h ps hps
  · have := decode_len4 hd
    show t.length < _
    omega
  · have := anyR_len hv
    show v.length < _
    omega
end Go.Proofs.YtjmahgefijncaaaGreatFmt

