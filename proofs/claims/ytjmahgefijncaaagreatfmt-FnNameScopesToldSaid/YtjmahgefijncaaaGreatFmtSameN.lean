/- NameSame, at the same names. -/
import Derived.Test.YtjmahgefijncaaaGreatFmtNameOf
import Derived.Deep.QuietTactic
import Derived.BigQuiet
namespace Go.Proofs.YtjmahgefijncaaaGreatFmt
open Go Go.RowKit

set_option maxRecDepth 100000 in
set_option maxHeartbeats 8000000 in
theorem name_same (va vb : Value) (n : Nm.Name) (w : World) (hA : NameIn w va n) (hB : NameIn w vb n) (hn : n.length < 1000000000) (hps : ∀ ps ∈ n, ps.length < 1000000000) :
    Calls Tryz.prog 14 #[va, vb] w fun e w' => e = .returned (.bool true) ∧ Below w.heap.size w w' := by
  obtain ⟨oa, ca, rfl, hrA⟩ := hA
  obtain ⟨ob, cb, rfl, hrB⟩ := hB
  have HA := Lib.hid hrA
  have HB := Lib.hid hrB
  clear hrA hrB
  have t0 : ((n.length : Int) != (n.length : Int)) = false := by simp
  go_enter Tryz.func14, Tryz.ntmps14
  go_wp2_with fail
  go_loopw [14] (fun t14 wr => ∃ (i : Nat), t14 = .int .i64 i ∧ i ≤ n.length ∧ Hid (Below w.heap.size w wr)) (fun t14 _ => n.length - (intOf t14).toNat)
  case atStart => exact ⟨0, rfl, Nat.zero_le _, Lib.hid (Below.refl _ _)⟩
  case round =>
    obtain ⟨i, rfl, hi, HL⟩ := hrel
    by_cases hend : i = n.length
    · subst hend
      have t1 : decide ((n.length : Int) < (n.length : Int)) = false := by simp
      go_wp2_with fail
      go_ret
      exact ⟨rfl, HL.out⟩
    · have hlt : i < n.length := by omega
      have t1 : decide ((i : Int) < (n.length : Int)) = true := by simp; omega
      obtain ⟨ps, hp⟩ : ∃ ps, n[i]? = some ps := ⟨_, List.getElem?_eq_getElem hlt⟩
      have hpl : ps.length < 1000000000 := hps ps (List.mem_of_getElem? hp)
      obtain ⟨ga, offa, ua, rfl, cra, hpa⟩ := HA.out i ps hp
      obtain ⟨gb, offb, ub, rfl, crb, hpb⟩ := HB.out i ps hp
      obtain ⟨oua, cua, rfl, hpca⟩ := hpa
      obtain ⟨oub, cub, rfl, hpcb⟩ := hpb
      have t2 : ((ps.length : Int) != (ps.length : Int)) = false := by simp
      have HPA := Lib.hid hpca
      have HPB := Lib.hid hpcb
      have HCA := Lib.hid cra
      have HCB := Lib.hid crb
      have i0 : (0 : Int) ≤ (i : Int) := by omega
      have i1 : (i : Int) < (n.length : Int) := by omega
      have ka : wr.cell? ⟨ga, offa + i, none⟩ = some (.slice oua ps.length cua) := (HL.out.cell (World.block_lt_of_cell? w ⟨ga, offa + i, none⟩ cra)).trans cra
      have kb : wr.cell? ⟨gb, offb + i, none⟩ = some (.slice oub ps.length cub) := (HL.out.cell (World.block_lt_of_cell? w ⟨gb, offb + i, none⟩ crb)).trans crb
      clear cra crb hpca hpcb hp hend
      go_wp2_with fail
      go_quiet (fail)
      go_wp2_with fail
      have HL2 : Hid (Below w.heap.size w (wr.drewN nq)) := Lib.hid ⟨HL.out.os, HL.out.tape, HL.out.output, HL.out.size, HL.out.block⟩
      clear HL ka kb
      generalize wr.drewN nq = wo at *
      go_loopw [33] (fun t33 wr => ∃ (j : Nat), t33 = .int .i64 j ∧ j ≤ ps.length ∧ Hid (Below w.heap.size w wr)) (fun t33 _ => ps.length - (intOf t33).toNat)
      case atStart => exact ⟨0, rfl, Nat.zero_le _, HL2⟩
      case round =>
        clear t1 HL2
        obtain ⟨j, rfl, hj, HL⟩ := hrel
        by_cases hje : j = ps.length
        · subst hje
          have t3 : decide ((ps.length : Int) < (ps.length : Int)) = false := by simp
          go_wp2_with fail
          exact ⟨⟨i + 1, by go_num, by omega, HL⟩, by simp [intOf]; omega⟩
        · have hjl : j < ps.length := by omega
          have t3 : decide ((j : Int) < (ps.length : Int)) = true := by simp; omega
          obtain ⟨p, hp⟩ : ∃ p, ps[j]? = some p := ⟨_, List.getElem?_eq_getElem hjl⟩
          obtain ⟨ha, fa, rfl, ca1, ca2⟩ := HPA.out j p hp
          obtain ⟨hb, fb, rfl, cb1, cb2⟩ := HPB.out j p hp
          have j0 : (0 : Int) ≤ (j : Int) := by omega
          have j1 : (j : Int) < (ps.length : Int) := by omega
          have mv : ∀ {b o : Nat} {u : Value}, w.cell? ⟨b, o, none⟩ = some u → wr.cell? ⟨b, o, none⟩ = some u := fun {b o u} h => (HL.out.cell (World.block_lt_of_cell? w ⟨b, o, none⟩ h)).trans h
          have ka := mv HCA.out
          have kb := mv HCB.out
          have k1 := mv ca1
          have k2 := mv ca2
          have k3 := mv cb1
          have k4 := mv cb2
          clear mv ca1 ca2 cb1 cb2 hp
          go_wp2_with fail
          go_quiet (fail)
          go_wp2_with fail
          exact ⟨⟨j + 1, by go_num, by omega, Lib.hid ⟨HL.out.os, HL.out.tape, HL.out.output, HL.out.size, HL.out.block⟩⟩, by simp [intOf]; omega⟩
end Go.Proofs.YtjmahgefijncaaaGreatFmt
