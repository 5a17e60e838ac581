/- zzFits18, isName, nameASCII: they end; what they take. -/
import Derived.Test.YtjmahgefijncaaaGreatFmtRowsOf
import Derived.Test.YtjmahgefijncaaaGreatFmtTyp
import Derived.Test.YtjmahgefijncaaaGreatFmtU8
namespace Go.Proofs.YtjmahgefijncaaaGreatFmt
open Go Go.RowKit

def PartFit (p : Nm.Part) : Prop := p.1.length ≤ 2147483647 ∧ p.2.length ≤ 2147483647
def RdnFit (ps : List Nm.Part) : Prop := ps.length ≤ 2147483647 ∧ ∀ p ∈ ps, PartFit p
def NameFit (n : Nm.Name) : Prop := n.length ≤ 2147483647 ∧ ∀ ps ∈ n, RdnFit ps

set_option maxRecDepth 100000 in
set_option maxHeartbeats 4000000 in
theorem fits20_any (p : Nm.Part) (h1 : p.1.length ≤ 9223372036854775807) (h2 : p.2.length ≤ 9223372036854775807) (w : World) :
    Calls Tryz.prog 78 #[.agg #[.string (Nm.bs p.1), .string (Nm.bs p.2)]] w fun e w' => BoolRes (PartFit p) e ∧ Below w.heap.size w w' := by
  have hs1 := bs_size p.1
  have hs2 := bs_size p.2
  have hb := (Below.refl w.heap.size w).alloc (Nat.le_refl _) (.cells #[.string (Nm.bs p.1), .string (Nm.bs p.2)] 78 (0, 0))
  have HB := Lib.hid hb
  clear hb
  by_cases q1 : p.1.length ≤ 2147483647
  · have t1 : decide ((p.1.length : Int) > 2147483647) = false := by simp; omega
    by_cases q2 : p.2.length ≤ 2147483647
    · have t2 : decide ((p.2.length : Int) > 2147483647) = false := by simp; omega
      go_enter Tryz.func78, Tryz.ntmps78
      go_wp2_with fail
      go_ret
      exact ⟨⟨_, rfl, fun _ => ⟨q1, q2⟩⟩, HB.out⟩
    · have t2 : decide ((p.2.length : Int) > 2147483647) = true := by simp; omega
      go_enter Tryz.func78, Tryz.ntmps78
      go_wp2_with fail
      go_ret
      exact ⟨⟨_, rfl, fun h => by simp at h⟩, HB.out⟩
  · have t1 : decide ((p.1.length : Int) > 2147483647) = true := by simp; omega
    go_enter Tryz.func78, Tryz.ntmps78
    go_wp2_with fail
    go_ret
    exact ⟨⟨_, rfl, fun h => by simp at h⟩, HB.out⟩

set_option maxRecDepth 100000 in
set_option maxHeartbeats 8000000 in
theorem fits19_any (v : Value) (ps : List Nm.Part) (w : World) (hA : PartsIn w v ps) (hl : ps.length ≤ 9223372036854775807) (hl2 : ∀ p ∈ ps, p.1.length ≤ 9223372036854775807 ∧ p.2.length ≤ 9223372036854775807) :
    Calls Tryz.prog 52 #[v] w fun e w' => BoolRes (RdnFit ps) e ∧ Below w.heap.size w w' := by
  obtain ⟨oa, ca, rfl, hrA⟩ := hA
  have HA := Lib.hid hrA
  have HL2 := Lib.hid hl2
  clear hrA hl2
  by_cases hbig : ps.length ≤ 2147483647
  · have t0 : decide ((ps.length : Int) > 2147483647) = false := by simp; omega
    go_enter Tryz.func52, Tryz.ntmps52
    go_wp2_with fail
    go_loopw [10] (fun t10 wr => ∃ (i : Nat), t10 = .int .i64 i ∧ i ≤ ps.length ∧ Hid (Below w.heap.size w wr ∧ ∀ p ∈ ps.take i, PartFit p)) (fun t10 _ => ps.length - (intOf t10).toNat)
    case atStart => exact ⟨0, rfl, Nat.zero_le _, Lib.hid ⟨Below.refl _ _, by simp⟩⟩
    case round =>
      obtain ⟨i, rfl, hi, HL⟩ := hrel
      have hsz := HL.out.1.size
      by_cases hend : i = ps.length
      · subst hend
        have t1 : decide ((ps.length : Int) < (ps.length : Int)) = false := by simp
        go_wp2_with fail
        go_ret
        exact ⟨⟨_, rfl, fun _ => ⟨hbig, by have := HL.out.2; rw [List.take_length] at this; exact this⟩⟩, HL.out.1⟩
      · have hlt : i < ps.length := by omega
        have t1 : decide ((i : Int) < (ps.length : Int)) = true := by simp; omega
        obtain ⟨p, hp⟩ : ∃ p, ps[i]? = some p := ⟨_, List.getElem?_eq_getElem hlt⟩
        obtain ⟨ga, offa, rfl, cra, crb⟩ := HA.out i p hp
        have ka : wr.cell? ⟨ga, offa + i * 2, none⟩ = some (.string (Nm.bs p.1)) := (HL.out.1.cell (World.block_lt_of_cell? w ⟨ga, offa + i * 2, none⟩ cra)).trans cra
        have kb : wr.cell? ⟨ga, offa + i * 2 + 1, none⟩ = some (.string (Nm.bs p.2)) := (HL.out.1.cell (World.block_lt_of_cell? w ⟨ga, offa + i * 2 + 1, none⟩ crb)).trans crb
        have hpl := HL2.out p (List.mem_of_getElem? hp)
        have HC := Lib.hid (fits20_any p hpl.1 hpl.2)
        have HTS := Lib.hid (take_snoc hp)
        have HB := Lib.hid (HL.out.1.alloc hsz (.cells #[.string (Nm.bs p.1), .string (Nm.bs p.2)] 78 (0, 0)))
        clear cra crb hp hend hpl
        go_wp2_with fail
        refine (HC.out _).mono ?_
        rintro e w2 ⟨⟨r, rfl, hr⟩, hb2⟩
        have HB2 := Lib.hid (HB.out.trans (hb2.mono (by simp; omega)))
        have HR := Lib.hid hr
        clear hb2 hr
        cases r with
        | true =>
          go_wp2_with fail
          exact ⟨⟨i + 1, by go_num, by omega, Lib.hid ⟨HB2.out, by
            rw [HTS.out]
            intro x hx
            rcases List.mem_append.1 hx with hx | hx
            · exact HL.out.2 x hx
            · simp only [List.mem_singleton] at hx; rw [hx]; exact HR.out trivial⟩⟩, by simp [intOf]; omega⟩
        | false =>
          go_wp2_with fail
          go_ret
          exact ⟨⟨_, rfl, fun h => by simp at h⟩, HB2.out⟩
  · have t0 : decide ((ps.length : Int) > 2147483647) = true := by simp; omega
    go_enter Tryz.func52, Tryz.ntmps52
    go_wp2_with fail
    go_ret
    exact ⟨⟨_, rfl, fun h => by simp at h⟩, Below.refl _ _⟩

set_option maxRecDepth 100000 in
set_option maxHeartbeats 8000000 in
theorem fits18_any (v : Value) (n : Nm.Name) (w : World) (hA : NameIn w v n) (hl : n.length ≤ 9223372036854775807) (hl2 : ∀ ps ∈ n, ps.length ≤ 9223372036854775807 ∧ ∀ p ∈ ps, p.1.length ≤ 9223372036854775807 ∧ p.2.length ≤ 9223372036854775807) :
    Calls Tryz.prog 27 #[v] w fun e w' => BoolRes (NameFit n) e ∧ Below w.heap.size w w' := by
  obtain ⟨oa, ca, rfl, hrA⟩ := hA
  have HA := Lib.hid hrA
  have HL2 := Lib.hid hl2
  clear hrA hl2
  by_cases hbig : n.length ≤ 2147483647
  · have t0 : decide ((n.length : Int) > 2147483647) = false := by simp; omega
    go_enter Tryz.func27, Tryz.ntmps27
    go_wp2_with fail
    go_loopw [10] (fun t10 wr => ∃ (i : Nat), t10 = .int .i64 i ∧ i ≤ n.length ∧ Hid (Below w.heap.size w wr ∧ ∀ ps ∈ n.take i, RdnFit ps)) (fun t10 _ => n.length - (intOf t10).toNat)
    case atStart => exact ⟨0, rfl, Nat.zero_le _, Lib.hid ⟨Below.refl _ _, by simp⟩⟩
    case round =>
      obtain ⟨i, rfl, hi, HL⟩ := hrel
      have hsz := HL.out.1.size
      by_cases hend : i = n.length
      · subst hend
        have t1 : decide ((n.length : Int) < (n.length : Int)) = false := by simp
        go_wp2_with fail
        go_ret
        exact ⟨⟨_, rfl, fun _ => ⟨hbig, by have := HL.out.2; rw [List.take_length] at this; exact this⟩⟩, HL.out.1⟩
      · have hlt : i < n.length := by omega
        have t1 : decide ((i : Int) < (n.length : Int)) = true := by simp; omega
        obtain ⟨ps, hp⟩ : ∃ ps, n[i]? = some ps := ⟨_, List.getElem?_eq_getElem hlt⟩
        obtain ⟨ga, offa, u, rfl, cra, hpa⟩ := HA.out i ps hp
        have ka : wr.cell? ⟨ga, offa + i, none⟩ = some u := (HL.out.1.cell (World.block_lt_of_cell? w ⟨ga, offa + i, none⟩ cra)).trans cra
        have hpl := HL2.out ps (List.mem_of_getElem? hp)
        have HC := Lib.hid (fits19_any u ps wr (hpa.stays HL.out.1) hpl.1 hpl.2)
        have HTS := Lib.hid (take_snoc hp)
        obtain ⟨ou, cu, rfl, -⟩ := hpa
        clear cra hp hend hpl
        go_wp2_with fail
        refine HC.out.mono ?_
        rintro e w2 ⟨⟨r, rfl, hr⟩, hb2⟩
        have HB2 := Lib.hid (HL.out.1.trans (hb2.mono hsz))
        have HR := Lib.hid hr
        clear hb2 hr
        cases r with
        | true =>
          go_wp2_with fail
          exact ⟨⟨i + 1, by go_num, by omega, Lib.hid ⟨HB2.out, by
            rw [HTS.out]
            intro x hx
            rcases List.mem_append.1 hx with hx | hx
            · exact HL.out.2 x hx
            · simp only [List.mem_singleton] at hx; rw [hx]; exact HR.out trivial⟩⟩, by simp [intOf]; omega⟩
        | false =>
          go_wp2_with fail
          go_ret
          exact ⟨⟨_, rfl, fun h => by simp at h⟩, HB2.out⟩
  · have t0 : decide ((n.length : Int) > 2147483647) = true := by simp; omega
    go_enter Tryz.func27, Tryz.ntmps27
    go_wp2_with fail
    go_ret
    exact ⟨⟨_, rfl, fun h => by simp at h⟩, Below.refl _ _⟩

/-- What isName takes. -/
def PartIs (p : Nm.Part) : Prop := TypeOK p.1 ∧ p.1.length ≤ 12 ∧ p.2.length ≤ 20 ∧ Utf p.2
def RdnIs (ps : List Nm.Part) : Prop := 1 ≤ ps.length ∧ ps.length ≤ 3 ∧ ∀ p ∈ ps, PartIs p
def NameIs (n : Nm.Name) : Prop := n.length ≤ 5 ∧ ∀ ps ∈ n, RdnIs ps

set_option maxRecDepth 100000 in
set_option maxHeartbeats 16000000 in
theorem isname_any (v : Value) (n : Nm.Name) (w : World) (hA : NameIn w v n) (hf : NameFit n) :
    Calls Tryz.prog 28 #[v] w fun e w' => BoolRes (NameIs n) e ∧ Below w.heap.size w w' := by
  obtain ⟨oa, ca, rfl, hrA⟩ := hA
  have HA := Lib.hid hrA
  have HF := Lib.hid hf.2
  have hn := hf.1
  clear hrA hf
  go_enter Tryz.func28, Tryz.ntmps28
  go_wp2_with fail
  go_loopw [9] (fun t9 wr => ∃ (i : Nat), t9 = .int .i64 i ∧ i ≤ n.length ∧ Hid (Below w.heap.size w wr ∧ ∀ ps ∈ n.take i, RdnIs ps)) (fun t9 _ => n.length - (intOf t9).toNat)
  case atStart => exact ⟨0, rfl, Nat.zero_le _, Lib.hid ⟨Below.refl _ _, by simp⟩⟩
  case round =>
    obtain ⟨i, rfl, hi, HL⟩ := hrel
    have hsz := HL.out.1.size
    by_cases hend : i = n.length
    · subst hend
      have t1 : decide ((n.length : Int) < (n.length : Int)) = false := by simp
      obtain ⟨b5, hb5⟩ : ∃ b5, b5 = decide ((n.length : Int) ≤ 5) := ⟨_, rfl⟩
      have HB5 := Lib.hid hb5
      have hb5' := hb5.symm
      clear hb5
      go_wp2_with fail
      go_ret
      refine ⟨⟨b5, by first | rfl | (rw [← hb5']; rfl) | (rw [HB5.out]; rfl) | (rw [HB5.out]; simp), fun hb => ⟨?_, by have := HL.out.2; rw [List.take_length] at this; exact this⟩⟩, HL.out.1⟩
      rw [HB5.out] at hb
      have := of_decide_eq_true hb
      omega
    · have hlt : i < n.length := by omega
      have t1 : decide ((i : Int) < (n.length : Int)) = true := by simp; omega
      obtain ⟨ps, hp⟩ : ∃ ps, n[i]? = some ps := ⟨_, List.getElem?_eq_getElem hlt⟩
      obtain ⟨ga, offa, u, rfl, cra, hpa⟩ := HA.out i ps hp
      have ka : wr.cell? ⟨ga, offa + i, none⟩ = some u := (HL.out.1.cell (World.block_lt_of_cell? w ⟨ga, offa + i, none⟩ cra)).trans cra
      have hpl := HF.out ps (List.mem_of_getElem? hp)
      have HTS := Lib.hid (take_snoc hp)
      obtain ⟨ou, cu, rfl, hpc⟩ := hpa
      have HPC := Lib.hid hpc
      have HPF := Lib.hid hpl.2
      have hpl1 := hpl.1
      clear cra hp hend hpc hpl
      by_cases h1 : ps.length < 1
      · have q1 : decide ((ps.length : Int) < 1) = true := by simp; omega
        go_wp2_with fail
        go_ret
        exact ⟨⟨_, rfl, fun h => by simp at h⟩, HL.out.1⟩
      · have q1 : decide ((ps.length : Int) < 1) = false := by simp; omega
        by_cases h3 : ps.length > 3
        · have q2 : decide ((ps.length : Int) > 3) = true := by simp; omega
          go_wp2_with fail
          go_ret
          exact ⟨⟨_, rfl, fun h => by simp at h⟩, HL.out.1⟩
        · have q2 : decide ((ps.length : Int) > 3) = false := by simp; omega
          go_wp2_with fail
          have HL0 := Lib.hid HL.out.2
          obtain ⟨wo, rfl⟩ : ∃ wo, wo = wr := ⟨_, rfl⟩
          go_loopw [23] (fun t23 wr => ∃ (j : Nat), t23 = .int .i64 j ∧ j ≤ ps.length ∧ Hid (Below w.heap.size w wr ∧ ∀ p ∈ ps.take j, PartIs p)) (fun t23 _ => ps.length - (intOf t23).toNat)
          case atStart => exact ⟨0, rfl, Nat.zero_le _, Lib.hid ⟨HL.out.1, by simp⟩⟩
          case round =>
            clear t1 q1 q2
            obtain ⟨j, rfl, hj, HJ⟩ := hrel
            have hsj := HJ.out.1.size
            by_cases hje : j = ps.length
            · have t2 : decide ((j : Int) < (ps.length : Int)) = false := by simp; omega
              have hnext : ∀ x ∈ n.take (i + 1), RdnIs x := by
                rw [HTS.out]
                intro x hx
                rcases List.mem_append.1 hx with hx | hx
                · exact HL0.out x hx
                · simp only [List.mem_singleton] at hx
                  rw [hx]
                  refine ⟨by omega, by omega, ?_⟩
                  have := HJ.out.2
                  rw [hje, List.take_length] at this
                  exact this
              have HN := Lib.hid hnext
              clear hnext
              go_wp2_with fail
              exact ⟨⟨i + 1, by go_num, by omega, Lib.hid ⟨HJ.out.1, HN.out⟩⟩, by simp [intOf]; omega⟩
            · have hjl : j < ps.length := by omega
              have t2 : decide ((j : Int) < (ps.length : Int)) = true := by simp; omega
              obtain ⟨p, hp⟩ : ∃ p, ps[j]? = some p := ⟨_, List.getElem?_eq_getElem hjl⟩
              obtain ⟨gv, offv, rfl, ca, cb⟩ := HPC.out j p hp
              have k1 : wr.cell? ⟨gv, offv + j * 2, none⟩ = some (.string (Nm.bs p.1)) := (HJ.out.1.cell (World.block_lt_of_cell? w ⟨gv, offv + j * 2, none⟩ ca)).trans ca
              have k2 : wr.cell? ⟨gv, offv + j * 2 + 1, none⟩ = some (.string (Nm.bs p.2)) := (HJ.out.1.cell (World.block_lt_of_cell? w ⟨gv, offv + j * 2 + 1, none⟩ cb)).trans cb
              have hpf := HPF.out p (List.mem_of_getElem? hp)
              have HT := Lib.hid (type_any p.1 (by have := hpf.1; omega))
              have HU := Lib.hid (utf8_any p.2 (by have := hpf.2; omega))
              have HTS2 := Lib.hid (take_snoc hp)
              have hnew := heap_alloc_new wr (.cells #[.string (Nm.bs p.1), .string (Nm.bs p.2)] 78 (0, 0))
              have hbn := HJ.out.1.alloc hsj (.cells #[.string (Nm.bs p.1), .string (Nm.bs p.2)] 78 (0, 0))
              have HBN := Lib.hid hbn
              have hs1 := bs_size p.1
              have hs2 := bs_size p.2
              have HNW := Lib.hid hnew
              clear ca cb hp hpf hnew hbn
              go_wp2_with fail
              refine (HT.out _).mono ?_
              rintro e w2 ⟨⟨r, rfl, hr⟩, hb2⟩
              have hB2 := HBN.out.trans (hb2.mono (by simp; omega))
              have hV2 := (hb2.block wr.heap.size (by simp)).trans HNW.out
              have c0 : w2.cell? ⟨wr.heap.size, 0, none⟩ = some (.string (Nm.bs p.1)) := blockCell hV2 0
              have c1 : w2.cell? ⟨wr.heap.size, 1, none⟩ = some (.string (Nm.bs p.2)) := blockCell hV2 1
              have HB2 := Lib.hid hB2
              have hsz2 := hB2.size
              have HR := Lib.hid hr
              clear hb2 hr hB2 hV2 HNW HBN k1 k2
              cases r with
              | false =>
                go_wp2_with fail
                go_ret
                exact ⟨⟨_, rfl, fun h => by simp at h⟩, HB2.out⟩
              | true =>
                by_cases h12 : p.1.length > 12
                · have q3 : decide ((p.1.length : Int) > 12) = true := by simp; omega
                  go_wp2_with fail
                  go_ret
                  exact ⟨⟨_, rfl, fun h => by simp at h⟩, HB2.out⟩
                · have q3 : decide ((p.1.length : Int) > 12) = false := by simp; omega
                  by_cases h20 : p.2.length > 20
                  · have q4 : decide ((p.2.length : Int) > 20) = true := by simp; omega
                    go_wp2_with fail
                    go_ret
                    exact ⟨⟨_, rfl, fun h => by simp at h⟩, HB2.out⟩
                  · have q4 : decide ((p.2.length : Int) > 20) = false := by simp; omega
                    go_wp2_with fail
                    refine (HU.out w2).mono ?_
                    rintro e w3 ⟨⟨r, rfl, hr⟩, hb3⟩
                    have HB3 := Lib.hid (HB2.out.trans (hb3.mono hsz2))
                    have HR3 := Lib.hid hr
                    clear hb3 hr
                    cases r with
                    | false =>
                      go_wp2_with fail
                      go_ret
                      exact ⟨⟨_, rfl, fun h => by simp at h⟩, HB3.out⟩
                    | true =>
                      go_wp2_with fail
                      exact ⟨⟨j + 1, by go_num, by omega, Lib.hid ⟨HB3.out, by
                        rw [HTS2.out]
                        intro x hx
                        rcases List.mem_append.1 hx with hx | hx
                        · exact HJ.out.2 x hx
                        · simp only [List.mem_singleton] at hx; rw [hx]; exact ⟨HR.out trivial, by omega, by omega, HR3.out trivial⟩⟩⟩, by simp [intOf]; omega⟩
end Go.Proofs.YtjmahgefijncaaaGreatFmt
