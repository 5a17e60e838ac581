/- Lists of texts and attributes in memory; entryAlike, entrySame, zzFits21. -/
import Derived.Test.YtjmahgefijncaaaGreatFmtJ2
import Derived.Test.YtjmahgefijncaaaGreatFmtJ3
set_option linter.unusedVariables false
set_option linter.unusedSimpArgs false
namespace Go.Proofs.YtjmahgefijncaaaGreatFmt
open Go Go.RowKit

/-- A bool is told; true says P. -/
def BoolRes (P : Prop) (e : Ending) : Prop := ∃ r, e = .returned (.bool r) ∧ (r = true → P)
/-- The slice v holds texts. -/
def StrsIn (w : World) (v : Value) (l : List (List UInt8)) : Prop :=
  ∃ o cap, v = .slice o l.length cap ∧ ∀ (j : Nat) (s : List UInt8), l[j]? = some s → ∃ b off, o = some ⟨b, off, none⟩ ∧ w.cell? ⟨b, off + j, none⟩ = some (.string (Nm.bs s))
theorem StrsIn.stays {w w' : World} {v : Value} {l : List (List UInt8)} (h : StrsIn w v l) (k : Below w.heap.size w w') : StrsIn w' v l := by
  obtain ⟨o, c, hv, h1⟩ := h
  refine ⟨o, c, hv, fun j p hj => ?_⟩
  obtain ⟨b, off, e, c0⟩ := h1 j p hj
  exact ⟨b, off, e, (k.cell (World.block_lt_of_cell? w ⟨b, off + j, none⟩ c0)).trans c0⟩
/-- An attribute: its type, its values. -/
abbrev Attr := List UInt8 × List (List UInt8)
/-- The slice v holds attributes. -/
def AttrsIn (w : World) (v : Value) (l : List Attr) : Prop :=
  ∃ o cap, v = .slice o l.length cap ∧ ∀ (j : Nat) (a : Attr), l[j]? = some a → ∃ b off u, o = some ⟨b, off, none⟩ ∧ w.cell? ⟨b, off + j * 2, none⟩ = some (.string (Nm.bs a.1)) ∧ w.cell? ⟨b, off + j * 2 + 1, none⟩ = some u ∧ StrsIn w u a.2
theorem AttrsIn.stays {w w' : World} {v : Value} {l : List Attr} (h : AttrsIn w v l) (k : Below w.heap.size w w') : AttrsIn w' v l := by
  obtain ⟨o, c, hv, h1⟩ := h
  refine ⟨o, c, hv, fun j p hj => ?_⟩
  obtain ⟨b, off, u, e, c0, c1, c2⟩ := h1 j p hj
  exact ⟨b, off, u, e, (k.cell (World.block_lt_of_cell? w ⟨b, off + j * 2, none⟩ c0)).trans c0, (k.cell (World.block_lt_of_cell? w ⟨b, off + j * 2 + 1, none⟩ c1)).trans c1, c2.stays k⟩

theorem bs_toList (l : List UInt8) : (Nm.bs l).toList = l := by
  exact ByteArray.toList_mk l

set_option maxRecDepth 100000 in
set_option maxHeartbeats 4000000 in
theorem alike_any (a b : List UInt8) (ha : a.length < 4000000000) (hb : b.length < 4000000000) (w : World) :
    Calls Tryz.prog 18 #[.string (Nm.bs a), .string (Nm.bs b)] w fun e w' => e = .returned (.bool (foldSame a b)) ∧ Below w.heap.size w w' := by
  have HA := Lib.hid (nameLower_any a ha w)
  have HB := Lib.hid (fun w => nameLower_any b hb w)
  by_cases h : low a = low b
  · have hr : foldSame a b = true := by simp [foldSame, h]
    rw [hr]
    rw [h] at HA
    clear hr
    go_enter Tryz.func18, Tryz.ntmps18
    clear h
    go_wp2_with fail
    refine HA.out.mono ?_
    rintro e w1 ⟨rfl, hb1⟩
    have HB1 := Lib.hid hb1
    have hsz := hb1.size
    clear hb1
    go_wp2_with fail
    refine (HB.out w1).mono ?_
    rintro e w2 ⟨rfl, hb2⟩
    have HB2 := Lib.hid (HB1.out.trans (hb2.mono hsz))
    clear hb2
    go_wp2_with fail
    go_ret
    exact ⟨rfl, HB2.out⟩
  · have hr : foldSame a b = false := by simp [foldSame, h]
    rw [hr]
    clear hr
    have hne : ((Nm.bs (low a)).toList == (Nm.bs (low b)).toList) = false := by
      rw [bs_toList, bs_toList, beq_eq_false_iff_ne]; exact h
    generalize Nm.bs (low a) = sa at *
    generalize Nm.bs (low b) = sb at *
    go_enter Tryz.func18, Tryz.ntmps18
    go_wp2_with fail
    refine HA.out.mono ?_
    rintro e w1 ⟨rfl, hb1⟩
    have HB1 := Lib.hid hb1
    have hsz := hb1.size
    clear hb1
    go_wp2_with fail
    refine (HB.out w1).mono ?_
    rintro e w2 ⟨rfl, hb2⟩
    have HB2 := Lib.hid (HB1.out.trans (hb2.mono hsz))
    clear hb2
    go_wp2_with fail
    go_ret
    exact ⟨rfl, HB2.out⟩

set_option maxRecDepth 100000 in
set_option maxHeartbeats 4000000 in
theorem entry_same (va vb : Value) (l : List (List UInt8)) (hl : l.length < 4000000000) (w : World) (hA : StrsIn w va l) (hB : StrsIn w vb l) :
    Calls Tryz.prog 19 #[va, vb] w fun e w' => e = .returned (.bool true) ∧ Below w.heap.size w w' := by
  obtain ⟨oa, ca, rfl, hrA⟩ := hA
  obtain ⟨ob, cb, rfl, hrB⟩ := hB
  have HA := Lib.hid hrA
  have HB := Lib.hid hrB
  clear hrA hrB
  have t0 : ((l.length : Int) != (l.length : Int)) = false := by simp
  go_enter Tryz.func19, Tryz.ntmps19
  go_wp2_with fail
  go_loopw [13] (fun t13 wr => ∃ (i : Nat), t13 = .int .i64 i ∧ i ≤ l.length ∧ Hid (Below w.heap.size w wr)) (fun t13 _ => l.length - (intOf t13).toNat)
  case atStart => exact ⟨0, rfl, Nat.zero_le _, Lib.hid (Below.refl _ _)⟩
  case round =>
    obtain ⟨i, rfl, hi, HL⟩ := hrel
    by_cases hend : i = l.length
    · subst hend
      have t1 : decide ((l.length : Int) < (l.length : Int)) = false := by simp
      go_wp2_with fail
      go_ret
      exact ⟨rfl, HL.out⟩
    · have hlt : i < l.length := by omega
      have t1 : decide ((i : Int) < (l.length : Int)) = true := by simp; omega
      obtain ⟨s, hp⟩ : ∃ s, l[i]? = some s := ⟨_, List.getElem?_eq_getElem hlt⟩
      obtain ⟨ga, offa, rfl, cra⟩ := HA.out i s hp
      obtain ⟨gb, offb, rfl, crb⟩ := HB.out i s hp
      have i0 : (0 : Int) ≤ (i : Int) := by omega
      have i1 : (i : Int) < (l.length : Int) := by omega
      have ka : wr.cell? ⟨ga, offa + i, none⟩ = some (.string (Nm.bs s)) := (HL.out.cell (World.block_lt_of_cell? w ⟨ga, offa + i, none⟩ cra)).trans cra
      have kb : wr.cell? ⟨gb, offb + i, none⟩ = some (.string (Nm.bs s)) := (HL.out.cell (World.block_lt_of_cell? w ⟨gb, offb + i, none⟩ crb)).trans crb
      clear cra crb hp hend
      go_wp2_with fail
      go_quiet (fail)
      go_wp2_with fail
      exact ⟨⟨i + 1, by go_num, by omega, Lib.hid ⟨HL.out.os, HL.out.tape, HL.out.output, HL.out.size, HL.out.block⟩⟩, by simp [intOf]; omega⟩

set_option maxRecDepth 100000 in
set_option maxHeartbeats 4000000 in
theorem fits2_any (va : Value) (l : List (List UInt8)) (hl : l.length ≤ 9223372036854775807) (w : World) (hA : StrsIn w va l) :
    Calls Tryz.prog 22 #[va] w fun e w' => BoolRes (l.length ≤ 2147483647 ∧ ∀ s ∈ l, s.length ≤ 2147483647) e ∧ Below w.heap.size w w' := by
  obtain ⟨oa, ca, rfl, hrA⟩ := hA
  have HA := Lib.hid hrA
  clear hrA
  by_cases hbig : l.length ≤ 2147483647
  · have t0 : decide ((l.length : Int) > 2147483647) = false := by simp; omega
    go_enter Tryz.func22, Tryz.ntmps22
    go_wp2_with fail
    go_loopw [10] (fun t10 wr => ∃ (i : Nat), t10 = .int .i64 i ∧ i ≤ l.length ∧ Hid (Below w.heap.size w wr ∧ ∀ s ∈ l.take i, s.length ≤ 2147483647)) (fun t10 _ => l.length - (intOf t10).toNat)
    case atStart => exact ⟨0, rfl, Nat.zero_le _, Lib.hid ⟨Below.refl _ _, by simp⟩⟩
    case round =>
      obtain ⟨i, rfl, hi, HL⟩ := hrel
      by_cases hend : i = l.length
      · subst hend
        have t1 : decide ((l.length : Int) < (l.length : Int)) = false := by simp
        go_wp2_with fail
        go_ret
        exact ⟨⟨_, rfl, fun _ => ⟨hbig, by have := HL.out.2; rw [List.take_length] at this; exact this⟩⟩, HL.out.1⟩
      · have hlt : i < l.length := by omega
        have t1 : decide ((i : Int) < (l.length : Int)) = true := by simp; omega
        obtain ⟨s, hp⟩ : ∃ s, l[i]? = some s := ⟨_, List.getElem?_eq_getElem hlt⟩
        obtain ⟨ga, offa, rfl, cra⟩ := HA.out i s hp
        have ka : wr.cell? ⟨ga, offa + i, none⟩ = some (.string (Nm.bs s)) := (HL.out.1.cell (World.block_lt_of_cell? w ⟨ga, offa + i, none⟩ cra)).trans cra
        have hss := bs_size s
        have hts := take_snoc hp
        have HTS := Lib.hid hts
        clear cra hp hend hts
        by_cases hs : s.length ≤ 2147483647
        · have t2 : decide ((s.length : Int) > 2147483647) = false := by simp; omega
          go_wp2_with fail
          exact ⟨⟨i + 1, by go_num, by omega, Lib.hid ⟨HL.out.1, by
            rw [HTS.out]
            intro x hx
            rcases List.mem_append.1 hx with hx | hx
            · exact HL.out.2 x hx
            · simp only [List.mem_singleton] at hx; rw [hx]; exact hs⟩⟩, by simp [intOf]; omega⟩
        · have t2 : decide ((s.length : Int) > 2147483647) = true := by simp; omega
          go_wp2_with fail
          go_ret
          exact ⟨⟨_, rfl, fun h => by simp at h⟩, HL.out.1⟩
  · have t0 : decide ((l.length : Int) > 2147483647) = true := by simp; omega
    go_enter Tryz.func22, Tryz.ntmps22
    go_wp2_with fail
    go_ret
    exact ⟨⟨_, rfl, fun h => by simp at h⟩, Below.refl _ _⟩
end Go.Proofs.YtjmahgefijncaaaGreatFmt

