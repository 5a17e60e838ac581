/- zzFits22, zzFits21; NewEntryAttribute. -/
import Derived.Test.YtjmahgefijncaaaGreatFmtEnt0
namespace Go.Proofs.YtjmahgefijncaaaGreatFmt
open Go Go.RowKit

def AttrFits (a : Attr) : Prop := a.1.length ≤ 2147483647 ∧ a.2.length ≤ 2147483647 ∧ ∀ s ∈ a.2, s.length ≤ 2147483647

set_option maxRecDepth 100000 in
set_option maxHeartbeats 4000000 in
theorem fits22_any (a : Attr) (u : Value) (hl : a.2.length ≤ 9223372036854775807) (w : World) (hA : StrsIn w u a.2) :
    Calls Tryz.prog 41 #[.agg #[.string (Nm.bs a.1), u]] w fun e w' => BoolRes (AttrFits a) e ∧ Below w.heap.size w w' := by
  have hss := bs_size a.1
  obtain ⟨o, c, rfl, hr⟩ := hA
  have HF := Lib.hid (fun w2 h => fits2_any (.slice o a.2.length c) a.2 hl w2 (StrsIn.stays (w := w) ⟨o, c, rfl, hr⟩ h))
  clear hr
  by_cases hs : a.1.length ≤ 2147483647
  · have t2 : decide ((a.1.length : Int) > 2147483647) = false := by simp; omega
    go_enter Tryz.func41, Tryz.ntmps41
    go_wp2_with fail
    refine (HF.out _ ((Below.refl _ w).alloc (Nat.le_refl _) _)).mono ?_
    rintro e w1 ⟨⟨r, rfl, hr⟩, hb⟩
    have HR := Lib.hid hr
    have HB := Lib.hid (((Below.refl _ w).alloc (Nat.le_refl _) _).trans (hb.mono (by simp)))
    clear hr hb
    cases r
    all_goals
      go_wp2_with fail
      go_ret
    · exact ⟨⟨_, rfl, fun h => by simp at h⟩, HB.out⟩
    · exact ⟨⟨_, rfl, fun h => ⟨hs, HR.out trivial⟩⟩, HB.out⟩
  · have t2 : decide ((a.1.length : Int) > 2147483647) = true := by simp; omega
    go_enter Tryz.func41, Tryz.ntmps41
    go_wp2_with fail
    go_ret
    exact ⟨⟨_, rfl, fun h => by simp at h⟩, (Below.refl _ w).alloc (Nat.le_refl _) _⟩

set_option maxRecDepth 100000 in
set_option maxHeartbeats 4000000 in
theorem fits21_any (va : Value) (l : List Attr) (hl : l.length ≤ 9223372036854775807) (hl2 : ∀ a ∈ l, a.2.length ≤ 9223372036854775807) (w : World) (hA : AttrsIn w va l) :
    Calls Tryz.prog 16 #[va] w fun e w' => BoolRes (l.length ≤ 2147483647 ∧ ∀ a ∈ l, AttrFits a) e ∧ Below w.heap.size w w' := by
  obtain ⟨oa, ca, rfl, hrA⟩ := hA
  have HA := Lib.hid hrA
  have HL2 := Lib.hid hl2
  clear hrA hl2
  by_cases hbig : l.length ≤ 2147483647
  · have t0 : decide ((l.length : Int) > 2147483647) = false := by simp; omega
    go_enter Tryz.func16, Tryz.ntmps16
    go_wp2_with fail
    go_loopw [10] (fun t10 wr => ∃ (i : Nat), t10 = .int .i64 i ∧ i ≤ l.length ∧ Hid (Below w.heap.size w wr ∧ ∀ a ∈ l.take i, AttrFits a)) (fun t10 _ => l.length - (intOf t10).toNat)
    case atStart => exact ⟨0, rfl, Nat.zero_le _, Lib.hid ⟨Below.refl _ _, by simp⟩⟩
    case round =>
      obtain ⟨i, rfl, hi, HL⟩ := hrel
      have hsz := HL.out.1.size
      by_cases hend : i = l.length
      · subst hend
        have t1 : decide ((l.length : Int) < (l.length : Int)) = false := by simp
        go_wp2_with fail
        go_ret
        exact ⟨⟨_, rfl, fun _ => ⟨hbig, by have := HL.out.2; rw [List.take_length] at this; exact this⟩⟩, HL.out.1⟩
      · have hlt : i < l.length := by omega
        have t1 : decide ((i : Int) < (l.length : Int)) = true := by simp; omega
        obtain ⟨a, hp⟩ : ∃ a, l[i]? = some a := ⟨_, List.getElem?_eq_getElem hlt⟩
        obtain ⟨ga, offa, u, rfl, cra, crb, hst⟩ := HA.out i a hp
        have ka : wr.cell? ⟨ga, offa + i * 2, none⟩ = some (.string (Nm.bs a.1)) := (HL.out.1.cell (World.block_lt_of_cell? w ⟨ga, offa + i * 2, none⟩ cra)).trans cra
        have kb : wr.cell? ⟨ga, offa + i * 2 + 1, none⟩ = some u := (HL.out.1.cell (World.block_lt_of_cell? w ⟨ga, offa + i * 2 + 1, none⟩ crb)).trans crb
        obtain ⟨o, c, hu, hst2⟩ := id hst
        have hF := fun w2 (h : Below w.heap.size w w2) => fits22_any a u (HL2.out a (List.mem_of_getElem? hp)) w2 (hst.stays h)
        have HF := Lib.hid hF
        have hts := take_snoc hp
        have HTS := Lib.hid hts
        subst hu
        clear cra crb hp hend hts hF hst hst2
        go_wp2_with fail
        refine (HF.out _ (HL.out.1.alloc (by omega) _)).mono ?_
        rintro e w1 ⟨⟨r, rfl, hr⟩, hb⟩
        have HR := Lib.hid hr
        have HB := Lib.hid ((HL.out.1.alloc (by omega) _).trans (hb.mono (by simp; omega)))
        clear hr hb HF
        cases r
        · go_wp2_with fail
          go_ret
          exact ⟨⟨_, rfl, fun h => by simp at h⟩, HB.out⟩
        · go_wp2_with fail
          exact ⟨⟨i + 1, by go_num, by omega, Lib.hid ⟨HB.out, by
            rw [HTS.out]
            intro x hx
            rcases List.mem_append.1 hx with hx | hx
            · exact HL.out.2 x hx
            · simp only [List.mem_singleton] at hx; rw [hx]; exact HR.out trivial⟩⟩, by simp [intOf]; omega⟩
  · have t0 : decide ((l.length : Int) > 2147483647) = true := by simp; omega
    go_enter Tryz.func16, Tryz.ntmps16
    go_wp2_with fail
    go_ret
    exact ⟨⟨_, rfl, fun h => by simp at h⟩, Below.refl _ _⟩

theorem info_bytes : ∃ i, Tryz.prog.info? 51 = some i ∧ i.zero = some (.slice none 0 0) ∧ i.size = 1 ∧ i.bytes = 24 := info_parts (by kernel_rfl)

set_option maxRecDepth 100000 in
set_option maxHeartbeats 8000000 in
theorem new_attr (a : Attr) (u : Value) (hl : a.2.length ≤ 2147483647) (hs : ∀ s ∈ a.2, s.length ≤ 2147483647) (w : World) (hA : StrsIn w u a.2) :
    Calls Tryz.prog 43 #[.string (Nm.bs a.1), u] w fun e w' => (∃ (p : Nat) (x : Value), e = .returned (.pointer (some ⟨p, 0, none⟩)) ∧ w.heap.size ≤ p ∧ w'.heap[p]? = some (.cells #[.string (Nm.bs a.1), u, x] 125 (0, 0))) ∧ Below w.heap.size w w' := by
  obtain ⟨o, c, rfl, hr⟩ := hA
  have HA := Lib.hid hr
  clear hr
  obtain ⟨i1, hi1, hz10, hz11, hz12⟩ := info_bytes
  go_enter Tryz.func43, Tryz.ntmps43
  go_wp2_with fail
  go_loopw [5, 10] (fun t5 t10 wr => ∃ (i : Nat) (o5 : Option Addr) (c5 : Nat) (xs : List Value), t10 = .int .i64 i ∧ t5 = .slice o5 i c5 ∧ i ≤ a.2.length ∧ Hid (wr.ownsRow w.heap.size 51 1 (.slice o5 i c5) i xs ∧ Below w.heap.size w wr)) (fun _ t10 _ => a.2.length - (intOf t10).toNat)
  case atStart => exact ⟨0, none, 0, [], rfl, rfl, Nat.zero_le _, Lib.hid ⟨owns_start _ _ _ _, Below.refl _ _⟩⟩
  case round =>
    obtain ⟨i, o5, c5, xs, rfl, rfl, hi, HI⟩ := hrel
    have hsz := HI.out.2.size
    by_cases hend : i = a.2.length
    · subst hend
      have t1 : decide ((a.2.length : Int) < (a.2.length : Int)) = false := by simp
      go_wp2_with fail
      go_ret
      exact ⟨⟨_, _, rfl, hsz, heap_alloc_new _ _⟩, HI.out.2.alloc (by omega) _⟩
    · have hlt : i < a.2.length := by omega
      have t1 : decide ((i : Int) < (a.2.length : Int)) = true := by simp; omega
      obtain ⟨s, hp⟩ : ∃ s, a.2[i]? = some s := ⟨_, List.getElem?_eq_getElem hlt⟩
      have hsl := hs s (List.mem_of_getElem? hp)
      obtain ⟨ga, offa, rfl, cra⟩ := HA.out i s hp
      have ka : wr.cell? ⟨ga, offa + i, none⟩ = some (.string (Nm.bs s)) := (HI.out.2.cell (World.block_lt_of_cell? w ⟨ga, offa + i, none⟩ cra)).trans cra
      have hcv := conv_bytes' wr (Nm.bs s)
      have hbw := Lib.bytesWorld_below wr 5 (Nm.bs s)
      have hbz := Lib.bytesWorld_size wr 5 (Nm.bs s)
      rw [bs_size] at hcv
      generalize grownCap wr s.length 0 5 = cap0 at hcv
      generalize Lib.bytesWorld wr 5 (Nm.bs s) = BW at *
      have hownB : BW.ownsRow w.heap.size 51 1 (.slice o5 i c5) i xs := owns_stays HI.out.1 (fun g hg => hbw.block g (owns_lt HI.out.1 g hg))
      have hownW : (BW.alloc (.cells #[.slice (some ⟨wr.heap.size, 0, none⟩) s.length cap0] 51)).ownsRow w.heap.size 51 1 (.slice o5 i c5) i xs := hownB.alloc _
      have hnews : ∀ k u, ([.slice (some ⟨wr.heap.size, 0, none⟩) s.length cap0] : List Value)[k]? = some u → (BW.alloc (.cells #[.slice (some ⟨wr.heap.size, 0, none⟩) s.length cap0] 51)).cell? ((⟨BW.heap.size, 0, none⟩ : Addr).add k) = some u := by
        intro k u hk
        exact World.news_of_block (B := BW.heap.size) (heap_alloc_new BW _) k u (by simpa using hk)
      have h1c : ∀ u ∈ ([.slice (some ⟨wr.heap.size, 0, none⟩) s.length cap0] : List Value), u.oneCell' = true := by intro u hu; simp at hu; subst hu; rfl
      have h63 : i + 1 ≤ maxLen := by simp only [maxLen]; omega
      have hby : (i + 1) * 24 ≤ 140737488355328 := by omega
      have hbase : w.heap.size ≤ (BW.alloc (.cells #[.slice (some ⟨wr.heap.size, 0, none⟩) s.length cap0] 51)).heap.size := by simp; omega
      have HBW := Lib.hid (HI.out.2.trans (hbw.mono hsz))
      have hbz2 : w.heap.size ≤ BW.heap.size := by omega
      have HOB := Lib.hid hownB
      clear cra hp hbw hbz hownB hs
      go_wp2_with (at_builtin; refine wpList_append_lies _ (by rfl) _ _ _ (by rfl) w.heap.size 51 i1 (.slice none 0 0) 1 24 Tryz.underlying123 hi1 hz10 hz11 hz12 rfl (by decide) _ i xs (by rfl) hownW ⟨BW.heap.size, 0, none⟩ 1 1 [.slice (some ⟨wr.heap.size, 0, none⟩) s.length cap0] (by rfl) rfl hnews h1c (by decide) h63 hby hbase (BW.heap.size + 1) (by simp) ?_)
      intro g' cap w4 hown' hgr hat hlt'
      have HE := Lib.hid (And.intro hown' ((HBW.out.alloc hbz2 _).grown hgr (by simp; omega) (fun k hk => HOB.out.lt k hk |>.1)))
      clear hown' hgr hat hownW hnews h1c hby hbase hcv
      go_wp2_with fail
      exact ⟨⟨i + 1, _, _, _, by go_num, rfl, by omega, HE⟩, by simp [intOf]; omega⟩
end Go.Proofs.YtjmahgefijncaaaGreatFmt
