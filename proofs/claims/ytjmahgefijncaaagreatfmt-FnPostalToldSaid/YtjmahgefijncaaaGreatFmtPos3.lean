/- NewPostalAddress, Lines, PostalRead. -/
import Derived.Test.YtjmahgefijncaaaGreatFmtPos2
import Derived.Laws.CopyOwn
import Derived.Deep.OwnRows
namespace Go.Proofs.YtjmahgefijncaaaGreatFmt
open Go Go.RowKit

structure NewInv (ls : List (List UInt8)) (w : World) (k : Nat) (v : Value) (wr : World) : Prop where
  own : wr.ownsRow w.heap.size 9 1 v k (strs (ls.take k))
  bel : Below w.heap.size w wr

set_option maxRecDepth 100000 in
set_option maxHeartbeats 8000000 in
theorem new_post (ls : List (List UInt8)) (hne : ls ≠ []) (hall : ∀ l ∈ ls, l ≠ []) (v : Value) (w : World) (hin : StrsIn w v ls) (hl : ls.length < 1000000000) :
    Calls Tryz.prog 48 #[v] w fun e w' => (∃ p, e = .returned (.tuple #[p, .nilIface]) ∧ PostAt w' p ls) ∧ Below w.heap.size w w' := by
  obtain ⟨i0, hi, hz0, hz1, hz2⟩ := info_str
  obtain ⟨o0, c0, rfl, hc0⟩ := hin
  have HC := Lib.hid hc0
  have HALL := Lib.hid hall
  have hpos : 0 < ls.length := by cases ls with | nil => exact absurd rfl hne | cons _ _ => simp
  clear hc0 hall hne
  go_enter Tryz.func48, Tryz.ntmps48
  go_wp2_with (refine wpList_make_own _ rfl _ _ 34 rfl w.heap.size 9 i0 (.string ⟨#[]⟩) 1 Tryz.underlying34 hi hz0 hz1 .i64 .i64 _ ls.length rfl rfl rfl ?b2 ?b3 (Nat.le_refl _) ?_)
  case b2 => rw [hz2]; omega
  case b3 => unfold maxLen; omega
  intro w2 hown2 hgr2
  have HI0 : Hid (NewInv ls w 0 (.slice (some ⟨w.heap.size, 0, none⟩) 0 ls.length) w2) :=
    Lib.hid ⟨hown2, (Below.refl _ w).grown hgr2 (Nat.le_refl _) (fun k hk => by cases hk)⟩
  clear hown2 hgr2
  go_wp2_with fail
  go_loopw [4, 12] (fun t4 t12 wr => ∃ (k : Nat) (o : Option Addr) (c : Nat), t12 = .int .i64 k ∧ t4 = .slice o k c ∧ k ≤ ls.length ∧ Hid (NewInv ls w k (.slice o k c) wr)) (fun _ t12 _ => ls.length - (intOf t12).toNat)
  case atStart => exact ⟨0, _, _, rfl, rfl, Nat.zero_le _, HI0⟩
  case round =>
    clear HI0
    obtain ⟨k, o, c, rfl, rfl, hle, HI⟩ := hrel
    have hbz := HI.out.bel.size
    by_cases hend : k = ls.length
    · subst hend
      have t1 : decide ((ls.length : Int) < (ls.length : Int)) = false := by simp
      have t2 : ((ls.length : Int) == 0) = false := by rw [beq_eq_false_iff_ne]; omega
      have hfin : PostAt (wr.alloc (.cells #[.slice o ls.length c] 127 (0, 0))) (.pointer (some ⟨wr.heap.size, 0, none⟩)) ls := by
        refine ⟨_, _, rfl, heap_alloc_new _ _, ?_⟩
        have := owns_low HI.out.own
        rw [List.take_length] at this
        exact this.alloc _
      have HF := Lib.hid hfin
      clear hfin
      go_wp2_with fail
      go_ret2
      exact ⟨⟨_, rfl, HF.out⟩, HI.out.bel.alloc (by omega) _⟩
    · have hlt : k < ls.length := by omega
      have t1 : decide ((k : Int) < (ls.length : Int)) = true := by simp; omega
      obtain ⟨line, hline⟩ : ∃ p, ls[k]? = some p := ⟨_, List.getElem?_eq_getElem hlt⟩
      obtain ⟨bb, off, rfl, hcell⟩ := HC.out k line hline
      have kc : wr.cell? ⟨bb, off + k, none⟩ = some (.string (Nm.bs line)) := (HI.out.bel.cell (World.block_lt_of_cell? w ⟨bb, off + k, none⟩ hcell)).trans hcell
      have hln := HALL.out line (List.mem_of_getElem? hline)
      have he : ((Nm.bs line).toList == ([] : List UInt8)) = false := by rw [bs_toList]; simpa using hln
      have HTS := Lib.hid (take_snoc hline)
      have HOW := Lib.hid HI.out.own
      clear hcell hline hln
      go_wp2_with (at_builtin; refine wpList_append_own _ rfl _ _ 34 rfl w.heap.size 9 i0 (.string ⟨#[]⟩) 1 16 Tryz.underlying34 hi hz0 hz1 hz2 rfl (by decide) _ _ _ rfl (HOW.out.alloc _) ⟨wr.heap.size, 0, none⟩ 1 1 [.string (Nm.bs line)] rfl rfl ?c1 ?c2 ?c3 ?c4 ?c5 ?_)
      case c1 =>
        intro j u hj
        match j, hj with
        | 0, hj => simp at hj; subst hj; simp [Addr.add]
      case c2 => intro u hu; simp at hu; subst hu; rfl
      case c3 => unfold maxLen; omega
      case c4 => omega
      case c5 => simp; omega
      intro v' w6 hown' hgrow _
      obtain ⟨o', c', rfl⟩ : ∃ o c, v' = .slice o (k + 1) c := by
        rcases hown'.2 with ⟨h, h0⟩ | ⟨g, cap, cur, h, _⟩
        · omega
        · exact ⟨_, _, h⟩
      have hnew : NewInv ls w (k + 1) (.slice o' (k + 1) c') w6 := ⟨by rw [HTS.out, strs_snoc]; exact hown', (HI.out.bel.alloc (by omega) _).grown hgrow (by simp; omega) (fun k hk => (HOW.out.lt k hk).1)⟩
      have HN := Lib.hid hnew
      clear hnew hown' hgrow
      go_wp2_with fail
      exact ⟨⟨k + 1, o', c', by go_num, rfl, by omega, HN⟩, by simp [intOf]; omega⟩

theorem StrsIn.cells {w : World} {o : Option Addr} {c : Nat} {l : List (List UInt8)} (h : StrsIn w (.slice o l.length c) l) (hl : 0 < l.length) : ∃ b off, o = some ⟨b, off, none⟩ ∧ ∀ (j : Nat) (u : Value), (strs l)[j]? = some u → w.cell? ((⟨b, off, none⟩ : Addr).add j) = some u := by
  obtain ⟨o', c', hv, hc⟩ := h
  injection hv with e1 _ _
  obtain ⟨b, off, e2, _⟩ := hc 0 _ (List.getElem?_eq_getElem hl)
  refine ⟨b, off, e1.trans e2, fun j u hj => ?_⟩
  simp only [strs, List.getElem?_map, Option.map_eq_some_iff] at hj
  obtain ⟨s, hs, rfl⟩ := hj
  obtain ⟨b', off', e3, e4⟩ := hc j s hs
  rw [e2] at e3
  injection e3 with e3
  injection e3 with e3 e5
  subst e3 e5
  unfold Addr.add
  split
  · rename_i h0; subst h0; exact e4
  · exact e4

set_option maxRecDepth 100000 in
set_option maxHeartbeats 8000000 in
theorem lines_any (ls : List (List UInt8)) (hne : ls ≠ []) (p : Value) (w : World) (hp : PostAt w p ls) (hl : ls.length < 1000000000) :
    Calls Tryz.prog 51 #[p] w fun e w' => (∃ v, e = .returned v ∧ StrsIn w' v ls) ∧ Below w.heap.size w w' := by
  obtain ⟨i0, hi, hz0, hz1, hz2⟩ := info_str
  obtain ⟨b, v, rfl, hb, hown⟩ := hp
  have hin := StrsOwn.in' hown
  obtain ⟨o0, c0, rfl⟩ := owns_form hown
  have cb : w.cell? ⟨b, 0, none⟩ = some (.slice o0 ls.length c0) := blockCell hb 0
  have hbl := blockLt hb
  obtain ⟨W, hW⟩ : ∃ W, W = w.alloc (.cells (madeCells #[.string ⟨#[]⟩] ls.length) 9 (0, 0)) := ⟨_, rfl⟩
  have hbel : Below w.heap.size w W := by rw [hW]; exact (Below.refl _ w).alloc (Nat.le_refl _) _
  have cb2 : W.cell? ⟨b, 0, none⟩ = some (.slice o0 ls.length c0) := (hbel.cell (p := ⟨b, 0, none⟩) hbl).trans cb
  have hin2 := hin.stays hbel
  have hnew : W.heap[w.heap.size]? = some (.cells (madeCells #[.string ⟨#[]⟩] ls.length) 9 (0, 0)) := by rw [hW]; exact heap_alloc_new _ _
  have hpos : 0 < ls.length := by cases ls with | nil => exact absurd rfl hne | cons _ _ => simp
  obtain ⟨b0, off0, rfl, hsrc⟩ := hin2.cells hpos
  have hrun := run_copy_row (P := Tryz.prog) W 34 34 3 9 w.heap.size 0 ls.length ls.length ⟨b0, off0, none⟩ ls.length c0 (madeCells #[.string ⟨#[]⟩] ls.length) 9 (strs ls)
    Tryz.underlying34 (by kernel_rfl) hnew (by rw [strs_len]; exact (Nat.min_self _).symm) hsrc (by rw [strs_len, size_madeCells]; omega) (by intro u hu; simp only [strs, List.mem_map] at hu; obtain ⟨t, _, rfl⟩ := hu; rfl)
  have hsp : ((madeCells #[Value.string ⟨#[]⟩] ls.length).toList.take 0 ++ strs ls ++ (madeCells #[Value.string ⟨#[]⟩] ls.length).toList.drop (0 + (strs ls).length)) = strs ls := by
    rw [List.take_zero, List.nil_append, Nat.zero_add, List.drop_of_length_le (by rw [Array.length_toList, size_madeCells, strs_len]; omega), List.append_nil]
  rw [hsp] at hrun
  have hg3 := setRow_heap W w.heap.size _ (strs ls).toArray _ _ hnew
  have hb3 := below_setRow hbel (Nat.le_refl _) (strs ls).toArray
  obtain ⟨w3, hw3⟩ : ∃ w3, w3 = W.setRow w.heap.size (strs ls).toArray := ⟨_, rfl⟩
  rw [← hw3] at hrun hg3 hb3
  have hrow : StrsIn w3 (.slice (some ⟨w.heap.size, 0, none⟩) ls.length ls.length) ls := by
    refine ⟨_, _, rfl, fun j s hj => ⟨_, _, rfl, ?_⟩⟩
    rw [Nat.zero_add, blockCell hg3 j]
    simp [strs, hj]
  have HF := Lib.hid (And.intro hrow hb3)
  have HRUN := Lib.hid hrun
  clear hin hin2 hown hb hnew hbel hsp hg3 hb3 hrow hrun hw3 hsrc hne
  go_enter Tryz.func51, Tryz.ntmps51
  go_wp2_with (refine wpList_make_row _ rfl _ _ 34 rfl 9 i0 (.string ⟨#[]⟩) Tryz.underlying34 hi hz0 hz1 rfl .i64 .i64 ls.length rfl rfl ?b1 ?b2 ?_)
  case b1 => rw [hz2]; omega
  case b2 => omega
  rw [← hW]
  clear hW cb
  go_wp2_with fail
  rw [HRUN.out]
  go_wp2_with fail
  go_ret
  exact ⟨⟨_, rfl, HF.out.1⟩, HF.out.2⟩

set_option maxRecDepth 100000 in
set_option maxHeartbeats 8000000 in
theorem postal_read (l : List UInt8) (hl : l.length < 100000000) (hpl : ∀ p ∈ Pos.split l, p.length ≤ l.length) (ls : List (List UInt8)) (hr : Pos.read (Pos.split l) = some ls) (hne : ls ≠ []) (hll : ls.length < 1000000000) (w : World) :
    Calls Tryz.prog 26 #[.string (Nm.bs l)] w fun e w' => (∃ v, e = .returned (.tuple #[v, .string ⟨#[]⟩]) ∧ StrsIn w' v ls) ∧ Below w.heap.size w w' := by
  have HP := Lib.hid (post_read l hl hpl ls hr hne w)
  clear hpl hr
  go_enter Tryz.func26, Tryz.ntmps26
  go_wp2_with fail
  refine HP.out.mono ?_
  rintro e w1 ⟨⟨p, rfl, hpa⟩, hb1⟩
  have hs1 := hb1.size
  have HL := Lib.hid (lines_any ls hne p w1 hpa hll)
  have HB1 := Lib.hid hb1
  clear hpa hb1 HP
  go_wp2_with fail
  refine HL.out.mono ?_
  rintro e w2 ⟨⟨v, rfl, hin⟩, hb2⟩
  have HB2 := Lib.hid (HB1.out.trans (hb2.mono hs1))
  have hs2 := HB2.out.size
  have HIN := Lib.hid hin
  clear hin hb2 HL
  go_wp2_with (at_builtin; refine wpList_append_copy rfl _ _ rfl rfl v rfl ls ?e1 HIN.out ?_)
  case e1 => omega
  intro v' w3 hown hb3
  have HF := Lib.hid (And.intro hown.in' (HB2.out.trans (hb3.mono hs2)))
  clear hown hb3
  go_wp2_with fail
  go_ret2
  exact ⟨⟨_, rfl, HF.out.1⟩, HF.out.2⟩
end Go.Proofs.YtjmahgefijncaaaGreatFmt
