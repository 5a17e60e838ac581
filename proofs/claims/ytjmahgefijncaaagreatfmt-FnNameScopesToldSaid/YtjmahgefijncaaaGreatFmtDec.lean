/- decodeString, where what it reads is right. -/
import Derived.Test.YtjmahgefijncaaaGreatFmtDec0
namespace Go.Proofs.YtjmahgefijncaaaGreatFmt
open Go Go.RowKit

/-- The round's head: i runes are read, acc is what they say. -/
structure DecInv (rs : List Nat) (v : List UInt8) (w : World) (R b : Nat) (i : Nat) (acc : List UInt8) (wr : World) : Prop where
  le : i ≤ rs.length
  rest : ∃ u, Nm.unescape (rs.drop i) = some u ∧ acc ++ u = v
  bld : Bld b b (Lib.byteCells acc) wr
  row : RuneRow wr R rs
  bel : Below w.heap.size w wr
  few : acc.length ≤ 4 * i

set_option maxRecDepth 100000 in
set_option maxHeartbeats 8000000 in
theorem dec_some (l : List UInt8) (hl : l.length < 100000000) (v : List UInt8) (hv : Nm.decode l = some v) (w : World) (ev : Value) (hE : w.cell? ⟨1, 0, none⟩ = some ev) :
    Calls Tryz.prog 85 #[.string (Nm.bs l)] w fun e w' => e = .returned (.tuple #[.string (Nm.bs v), .nilIface]) ∧ Below w.heap.size w w' := by
  have hst := strip_any l (by omega) w
  have hsl : (Nm.strip l).length ≤ l.length + 1 := by
    have h1 := trimL_le l
    have h2 := trimR_le (Nm.trimL l)
    unfold Nm.strip
    split
    · rw [List.length_append]; simp; omega
    · omega
  unfold Nm.decode at hv
  have HST := Lib.hid hst
  generalize Nm.strip l = t at hsl hv HST
  have HV := Lib.hid hv
  clear hv hst
  go_enter Tryz.func85, Tryz.ntmps85
  go_wp2_with fail
  refine HST.out.mono ?_
  rintro e w1 ⟨rfl, hb⟩
  obtain ⟨W, cap, hconv, hrow, hbW, hszW, hcap⟩ := to_runes t (by omega) w1
  have hsz1 := hb.size
  have HB := Lib.hid (hb.trans (hbW.mono hb.size))
  have HROW := Lib.hid hrow
  have hlow : w1.heap.size < W.heap.size := by omega
  clear hb hbW hrow hszW
  have hrl := runes_len (Nm.bs t) t.length 0
  have hrs := runes_small (Nm.bs t) t.length 0
  generalize Nm.runes (Nm.bs t) t.length 0 = rs at *
  go_wp2_with fail
  go_loopw [6] (fun t6 wr => ∃ (i : Nat) (acc : List UInt8), t6 = .int .i64 i ∧ Hid (DecInv rs v w w1.heap.size W.heap.size i acc wr)) (fun t6 _ => rs.length - (intOf t6).toNat)
  case atStart =>
    refine ⟨0, [], rfl, Lib.hid ⟨Nat.zero_le _, ⟨v, HV.out, rfl⟩, ?_, ?_, ?_, Nat.le_refl _⟩⟩
    · exact Lib.fresh_isBuilder 130 5 W
    · exact HROW.out.stays (Below.heap_alloc _ _ _ HROW.out.lt)
    · exact HB.out.alloc (by omega) _
  case round =>
    obtain ⟨i, acc, rfl, HI⟩ := hrel
    have hlt := HI.out.bld.lt
    have hle := HI.out.le
    have hsz2 := HI.out.bel.size
    have hfew := HI.out.few
    by_cases hend : i = rs.length
    · have t1 : decide ((i : Int) < (rs.length : Int)) = false := by simp; omega
      have hacc : acc = v := by
        obtain ⟨u, h1, h2⟩ := HI.out.rest
        rw [hend, List.drop_length] at h1
        rw [← Option.some.inj (show some [] = some u from h1), List.append_nil] at h2
        exact h2
      have hS := Tryz.Builder_String_any W.heap.size W.heap.size acc wr HI.out.bld (by omega)
      have HS := Lib.hid hS
      clear hS
      go_wp2_with fail
      refine HS.out.mono ?_
      rintro e w2 ⟨rfl, hb⟩
      have HB2 := Lib.hid (HI.out.bel.trans (hb.mono (by omega)))
      clear hb
      go_wp2_with fail
      go_ret2
      exact ⟨rfl, HB2.out⟩
    · have hi : i < rs.length := by omega
      have t1 : decide ((i : Int) < (rs.length : Int)) = true := by simp; omega
      obtain ⟨c, hc⟩ : ∃ c, rs[i]? = some c := ⟨_, List.getElem?_eq_getElem hi⟩
      have hcc := HI.out.row.cell hc
      have hcs : c ≤ 2147483647 := hrs c (List.mem_of_getElem? hc)
      have hdrop : rs.drop i = c :: rs.drop (i + 1) := by
        rw [List.drop_eq_getElem_cons hi]
        rw [List.getElem?_eq_getElem hi] at hc
        rw [Option.some.inj hc]
      by_cases h92 : c = 92
      · have t2 : ((c : Int) != 92) = false := by rw [h92]; rfl
        have hi1 : i + 1 < rs.length := by
          rcases Nat.lt_or_ge (i + 1) rs.length with h | h
          · exact h
          · obtain ⟨u, h1, _⟩ := HI.out.rest
            rw [hdrop, List.drop_of_length_le h, h92] at h1
            simp [Nm.unescape] at h1
        obtain ⟨d, hd⟩ : ∃ d, rs[i + 1]? = some d := ⟨_, List.getElem?_eq_getElem hi1⟩
        have hdc := HI.out.row.cell hd
        have hds : d ≤ 2147483647 := hrs d (List.mem_of_getElem? hd)
        have hdrop2 : rs.drop (i + 1) = d :: rs.drop (i + 2) := by
          rw [List.drop_eq_getElem_cons hi1]
          rw [List.getElem?_eq_getElem hi1] at hd
          rw [Option.some.inj hd]
        have t3 : decide ((i : Int) + 1 ≥ (rs.length : Int)) = false := by simp; omega
        by_cases hsp : Nm.special d = true
        · obtain ⟨u, hu, hau⟩ : ∃ u, Nm.unescape (rs.drop (i + 2)) = some u ∧ acc ++ (Lib.encodeRune d ++ u) = v := by
            obtain ⟨u, h1, h2⟩ := HI.out.rest
            rw [hdrop, hdrop2, h92] at h1
            unfold Nm.unescape at h1
            rw [if_pos rfl] at h1
            simp only [hsp, if_true, Option.map_eq_some_iff] at h1
            obtain ⟨u', h3, h4⟩ := h1
            exact ⟨u', h3, by rw [← h2, ← h4]⟩
          have hW := rune_bld W.heap.size W.heap.size (Lib.byteCells acc) d (by omega) (by omega) wr HI.out.bld (by rw [Lib.byteCells_length]; omega) (by omega)
          have HU := Lib.hid hu
          have HA := Lib.hid hau
          have hnext : ∀ w2, Bld W.heap.size W.heap.size (Lib.byteCells acc ++ Lib.runeCells d) w2 → Below W.heap.size wr w2 → DecInv rs v w w1.heap.size W.heap.size (i + 2) (acc ++ Lib.encodeRune d) w2 := by
            intro w2 hb2 hbel
            refine ⟨hi1, ⟨u, HU.out, by rw [List.append_assoc]; exact HA.out⟩, by rw [Lib.byteCells_append, Lib.byteCells_encodeRune]; exact hb2, HI.out.row.stays (hbel.block _ (by omega)), HI.out.bel.trans (hbel.mono (by omega)), ?_⟩
            have h4 := Lib.runeCells_le (d : Int)
            rw [Lib.runeCells_length] at h4
            rw [List.length_append]; omega
          have HW := Lib.hid hW
          have HN := Lib.hid hnext
          have hsp' : d = 32 ∨ d = 34 ∨ d = 35 ∨ d = 43 ∨ d = 44 ∨ d = 59 ∨ d = 60 ∨ d = 61 ∨ d = 62 ∨ d = 92 := by
            simp only [Nm.special, Bool.or_eq_true, beq_iff_eq] at hsp
            omega
          clear hW hu hau hdrop hdrop2 hnext hsp h92 hds hd
          rcases hsp' with rfl | rfl | rfl | rfl | rfl | rfl | rfl | rfl | rfl | rfl
          all_goals
            go_wp2_with fail
            refine HW.out.mono ?_
            rintro e w2 ⟨⟨n, rfl⟩, hb2, hbel⟩
            have HNN := Lib.hid (HN.out w2 hb2 hbel)
            clear hb2 hbel
            go_wp2_with fail
            exact ⟨⟨i + 2, _, by go_num, HNN⟩, by simp [intOf]; omega⟩
        · obtain ⟨e, he, x, y, hx, hy, u, hu, hau⟩ : ∃ e, rs[i + 2]? = some e ∧ ∃ x y, Nm.hexDigit d = some x ∧ Nm.hexDigit e = some y ∧ ∃ u, Nm.unescape (rs.drop (i + 3)) = some u ∧ acc ++ (UInt8.ofNat (x * 16 + y) :: u) = v := by
            obtain ⟨u, h1, h2⟩ := HI.out.rest
            rw [hdrop, hdrop2, h92] at h1
            unfold Nm.unescape at h1
            rw [if_pos rfl] at h1
            simp only [hsp, Bool.false_eq_true, if_false] at h1
            rcases Nat.lt_or_ge (i + 2) rs.length with h | h
            · rw [List.drop_eq_getElem_cons h] at h1
              simp only [] at h1
              cases hx : Nm.hexDigit d with
              | none => rw [hx] at h1; simp at h1
              | some x =>
                cases hy : Nm.hexDigit rs[i + 2] with
                | none => rw [hx, hy] at h1; simp at h1
                | some y =>
                  rw [hx, hy] at h1
                  simp only [Option.map_eq_some_iff] at h1
                  obtain ⟨u', h3, h4⟩ := h1
                  exact ⟨_, List.getElem?_eq_getElem h, x, y, rfl, hy, u', h3, by rw [← h2, ← h4]⟩
            · rw [List.drop_of_length_le h] at h1
              simp at h1
          obtain ⟨x1, x2, x3⟩ := hex_of hx
          obtain ⟨y1, y2, y3⟩ := hex_of hy
          have hi2 : i + 2 < rs.length := by
            rcases Nat.lt_or_ge (i + 2) rs.length with h | h
            · exact h
            · rw [List.getElem?_eq_none h] at he; cases he
          have hec := HI.out.row.cell he
          have t4 : decide ((i : Int) + 2 ≥ (rs.length : Int)) = false := by simp; omega
          have hnr : Nm.special d = false := by simpa using hsp
          simp only [Nm.special, Bool.or_eq_false_iff, beq_eq_false_iff_ne] at hnr
          obtain ⟨⟨⟨⟨⟨⟨⟨⟨⟨n1, n2⟩, n3⟩, n4⟩, n5⟩, n6⟩, n7⟩, n8⟩, n9⟩, n0⟩ := hnr
          have q1 : ((d : Int) == 32) = false := by rw [beq_eq_false_iff_ne]; omega
          have q2 : ((d : Int) == 34) = false := by rw [beq_eq_false_iff_ne]; omega
          have q3 : ((d : Int) == 35) = false := by rw [beq_eq_false_iff_ne]; omega
          have q4 : ((d : Int) == 43) = false := by rw [beq_eq_false_iff_ne]; omega
          have q5 : ((d : Int) == 44) = false := by rw [beq_eq_false_iff_ne]; omega
          have q6 : ((d : Int) == 59) = false := by rw [beq_eq_false_iff_ne]; omega
          have q7 : ((d : Int) == 60) = false := by rw [beq_eq_false_iff_ne]; omega
          have q8 : ((d : Int) == 61) = false := by rw [beq_eq_false_iff_ne]; omega
          have q9 : ((d : Int) == 62) = false := by rw [beq_eq_false_iff_ne]; omega
          have q0 : ((d : Int) == 92) = false := by rw [beq_eq_false_iff_ne]; omega
          have hcv := fun c => pair_conv HI.out.row hd he x3 y3 c
          have hcb := conv_bytes wr (Nm.bs [UInt8.ofNat d, UInt8.ofNat e])
          have hbsz := bs_size [UInt8.ofNat d, UInt8.ofNat e]
          rw [hbsz] at hcb
          have HU := Lib.hid hu
          have HA := Lib.hid hau
          have HX := Lib.hid hx
          have HY := Lib.hid hy
          clear hu hau hdrop hdrop2 hsp h92 hds hd n1 n2 n3 n4 n5 n6 n7 n8 n9 n0 hx hy hrs he
          have hBs := Lib.bytesWorld_size wr 5 (Nm.bs [UInt8.ofNat d, UInt8.ofNat e])
          have hb0 := Lib.bytesWorld_cell wr 5 (Nm.bs [UInt8.ofNat d, UInt8.ofNat e]) 0 (by rw [hbsz]; simp)
          have hb1 := Lib.bytesWorld_cell wr 5 (Nm.bs [UInt8.ofNat d, UInt8.ofNat e]) 1 (by rw [hbsz]; simp)
          have hold := fun j hj => Lib.bytesWorld_at_old wr 5 (Nm.bs [UInt8.ofNat d, UInt8.ofNat e]) j hj
          have ed : (UInt8.ofNat d).toNat = d := by simp; omega
          have ee : (UInt8.ofNat e).toNat = e := by simp; omega
          have hb0' : (Lib.bytesWorld wr 5 (Nm.bs [UInt8.ofNat d, UInt8.ofNat e])).cell? ⟨wr.heap.size, 0, none⟩ = some (.int .u8 (d : Int)) := hb0.trans (by
            show some (Value.int .u8 ((UInt8.ofNat d).toNat : Int)) = _
            rw [ed])
          have hb1' : (Lib.bytesWorld wr 5 (Nm.bs [UInt8.ofNat d, UInt8.ofNat e])).cell? ⟨wr.heap.size, 1, none⟩ = some (.int .u8 (e : Int)) := hb1.trans (by
            show some (Value.int .u8 ((UInt8.ofNat e).toNat : Int)) = _
            rw [ee])
          clear hb0 hb1 ed ee
          have hbelw := Lib.bytesWorld_below wr 5 (Nm.bs [UInt8.ofNat d, UInt8.ofNat e])
          generalize hBW : Lib.bytesWorld wr 5 (Nm.bs [UInt8.ofNat d, UInt8.ofNat e]) = BW at *
          have hgl : 1 < w.heap.size := World.block_lt_of_cell? w ⟨1, 0, none⟩ hE
          have hEw : (BW.alloc (.cells #[.int .u8 0] 5)).cell? ⟨1, 0, none⟩ = some ev :=
            (World.cell?_of_block (w := w) (show (BW.alloc (.cells #[.int .u8 0] 5)).heap[1]? = w.heap[1]? by rw [Below.heap_alloc _ _ _ (by omega), hold _ (by omega)]; exact HI.out.bel.block _ hgl)).trans hE
          have hblkS : (BW.alloc (.cells #[.int .u8 0] 5)).heap[wr.heap.size]? = BW.heap[wr.heap.size]? := Below.heap_alloc _ _ _ (by omega)
          have hHX := hex_pair (w := BW.alloc (.cells #[.int .u8 0] 5)) (S := wr.heap.size) (D := BW.heap.size) (c1 := 1) (c2 := grownCap wr 2 0 5) HX.out HY.out
            ((World.cell?_of_block (w := BW) hblkS).trans hb0') ((World.cell?_of_block (w := BW) hblkS).trans hb1') (heap_alloc_new BW _) (by omega) ev hEw (by omega)
          have HHX := Lib.hid hHX
          have HOLD := Lib.hid hold
          have HBS := Lib.hid hBs
          have HBEL := Lib.hid hbelw
          clear hbelw
          clear hHX hold hBs hb0' hb1' hEw hBW hblkS
          go_wp2_with fail
          refine HHX.out.mono ?_
          rintro e' w2 ⟨rfl, hcell, hgr⟩
          have hBs := HBS.out
          have hkept : ∀ k, k < wr.heap.size → w2.heap[k]? = wr.heap[k]? := fun k hk => by
            rw [hgr.block k (by rw [World.size_alloc]; omega) (by intro h; have := Option.some.inj h; omega), Below.heap_alloc _ _ _ (by omega), HOLD.out k hk]
          have hsz3 : wr.heap.size ≤ w2.heap.size := by have := hgr.size; rw [World.size_alloc] at this; omega
          have hbel2 : Below wr.heap.size wr w2 := (HBEL.out.alloc (by omega) (.cells #[.int .u8 0] 5)).grown hgr (by rw [World.size_alloc]; omega) (fun k hk => by have := Option.some.inj hk; omega)
          have hW := byte_bld W.heap.size W.heap.size (Lib.byteCells acc) ((UInt8.ofNat (x * 16 + y)).toNat : Int) w2 (HI.out.bld.kept hkept) (by rw [Lib.byteCells_length]; omega) (by omega)
          have HW := Lib.hid hW
          have HK := Lib.hid hbel2
          clear hW hkept hbel2 hgr hBs
          go_wp2_with fail
          refine HW.out.mono ?_
          rintro e' w3 ⟨rfl, hb3, hbel⟩
          have hnext : DecInv rs v w w1.heap.size W.heap.size (i + 3) (acc ++ [UInt8.ofNat (x * 16 + y)]) w3 := by
            have hwr : Below W.heap.size wr w3 := (HK.out.mono (by omega)).trans hbel
            refine ⟨hi2, ⟨u, HU.out, by rw [List.append_assoc]; exact HA.out⟩, by rw [Lib.byteCells_append]; exact hb3, HI.out.row.stays (hwr.block _ (by omega)), HI.out.bel.trans (hwr.mono (by omega)), ?_⟩
            rw [List.length_append]; simp; omega
          have HN := Lib.hid hnext
          clear hnext hb3 hbel
          go_wp2_with fail
          exact ⟨⟨i + 3, _, by go_num, HN⟩, by simp [intOf]; omega⟩
      · have t2 : ((c : Int) != 92) = true := by rw [bne_iff_ne]; omega
        obtain ⟨hnr, u, hu, hau⟩ : Nm.refused c = false ∧ ∃ u, Nm.unescape (rs.drop (i + 1)) = some u ∧ acc ++ (Lib.encodeRune c ++ u) = v := by
          obtain ⟨u, h1, h2⟩ := HI.out.rest
          rw [hdrop] at h1
          unfold Nm.unescape at h1
          rw [if_neg h92] at h1
          cases hr : Nm.refused c with
          | true => rw [hr] at h1; simp at h1
          | false =>
            rw [hr] at h1
            simp only [Bool.false_eq_true, if_false, Option.map_eq_some_iff] at h1
            obtain ⟨u', h3, h4⟩ := h1
            exact ⟨rfl, u', h3, by rw [← h2, ← h4]⟩
        simp only [Nm.refused, Bool.or_eq_false_iff, beq_eq_false_iff_ne] at hnr
        obtain ⟨⟨⟨⟨n1, n2⟩, n3⟩, n4⟩, n5⟩ := hnr
        have q1 : ((c : Int) == 34) = false := by rw [beq_eq_false_iff_ne]; omega
        have q2 : ((c : Int) == 59) = false := by rw [beq_eq_false_iff_ne]; omega
        have q3 : ((c : Int) == 60) = false := by rw [beq_eq_false_iff_ne]; omega
        have q4 : ((c : Int) == 62) = false := by rw [beq_eq_false_iff_ne]; omega
        have q5 : ((c : Int) == 0) = false := by rw [beq_eq_false_iff_ne]; omega
        have hW := rune_bld W.heap.size W.heap.size (Lib.byteCells acc) c (by omega) (by omega) wr HI.out.bld (by rw [Lib.byteCells_length]; omega) (by omega)
        have HW := Lib.hid hW
        have HU := Lib.hid hu
        have HA := Lib.hid hau
        clear hW hu hau n1 n2 n3 n4 n5 hdrop
        go_wp2_with fail
        refine HW.out.mono ?_
        rintro e w2 ⟨⟨n, rfl⟩, hb2, hbel⟩
        have hnext : DecInv rs v w w1.heap.size W.heap.size (i + 1) (acc ++ Lib.encodeRune c) w2 := by
          refine ⟨hi, ⟨u, HU.out, by rw [List.append_assoc]; exact HA.out⟩, by rw [Lib.byteCells_append, Lib.byteCells_encodeRune]; exact hb2, HI.out.row.stays (hbel.block _ (by omega)), HI.out.bel.trans (hbel.mono (by omega)), ?_⟩
          have h4 := Lib.runeCells_le (c : Int)
          rw [Lib.runeCells_length] at h4
          rw [List.length_append]; omega
        have HN := Lib.hid hnext
        clear hnext hb2 hbel
        go_wp2_with fail
        exact ⟨⟨i + 1, _, by go_num, HN⟩, by simp [intOf]; omega⟩
end Go.Proofs.YtjmahgefijncaaaGreatFmt
