/- ParsePostalAddress, where what it reads is right. -/
import Derived.Test.YtjmahgefijncaaaGreatFmtPos1
import Derived.Test.YtjmahgefijncaaaGreatFmtBldS
namespace Go.Proofs.YtjmahgefijncaaaGreatFmt
open Go Go.RowKit

def PostAt (w : World) (p : Value) (ls : List (List UInt8)) : Prop := ∃ b v, p = .pointer (some ⟨b, 0, none⟩) ∧ w.heap[b]? = some (.cells #[v] 127 (0, 0)) ∧ StrsOwn w v ls

/-- The round's head of the loop over a line. -/
structure LineInv (line x : List UInt8) (wo : World) (b i : Nat) (acc : List UInt8) (wr : World) : Prop where
  le : i ≤ line.length
  rest : ∃ u, Pos.unesc (line.drop i) = some u ∧ acc ++ u = x
  bld : Bld b b (Lib.byteCells acc) wr
  bel : Below b wo wr
  few : acc.length ≤ i

/-- The round's head of the loop over the lines. -/
structure LinesInv (ps ls : List (List UInt8)) (w : World) (k : Nat) (done : List (List UInt8)) (v : Value) (wr : World) : Prop where
  le : k ≤ ps.length
  rest : ∃ u, Pos.read (ps.drop k) = some u ∧ done ++ u = ls
  few : done.length ≤ k
  own : wr.ownsRow w.heap.size 9 1 v done.length (strs done)
  bel : Below w.heap.size w wr

theorem byteCells_snoc (l : List UInt8) (c : UInt8) : Lib.byteCells l ++ [.int .u8 c.toNat] = Lib.byteCells (l ++ [c]) := by simp [Lib.byteCells]
theorem byteCells_app (l m : List UInt8) : Lib.byteCells l ++ Lib.byteCells m = Lib.byteCells (l ++ m) := by simp [Lib.byteCells]
theorem runeCells_ascii {r : Nat} (h : r < 128) : Lib.runeCells (r : Int) = Lib.byteCells [r.toUInt8] := by
  rw [← Lib.byteCells_encodeRune, enc_one h]

theorem owns_low {w : World} {B : Nat} {e : TypeId} {sz : Nat} {v : Value} {n : Nat} {xs : List Value} (h : w.ownsRow B e sz v n xs) : w.ownsRow 0 e sz v n xs := by
  refine ⟨h.1, ?_⟩
  rcases h.2 with h | ⟨g, cap, cur, h1, _, h3⟩
  · exact Or.inl h
  · exact Or.inr ⟨g, cap, cur, h1, Nat.zero_le _, h3⟩

set_option maxRecDepth 100000 in
set_option maxHeartbeats 16000000 in
theorem post_read (l : List UInt8) (hl : l.length < 100000000) (hpl : ∀ p ∈ Pos.split l, p.length ≤ l.length) (ls : List (List UInt8)) (hr : Pos.read (Pos.split l) = some ls) (hne : ls ≠ []) (w : World) :
    Calls Tryz.prog 50 #[.string (Nm.bs l)] w fun e w' => (∃ p, e = .returned (.tuple #[p, .nilIface]) ∧ PostAt w' p ls) ∧ Below w.heap.size w w' := by
  obtain ⟨i0, hi, hz0, hz1, hz2⟩ := info_str
  have HS := Lib.hid (split_any l (by omega) w)
  have HR := Lib.hid hr
  have HPL := Lib.hid hpl
  have HNE := Lib.hid hne
  clear hr hpl hne
  generalize Pos.split l = ps at *
  go_enter Tryz.func50, Tryz.ntmps50
  go_wp2_with fail
  refine HS.out.mono ?_
  rintro e w1 ⟨⟨psv, rfl, hown1⟩, hpsl, hb1⟩
  have hb1z := hb1.size
  obtain ⟨o1, c1, rfl⟩ := owns_form hown1
  have HB1 := Lib.hid hb1
  have hin1 : StrsIn w1 (.slice o1 ps.length c1) ps := StrsOwn.in' (owns_low hown1)
  have HIN := Lib.hid hin1
  clear hown1 hb1 hin1 HS
  go_wp2_with (refine wpList_make_own _ rfl _ _ 34 rfl w1.heap.size 9 i0 (.string ⟨#[]⟩) 1 Tryz.underlying34 hi hz0 hz1 .i64 .i64 _ ps.length rfl rfl rfl ?b2 ?b3 (Nat.le_refl _) ?_)
  case b2 => rw [hz2]; omega
  case b3 => unfold maxLen; omega
  intro w2 hown2 hgr2
  have hb2 : Below w1.heap.size w1 w2 := (Below.refl _ w1).grown hgr2 (Nat.le_refl _) (fun k hk => by cases hk)
  have HI0 : Hid (LinesInv ps ls w1 0 [] (.slice (some ⟨w1.heap.size, 0, none⟩) 0 ps.length) w2) :=
    Lib.hid ⟨Nat.zero_le _, ⟨ls, HR.out, rfl⟩, Nat.le_refl _, hown2, hb2⟩
  clear hown2 hgr2 hb2 HR
  go_wp2_with fail
  go_loopw [5, 19] (fun t5 t19 wr => ∃ (k : Nat) (done : List (List UInt8)) (o : Option Addr) (c : Nat), t19 = .int .i64 k ∧ t5 = .slice o done.length c ∧ Hid (LinesInv ps ls w1 k done (.slice o done.length c) wr)) (fun _ t19 _ => ps.length - (intOf t19).toNat)
  case atStart => exact ⟨0, [], _, _, rfl, rfl, HI0⟩
  case round =>
    clear HI0
    obtain ⟨k, done, o, c, rfl, rfl, HI⟩ := hrel
    have hle := HI.out.le
    have hbz := HI.out.bel.size
    have HBB := Lib.hid (HB1.out.trans (HI.out.bel.mono hb1z))
    by_cases hend : k = ps.length
    · have t1 : decide ((k : Int) < (ps.length : Int)) = false := by simp; omega
      have hd : done = ls := by
        obtain ⟨u, h1, h2⟩ := HI.out.rest
        rw [hend, List.drop_length] at h1
        rw [← Option.some.inj (show some [] = some u from h1), List.append_nil] at h2
        exact h2
      have hlen : done.length ≠ 0 := by rw [hd]; intro h; exact HNE.out (List.length_eq_zero_iff.1 h)
      have t2 : ((done.length : Int) == 0) = false := by rw [beq_eq_false_iff_ne]; omega
      have HD := Lib.hid hd
      clear hd hlen
      have hfin : PostAt (wr.alloc (.cells #[.slice o done.length c] 127 (0, 0))) (.pointer (some ⟨wr.heap.size, 0, none⟩)) ls := ⟨_, _, rfl, heap_alloc_new _ _, by rw [← HD.out]; exact (owns_low HI.out.own).alloc _⟩
      have HF := Lib.hid hfin
      clear hfin
      go_wp2_with fail
      go_ret2
      exact ⟨⟨_, rfl, HF.out⟩, HBB.out.alloc HBB.out.size _⟩
    · have hlt : k < ps.length := by omega
      have t1 : decide ((k : Int) < (ps.length : Int)) = true := by simp; omega
      obtain ⟨line, hline⟩ : ∃ p, ps[k]? = some p := ⟨_, List.getElem?_eq_getElem hlt⟩
      have hll : line.length ≤ l.length := HPL.out line (List.mem_of_getElem? hline)
      obtain ⟨u, hu1, hu2⟩ := HI.out.rest
      rw [List.drop_eq_getElem_cons hlt, Option.some.inj ((List.getElem?_eq_getElem hlt).symm.trans hline)] at hu1
      obtain ⟨bb, off, ho, hcell⟩ : ∃ bb off, o1 = some ⟨bb, off, none⟩ ∧ wr.cell? ⟨bb, off + k, none⟩ = some (.string (Nm.bs line)) := by
        obtain ⟨o', c', hv, hc⟩ := HIN.out
        injection hv with e1 e2 e3
        obtain ⟨bb, off, h1, h2⟩ := hc k line hline
        exact ⟨bb, off, e1.trans h1, (HI.out.bel.cell (World.block_lt_of_cell? w1 ⟨bb, off + k, none⟩ h2)).trans h2⟩
      subst ho
      by_cases hempty : line = []
      · subst hempty
        have he : ((Nm.bs ([] : List UInt8)).toList == ([] : List UInt8)) = true := by rw [bs_toList]; rfl
        have hnext : LinesInv ps ls w1 (k + 1) done (.slice o done.length c) wr :=
          ⟨hlt, ⟨u, by rw [Pos.read, if_pos rfl] at hu1; exact hu1, hu2⟩, by have := HI.out.few; omega, HI.out.own, HI.out.bel⟩
        have HN := Lib.hid hnext
        clear hnext hu1 hu2 HI hline
        go_wp2_with fail
        exact ⟨⟨k + 1, done, o, c, by go_num, rfl, HN⟩, by simp [intOf]; omega⟩
      · have he : ((Nm.bs line).toList == ([] : List UInt8)) = false := by rw [bs_toList]; simpa using hempty
        obtain ⟨x, y, hx, hy, hxy⟩ := Pos.read_some hempty hu1
        have HX := Lib.hid hx
        have HY := Lib.hid (And.intro hy (hxy ▸ hu2))
        clear hu1 hu2 hx hy hxy hempty hline
        have hlz := bs_size line
        go_wp2_with fail
        obtain ⟨wo, rfl⟩ : ∃ wo, wo = wr := ⟨_, rfl⟩
        go_loopw [9] (fun t9 wr => ∃ (i : Nat) (acc : List UInt8), t9 = .int .i64 i ∧ Hid (LineInv line x wo wo.heap.size i acc wr)) (fun t9 _ => line.length - (intOf t9).toNat)
        case atStart =>
          refine ⟨0, [], rfl, Lib.hid ⟨Nat.zero_le _, ⟨x, HX.out, rfl⟩, ?_, ?_, Nat.le_refl _⟩⟩
          · exact Lib.fresh_isBuilder 130 5 wo
          · exact (Below.refl _ _).alloc (Nat.le_refl _) _
        case round =>
          clear t1
          obtain ⟨i, acc, rfl, HJ⟩ := hrel
          have hile := HJ.out.le
          have hjz := HJ.out.bel.size
          have hjf := HJ.out.few
          by_cases hiend : i = line.length
          · have t3 : decide ((i : Int) < (line.length : Int)) = false := by simp; omega
            have hacc : acc = x := by
              obtain ⟨u3, h1, h2⟩ := HJ.out.rest
              rw [hiend, List.drop_length] at h1
              rw [← Option.some.inj (show some [] = some u3 from h1), List.append_nil] at h2
              exact h2
            have HS := Lib.hid (Tryz.Builder_String_any wo.heap.size wo.heap.size acc wr HJ.out.bld (by omega))
            have HACC := Lib.hid hacc
            clear hacc
            go_wp2_with fail
            refine HS.out.mono ?_
            rintro e w5 ⟨rfl, hb5⟩
            have HB5 := Lib.hid (HJ.out.bel.trans (hb5.mono (by omega)))
            have hs5 := HB5.out.size
            clear hb5 HS
            have hown5 : w5.ownsRow w1.heap.size 9 1 (.slice o done.length c) done.length (strs done) := owns_stays HI.out.own (fun g hg => HB5.out.block g (owns_lt HI.out.own g hg))
            have hkf := HI.out.few
            have HOW := Lib.hid hown5
            clear hown5
            go_wp2_with (at_builtin; refine wpList_append_own _ rfl _ _ 34 rfl w1.heap.size 9 i0 (.string ⟨#[]⟩) 1 16 Tryz.underlying34 hi hz0 hz1 hz2 rfl (by decide) _ _ _ rfl (HOW.out.alloc _) ⟨w5.heap.size, 0, none⟩ 1 1 [.string (Nm.bs acc)] rfl rfl ?c1 ?c2 ?c3 ?c4 ?c5 ?_)
            case c1 =>
              intro j u hj
              match j, hj with
              | 0, hj => simp at hj; subst hj; simp [Addr.add]; rfl
            case c2 => intro u hu; simp at hu; subst hu; rfl
            case c3 => unfold maxLen; omega
            case c4 => omega
            case c5 => simp; omega
            intro v' w6 hown' hgrow _
            obtain ⟨o', c', rfl⟩ : ∃ o c, v' = .slice o (done.length + 1) c := by
              rcases hown'.2 with ⟨h, h0⟩ | ⟨g, cap, cur, h, _⟩
              · omega
              · exact ⟨_, _, h⟩
            have hb6 : Below w1.heap.size w1 w6 := ((HI.out.bel.trans (HB5.out.mono hbz)).alloc (by omega) _).grown hgrow (by simp; omega) (fun k hk => (HOW.out.lt k hk).1)
            have hnew : LinesInv ps ls w1 (k + 1) (done ++ [acc]) (.slice o' (done ++ [acc]).length c') w6 := by
              refine ⟨hlt, ⟨y, HY.out.1, by rw [HACC.out, List.append_assoc]; exact HY.out.2⟩, by rw [List.length_append]; simp; omega, ?_, hb6⟩
              rw [strs_snoc, List.length_append]; simpa using hown'
            have hv2 : Value.slice o' (done.length + 1) c' = .slice o' (done ++ [acc]).length c' := by simp
            have HN := Lib.hid (And.intro hv2 hnew)
            clear hnew hown' hgrow hv2 hb6
            go_wp2_with fail
            exact ⟨⟨k + 1, done ++ [acc], o', c', by go_num, HN.out.1, Lib.hid HN.out.2⟩, by simp [intOf]; omega⟩
          · have hilt : i < line.length := by omega
            have hilt2 : i < (Nm.bs line).size := by rw [hlz]; exact hilt
            have t3 : decide ((i : Int) < (line.length : Int)) = true := by simp; omega
            obtain ⟨ch, hch, hget⟩ : ∃ b : UInt8, line[i]? = some b ∧ ((Nm.bs line)[i]'hilt2).toNat = b.toNat := ⟨_, List.getElem?_eq_getElem hilt, by rw [bs_get]⟩
            have hcl := UInt8.toNat_lt ch
            obtain ⟨u2, hv1, hv2⟩ := HJ.out.rest
            rw [List.drop_eq_getElem_cons hilt, Option.some.inj ((List.getElem?_eq_getElem hilt).symm.trans hch)] at hv1
            by_cases h92 : ch = 92
            · subst h92
              obtain ⟨ea, eb, r2, ec, v, hd1, hd2, hd3, hd4⟩ := Pos.unesc_slash hv1
              have hlen3 : i + 3 ≤ line.length := by
                have := congrArg List.length hd1
                simp only [List.length_drop, List.length_cons] at this
                omega
              have t4 : decide ((i : Int) + 3 ≤ (line.length : Int)) = true := by simp; omega
              have x0 : (0 : Int) ≤ (i : Int) + 1 := by omega
              have x1 : (i : Int) + 1 ≤ (i : Int) + 3 := by omega
              have x2 : (i : Int) + 3 ≤ (line.length : Int) := by omega
              have x3 : ((i : Int) + 1).toNat = i + 1 := by omega
              have x4 : ((i : Int) + 3).toNat = i + 3 := by omega
              have hsl : (Nm.bs line).extract (i + 1) (i + 3) = Nm.bs [ea, eb] := by
                rw [bs_slice line (i + 1) (i + 3) hlen3]
                congr 1
                have e1 : (line.take (i + 3)).drop (i + 1) = (line.drop (i + 1)).take 2 := by rw [List.drop_take]; congr 1; omega
                rw [e1, hd1]; rfl
              have hdrop3 : line.drop (i + 3) = r2 := by
                have : line.drop (i + 3) = (line.drop (i + 1)).drop 2 := by rw [List.drop_drop]
                rw [this, hd1]; rfl
              have hnew : ∀ w5, Bld wo.heap.size wo.heap.size (Lib.byteCells (acc ++ [ec])) w5 → Below wo.heap.size wr w5 → LineInv line x wo wo.heap.size (i + 3) (acc ++ [ec]) w5 := fun w5 h1 h2 =>
                ⟨hlen3, ⟨v, by rw [hdrop3]; exact hd2, by rw [← hv2, hd3]; simp⟩, h1, HJ.out.bel.trans h2, by simp; omega⟩
              have HNW := Lib.hid hnew
              have hlenb : (Lib.byteCells acc).length < 1000000000 := by simp [Lib.byteCells]; omega
              have HW1 := Lib.hid (rune_bld wo.heap.size wo.heap.size (Lib.byteCells acc) 92 (by decide) (by decide) wr HJ.out.bld hlenb hjz)
              have HW2 := Lib.hid (rune_bld wo.heap.size wo.heap.size (Lib.byteCells acc) 36 (by decide) (by decide) wr HJ.out.bld hlenb hjz)
              rw [show Lib.runeCells 92 = Lib.byteCells [92] from runeCells_ascii (r := 92) (by decide), byteCells_app] at HW1
              rw [show Lib.runeCells 36 = Lib.byteCells [36] from runeCells_ascii (r := 36) (by decide), byteCells_app] at HW2
              clear hnew hd1 hd2 hd3 hv1 hv2 hdrop3 hch hlenb
              rcases hd4 with ⟨rfl, rfl, rfl⟩ | ⟨rfl, rfl, rfl⟩ | ⟨rfl, rfl, rfl⟩
              · have z1 : ((Nm.bs [53, 67]).toList == ([53, 67] : List UInt8)) = true := by rw [bs_toList]; rfl
                go_wp2_with fail
                refine HW1.out.mono ?_
                rintro e w5 ⟨⟨nn, rfl⟩, hb5, hbe5⟩
                have HN := Lib.hid (HNW.out w5 hb5 hbe5)
                clear hb5 hbe5
                go_wp2_with fail
                exact ⟨⟨i + 3, _, by go_num, HN⟩, by simp [intOf]; omega⟩
              · have z1 : ((Nm.bs [53, 99]).toList == ([53, 67] : List UInt8)) = false := by rw [bs_toList]; rfl
                have z2 : ((Nm.bs [53, 99]).toList == ([53, 99] : List UInt8)) = true := by rw [bs_toList]; rfl
                go_wp2_with fail
                refine HW1.out.mono ?_
                rintro e w5 ⟨⟨nn, rfl⟩, hb5, hbe5⟩
                have HN := Lib.hid (HNW.out w5 hb5 hbe5)
                clear hb5 hbe5
                go_wp2_with fail
                exact ⟨⟨i + 3, _, by go_num, HN⟩, by simp [intOf]; omega⟩
              · have z1 : ((Nm.bs [50, 52]).toList == ([53, 67] : List UInt8)) = false := by rw [bs_toList]; rfl
                have z2 : ((Nm.bs [50, 52]).toList == ([53, 99] : List UInt8)) = false := by rw [bs_toList]; rfl
                have z3 : ((Nm.bs [50, 52]).toList == ([50, 52] : List UInt8)) = true := by rw [bs_toList]; rfl
                go_wp2_with fail
                refine HW2.out.mono ?_
                rintro e w5 ⟨⟨nn, rfl⟩, hb5, hbe5⟩
                have HN := Lib.hid (HNW.out w5 hb5 hbe5)
                clear hb5 hbe5
                go_wp2_with fail
                exact ⟨⟨i + 3, _, by go_num, HN⟩, by simp [intOf]; omega⟩
            · have q1 : ((ch.toNat : Int) == 92) = false := u8_ne (c := 92) h92
              rw [Pos.unesc_plain h92] at hv1
              obtain ⟨v, hw1, hw2⟩ := Option.map_eq_some_iff.1 hv1
              have hrest : ∃ u, Pos.unesc (line.drop (i + 1)) = some u ∧ acc ++ [ch] ++ u = x := ⟨v, hw1, by rw [← hv2, ← hw2]; simp⟩
              have HR2 := Lib.hid hrest
              have HW := Lib.hid (byte_bld wo.heap.size wo.heap.size (Lib.byteCells acc) ch.toNat wr HJ.out.bld (by simp [Lib.byteCells]; omega) hjz)
              clear hrest hv1 hv2 hw1 hw2 hch
              go_wp2_with fail
              refine HW.out.mono ?_
              rintro e w5 ⟨rfl, hb5, hbe5⟩
              rw [byteCells_snoc] at hb5
              have hnew : LineInv line x wo wo.heap.size (i + 1) (acc ++ [ch]) w5 := ⟨hilt, HR2.out, hb5, HJ.out.bel.trans hbe5, by simp; omega⟩
              have HN := Lib.hid hnew
              clear hnew hb5 hbe5
              go_wp2_with fail
              exact ⟨⟨i + 1, _, by go_num, HN⟩, by simp [intOf]; omega⟩
end Go.Proofs.YtjmahgefijncaaaGreatFmt
