/- The law FnPostal, as a call. -/
import Derived.Test.YtjmahgefijncaaaGreatFmtPos4
import Derived.Test.YtjmahgefijncaaaGreatFmtPos5
import Derived.Test.YtjmahgefijncaaaGreatFmtU8
import Derived.Test.YtjmahgefijncaaaGreatFmtAwakeN
namespace Go.Proofs.YtjmahgefijncaaaGreatFmt
open Go Go.RowKit

theorem between_snoc : ∀ (l : List (List UInt8)) (a : List UInt8), Pos.between (l ++ [a]) = Pos.between l ++ (if l.length = 0 then [] else [36]) ++ a
  | [], a => by simp [Pos.between]
  | [x], a => by simp [Pos.between]
  | x :: y :: r, a => by
    have ih := between_snoc (y :: r) a
    simp only [List.cons_append, Pos.between] at ih ⊢
    rw [ih]
    simp
theorem esc_len : ∀ l : List UInt8, (Pos.esc l).length ≤ 3 * l.length
  | [] => by simp [Pos.esc]
  | c :: r => by
    have ih := esc_len r
    have : (Pos.escB c).length ≤ 3 := by unfold Pos.escB; split <;> (try split) <;> simp
    have e : Pos.esc (c :: r) = Pos.escB c ++ Pos.esc r := rfl
    rw [e, List.length_append, List.length_cons]; omega
theorem between_len : ∀ ls : List (List UInt8), (∀ l ∈ ls, l.length ≤ 20) → (Pos.between (ls.map Pos.esc)).length ≤ 61 * ls.length
  | [], _ => by simp [Pos.between]
  | [a], h => by
    have := h a (List.mem_cons_self ..)
    have h2 := esc_len a
    simp only [List.map_cons, List.map_nil, Pos.between, List.length_cons, List.length_nil]; omega
  | a :: b :: r, h => by
    have ih := between_len (b :: r) (fun l hl => h l (List.mem_cons_of_mem _ hl))
    have := h a (List.mem_cons_self ..)
    have h2 := esc_len a
    simp only [List.map_cons, Pos.between, List.length_append, List.length_cons] at ih ⊢; omega
theorem split_len : ∀ l : List UInt8, ∀ p ∈ Pos.split l, p.length ≤ l.length
  | [] => by simp [Pos.split]
  | c :: r => by
    have ih := split_len r
    rw [Pos.split]
    split
    · intro p hp
      rcases List.mem_cons.1 hp with rfl | hp
      · simp
      · have := ih p hp; simp; omega
    · cases hs : Pos.split r with
      | nil => exact absurd hs (Pos.split_ne r)
      | cons h t =>
        rw [hs] at ih
        intro p hp
        rcases List.mem_cons.1 hp with rfl | hp
        · have := ih h (List.mem_cons_self ..); simp; omega
        · have := ih p (List.mem_cons_of_mem _ hp); simp; omega
theorem read_between {ls : List (List UInt8)} (hne : ls ≠ []) (hall : ∀ l ∈ ls, l ≠ []) : Pos.read (Pos.split (Pos.between (ls.map Pos.esc))) = some ls := by
  rw [Pos.split_between (by simpa using hne) (fun l hl c hc => by obtain ⟨x, _, rfl⟩ := List.mem_map.1 hl; exact Pos.esc_no x c hc)]
  have := Pos.read_map Pos.unesc_esc (fun l h => Pos.esc_ne h) ls hall [] rfl
  simpa using this
theorem read_small {ls : List (List UInt8)} (hne : ls ≠ []) (hall : ∀ l ∈ ls, l ≠ []) : Pos.read (Pos.split (Pos.between (ls.map Pos.escS))) = some ls := by
  rw [Pos.split_between (by simpa using hne) (fun l hl c hc => by obtain ⟨x, _, rfl⟩ := List.mem_map.1 hl; exact Pos.escS_no x c hc)]
  have := Pos.read_map Pos.unesc_escS (fun l h => Pos.escS_ne h) ls hall [] rfl
  simpa using this
theorem read_end {ls : List (List UInt8)} (hne : ls ≠ []) (hall : ∀ l ∈ ls, l ≠ []) : Pos.read (Pos.split (Pos.between (ls.map Pos.esc) ++ [36])) = some ls := by
  rw [Pos.split_between_end (by simpa using hne) (fun l hl c hc => by obtain ⟨x, _, rfl⟩ := List.mem_map.1 hl; exact Pos.esc_no x c hc)]
  exact Pos.read_map Pos.unesc_esc (fun l h => Pos.esc_ne h) ls hall [[]] rfl
theorem small_is (ls : List (List UInt8)) : smallL (Pos.between (ls.map Pos.esc)) = Pos.between (ls.map Pos.escS) := Pos.small_between ls 0 0 (by decide) (by decide)
theorem smallS_len (ls : List (List UInt8)) : (Pos.between (ls.map Pos.escS)).length = (Pos.between (ls.map Pos.esc)).length := by rw [← small_is, smallL_len]

def LineOK (l : List UInt8) : Prop := Utf l ∧ l ≠ [] ∧ l.length ≤ 20
structure PoI (ls : List (List UInt8)) (w : World) (i : Nat) (want : List UInt8) (wr : World) : Prop where
  text : want = Pos.between ((ls.take i).map Pos.esc)
  ok : ∀ l ∈ ls.take i, LineOK l
  bel : Below w.heap.size w wr

set_option maxRecDepth 100000 in
set_option maxHeartbeats 32000000 in
theorem law_postal (ls : List (List UInt8)) (v : Value) (sm : Bool) (w : World) (hA : StrsIn w v ls) (hl : ls.length ≤ 9223372036854775807) (ev : Value) (hE : w.cell? ⟨1, 0, none⟩ = some ev) :
    Calls Tryz.prog 5 #[v, .bool sm] w fun e w' => e = .returned (.bool true) ∧ Below w.heap.size w w' := by
  have hgl : 1 < w.heap.size := World.block_lt_of_cell? w ⟨1, 0, none⟩ hE
  have HAW := Lib.hid (fun (w2 : World) (h : Below w.heap.size w w2) => awake_any w2 ev ((h.cell (p := ⟨1, 0, none⟩) hgl).trans hE))
  have HFIT := Lib.hid (fits2_any v ls hl w hA)
  have HA := Lib.hid hA
  obtain ⟨o0, c0, rfl, hc0⟩ := hA
  have HC := Lib.hid hc0
  clear hE hc0
  go_enter Tryz.func5, Tryz.ntmps5
  go_wp2_with fail
  refine HFIT.out.mono ?_
  rintro e w1 ⟨⟨r, rfl, hr⟩, hb1⟩
  have HB1 := Lib.hid hb1
  have HR := Lib.hid hr
  have hs1 := hb1.size
  clear hb1 hr HFIT
  cases r with
  | false =>
    go_wp2_with fail
    go_ret
    exact ⟨rfl, HB1.out⟩
  | true =>
    have hfit := HR.out rfl
    have hll := hfit.1
    have HF := Lib.hid hfit.2
    clear HR hfit
    go_wp2_with fail
    go_loopw [5, 21] (fun t5 t21 wr => ∃ (i : Nat) (want : List UInt8), t5 = .string (Nm.bs want) ∧ t21 = .int .i64 i ∧ i ≤ ls.length ∧ Hid (PoI ls w i want wr)) (fun _ t21 _ => ls.length - (intOf t21).toNat)
    case atStart => exact ⟨0, [], rfl, rfl, Nat.zero_le _, Lib.hid ⟨rfl, by simp, HB1.out⟩⟩
    case round =>
      obtain ⟨i, want, rfl, rfl, hi, HI⟩ := hrel
      have hsr := HI.out.bel.size
      have hwl : want.length ≤ 61 * i := by
        rw [HI.out.text]
        have := between_len (ls.take i) (fun l h => (HI.out.ok l h).2.2)
        rw [List.length_take] at this
        have : min i ls.length ≤ i := Nat.min_le_left ..
        omega
      have hws := bs_size want
      by_cases hend : i = ls.length
      · have t1 : ¬ i < ls.length := by omega
        by_cases hn1 : ls.length < 1
        · have q1 : decide ((ls.length : Int) < 1) = true := by simp; omega
          go_wp2_with fail
          refine (HAW.out wr HI.out.bel).mono ?_
          rintro e w3 ⟨rfl, hb3⟩
          have HB3 := Lib.hid (HI.out.bel.trans (hb3.mono hsr))
          clear hb3
          go_wp2_with fail
          go_ret
          exact ⟨rfl, HB3.out⟩
        · have q1 : decide ((ls.length : Int) < 1) = false := by simp; omega
          by_cases hn6 : ls.length > 6
          · have q2 : decide ((ls.length : Int) > 6) = true := by simp; omega
            go_wp2_with fail
            refine (HAW.out wr HI.out.bel).mono ?_
            rintro e w3 ⟨rfl, hb3⟩
            have HB3 := Lib.hid (HI.out.bel.trans (hb3.mono hsr))
            clear hb3
            go_wp2_with fail
            go_ret
            exact ⟨rfl, HB3.out⟩
          · have q2 : decide ((ls.length : Int) > 6) = false := by simp; omega
            have hok : ∀ l ∈ ls, LineOK l := by have := HI.out.ok; rwa [hend, List.take_length] at this
            have hwant : want = Pos.between (ls.map Pos.esc) := by have := HI.out.text; rwa [hend, List.take_length] at this
            have hne : ls ≠ [] := by intro e; rw [e] at hn1; simp at hn1
            have hall : ∀ l ∈ ls, l ≠ [] := fun l h => (hok l h).2.1
            have hPT := postal_text ls hne (by omega) (fun l h => ⟨(hok l h).2.1, (hok l h).1, (hok l h).2.2⟩) _ wr (HA.out.stays HI.out.bel)
            have hbe : Pos.behind (ls.map Pos.esc) = want ++ [36] := by rw [hwant]; exact Pos.behind_between (by simpa using hne)
            rw [hbe] at hPT
            have HPT := Lib.hid hPT
            have HSM := Lib.hid (fun w2 => small_any want (by omega) w2)
            have hsm : smallL want = Pos.between (ls.map Pos.escS) := by rw [hwant]; exact small_is ls
            rw [hsm] at HSM
            have hsl : (Pos.between (ls.map Pos.escS)).length = want.length := by rw [hwant]; exact smallS_len ls
            have HR1 := Lib.hid (fun w2 => postal_read want (by omega) (split_len want) ls (by rw [hwant]; exact read_between hne hall) hne (by omega) w2)
            have HR2 := Lib.hid (fun w2 => postal_read (Pos.between (ls.map Pos.escS)) (by omega) (split_len _) ls (read_small hne hall) hne (by omega) w2)
            have HR3 := Lib.hid (fun w2 => postal_read (want ++ [36]) (by simp; omega) (split_len _) ls (by rw [hwant]; exact read_end hne hall) hne (by omega) w2)
            have HES := Lib.hid (fun (va : Value) (w2 : World) (h1 : StrsIn w2 va ls) (h2 : Below w.heap.size w w2) => entry_same va _ ls (by omega) w2 h1 (HA.out.stays h2))
            have hap : Nm.bs want ++ ⟨#[36]⟩ = Nm.bs (want ++ [36]) := bs_app want [36]
            have hnov : ¬ 9223372036854775807 < want.length + 1 := by omega
            have hB := HI.out.bel
            have HB := Lib.hid hB
            clear hok hwant hne hall hPT hbe hsm HI hB hend hi
            cases sm with
            | false =>
              go_wp2_with fail
              refine HPT.out.mono ?_
              rintro e w2 ⟨rfl, hb2⟩
              have HB2 := Lib.hid (HB.out.trans (hb2.mono hsr))
              have hs2 := HB2.out.size
              clear hb2 HPT
              go_wp2_with fail
              refine (HR1.out w2).mono ?_
              rintro e w3 ⟨⟨v3, rfl, hin3⟩, hb3⟩
              have HB3 := Lib.hid (HB2.out.trans (hb3.mono hs2))
              have hs3 := HB3.out.size
              have HIN3 := Lib.hid hin3
              clear hb3 hin3
              go_wp2_with fail
              refine (HR3.out w3).mono ?_
              rintro e w4 ⟨⟨v4, rfl, hin4⟩, hb4⟩
              have HB4 := Lib.hid (HB3.out.trans (hb4.mono hs3))
              have hs4 := HB4.out.size
              have HIN4 := Lib.hid hin4
              have HIN34 := Lib.hid (HIN3.out.stays hb4)
              clear hb4 hin4
              go_wp2_with fail
              refine (HES.out v3 w4 HIN34.out HB4.out).mono ?_
              rintro e w5 ⟨rfl, hb5⟩
              have HB5 := Lib.hid (HB4.out.trans (hb5.mono hs4))
              have hs5 := HB5.out.size
              have HIN45 := Lib.hid (HIN4.out.stays hb5)
              clear hb5
              go_wp2_with fail
              refine (HES.out v4 w5 HIN45.out HB5.out).mono ?_
              rintro e w6 ⟨rfl, hb6⟩
              have HB6 := Lib.hid (HB5.out.trans (hb6.mono hs5))
              have hs6 := HB6.out.size
              clear hb6
              go_wp2_with fail
              refine (HAW.out w6 HB6.out).mono ?_
              rintro e w7 ⟨rfl, hb7⟩
              have HB7 := Lib.hid (HB6.out.trans (hb7.mono hs6))
              clear hb7
              go_wp2_with fail
              go_ret
              exact ⟨rfl, HB7.out⟩
            | true =>
              go_wp2_with fail
              refine HPT.out.mono ?_
              rintro e w2 ⟨rfl, hb2⟩
              have HB2' := Lib.hid (HB.out.trans (hb2.mono hsr))
              have hs2' := HB2'.out.size
              clear hb2 HPT
              go_wp2_with fail
              refine (HSM.out w2).mono ?_
              rintro e wS ⟨rfl, hbS⟩
              have HB2 := Lib.hid (HB2'.out.trans (hbS.mono hs2'))
              have hs2 := HB2.out.size
              clear hbS
              go_wp2_with fail
              refine (HR2.out wS).mono ?_
              rintro e w3 ⟨⟨v3, rfl, hin3⟩, hb3⟩
              have HB3 := Lib.hid (HB2.out.trans (hb3.mono hs2))
              have hs3 := HB3.out.size
              have HIN3 := Lib.hid hin3
              clear hb3 hin3
              go_wp2_with fail
              refine (HR3.out w3).mono ?_
              rintro e w4 ⟨⟨v4, rfl, hin4⟩, hb4⟩
              have HB4 := Lib.hid (HB3.out.trans (hb4.mono hs3))
              have hs4 := HB4.out.size
              have HIN4 := Lib.hid hin4
              have HIN34 := Lib.hid (HIN3.out.stays hb4)
              clear hb4 hin4
              go_wp2_with fail
              refine (HES.out v3 w4 HIN34.out HB4.out).mono ?_
              rintro e w5 ⟨rfl, hb5⟩
              have HB5 := Lib.hid (HB4.out.trans (hb5.mono hs4))
              have hs5 := HB5.out.size
              have HIN45 := Lib.hid (HIN4.out.stays hb5)
              clear hb5
              go_wp2_with fail
              refine (HES.out v4 w5 HIN45.out HB5.out).mono ?_
              rintro e w6 ⟨rfl, hb6⟩
              have HB6 := Lib.hid (HB5.out.trans (hb6.mono hs5))
              have hs6 := HB6.out.size
              clear hb6
              go_wp2_with fail
              refine (HAW.out w6 HB6.out).mono ?_
              rintro e w7 ⟨rfl, hb7⟩
              have HB7 := Lib.hid (HB6.out.trans (hb7.mono hs6))
              clear hb7
              go_wp2_with fail
              go_ret
              exact ⟨rfl, HB7.out⟩
      · have hlt : i < ls.length := by omega
        have t1 : decide ((i : Int) < (ls.length : Int)) = true := by simp; omega
        obtain ⟨line, hline⟩ : ∃ p, ls[i]? = some p := ⟨_, List.getElem?_eq_getElem hlt⟩
        obtain ⟨bb, off, rfl, hcell⟩ := HC.out i line hline
        have kc : wr.cell? ⟨bb, off + i, none⟩ = some (.string (Nm.bs line)) := (HI.out.bel.cell (World.block_lt_of_cell? w ⟨bb, off + i, none⟩ hcell)).trans hcell
        have hln := HF.out line (List.mem_of_getElem? hline)
        have hls := bs_size line
        have HU := Lib.hid (utf8_any line (by omega) wr)
        have HTS := Lib.hid (take_snoc hline)
        clear hcell hline hend
        go_wp2_with fail
        refine HU.out.mono ?_
        rintro e w2 ⟨⟨r, rfl, hr⟩, hb2⟩
        have HB2 := Lib.hid (HI.out.bel.trans (hb2.mono hsr))
        have hs2 := HB2.out.size
        have HR := Lib.hid hr
        clear hb2 hr HU kc
        cases r with
        | false =>
          go_wp2_with fail
          refine (HAW.out w2 HB2.out).mono ?_
          rintro e w3 ⟨rfl, hb3⟩
          have HB3 := Lib.hid (HB2.out.trans (hb3.mono hs2))
          clear hb3
          go_wp2_with fail
          go_ret
          exact ⟨rfl, HB3.out⟩
        | true =>
          by_cases hz : line.length < 1
          · have q1 : decide ((line.length : Int) < 1) = true := by simp; omega
            go_wp2_with fail
            refine (HAW.out w2 HB2.out).mono ?_
            rintro e w3 ⟨rfl, hb3⟩
            have HB3 := Lib.hid (HB2.out.trans (hb3.mono hs2))
            clear hb3
            go_wp2_with fail
            go_ret
            exact ⟨rfl, HB3.out⟩
          · have q1 : decide ((line.length : Int) < 1) = false := by simp; omega
            by_cases hz2 : line.length > 20
            · have q2 : decide ((line.length : Int) > 20) = true := by simp; omega
              go_wp2_with fail
              refine (HAW.out w2 HB2.out).mono ?_
              rintro e w3 ⟨rfl, hb3⟩
              have HB3 := Lib.hid (HB2.out.trans (hb3.mono hs2))
              clear hb3
              go_wp2_with fail
              go_ret
              exact ⟨rfl, HB3.out⟩
            · have q2 : decide ((line.length : Int) > 20) = false := by simp; omega
              have hlok : LineOK line := ⟨HR.out rfl, by intro e; rw [e] at hz; simp at hz, by omega⟩
              have HOK := Lib.hid (fun x (hx : x ∈ ls.take (i + 1)) => show LineOK x by
                rw [HTS.out] at hx
                rcases List.mem_append.1 hx with hx | hx
                · exact HI.out.ok x hx
                · simp only [List.mem_singleton] at hx; rw [hx]; exact hlok)
              obtain ⟨bi, hbi⟩ : ∃ bi, bi = decide (0 < i) := ⟨_, rfl⟩
              have htk : ((ls.take i).map Pos.esc).length = i := by rw [List.length_map, List.length_take]; omega
              have HTX := Lib.hid (show want ++ (if bi then [36] else []) ++ Pos.esc line = Pos.between ((ls.take (i + 1)).map Pos.esc) by
                rw [HTS.out, List.map_append, List.map_singleton, between_snoc, htk, ← HI.out.text, hbi]
                by_cases h0 : i = 0
                · simp [h0]
                · have : 0 < i := by omega
                  simp [h0, this])
              have hgt : decide ((i : Int) > 0) = bi := by
                rw [hbi, Bool.eq_iff_iff, decide_eq_true_iff, decide_eq_true_iff]; omega
              have hap0 : Nm.bs want ++ ⟨#[36]⟩ = Nm.bs (want ++ [36]) := bs_app want [36]
              clear hlok hbi htk HR HI
              go_upto_region 9 with (fail)
              go_cut [41] from 40 to 40 (fun t41 wx => t41 = .bool bi ∧ wx = w2)
              case first =>
                go_wp2_with fail
                go_meet
                exact ⟨by rw [← hgt]; simp, rfl⟩
              case rest =>
              obtain ⟨rfl, rfl⟩ := hcut
              obtain ⟨w2, rfl⟩ : ∃ w2, w2 = wc := ⟨_, rfl⟩
              clear hgt
              rename_i hK
              refine hK _ _ ?_
              go_cut [5] from 42 to 43 (fun t5 wx => t5 = .string (Nm.bs (want ++ if bi then [36] else [])) ∧ wx = w2)
              case first =>
                cases bi with
                | true =>
                  go_wp2_with fail
                  go_meet
                  exact ⟨rfl, rfl⟩
                | false =>
                  go_wp2_with fail
                  go_meet
                  exact ⟨by simp, rfl⟩
              case rest =>
              obtain ⟨rfl, rfl⟩ := hcut
              obtain ⟨w2, rfl⟩ : ∃ w2, w2 = wc := ⟨_, rfl⟩
              clear hap0 hws
              have hw0l : (want ++ if bi then [36] else []).length ≤ 61 * i + 1 := by cases bi <;> simp <;> omega
              generalize (want ++ if bi then [36] else []) = want0 at *
              go_wp2_with fail
              go_loopw [5, 46] (fun t5 t46 wr => ∃ (m : Nat), t5 = .string (Nm.bs (want0 ++ Pos.esc (line.take m))) ∧ t46 = .int .i64 m ∧ m ≤ line.length ∧ Hid (Below w.heap.size w wr)) (fun _ t46 _ => line.length - (intOf t46).toNat)
              case atStart => exact ⟨0, by simp [Pos.esc], rfl, Nat.zero_le _, HB2⟩
              case round =>
                clear t1
                obtain ⟨m, rfl, rfl, hm, HJ⟩ := hrel
                have hel := esc_len (line.take m)
                have htl : (line.take m).length ≤ 20 := by rw [List.length_take]; omega
                by_cases hme : m = line.length
                · have t2 : decide ((m : Int) < (line.length : Int)) = false := by simp; omega
                  have hfin : PoI ls w (i + 1) (want0 ++ Pos.esc (line.take m)) wr := ⟨by rw [hme, List.take_length]; exact HTX.out, HOK.out, HJ.out⟩
                  have HN := Lib.hid hfin
                  clear hfin
                  go_wp2_with fail
                  exact ⟨⟨i + 1, _, rfl, by go_num, by omega, HN⟩, by simp [intOf]; omega⟩
                · have hml : m < line.length := by omega
                  have t2 : decide ((m : Int) < (line.length : Int)) = true := by simp; omega
                  obtain ⟨c, hc⟩ : ∃ c, line[m]? = some c := ⟨_, List.getElem?_eq_getElem hml⟩
                  have hm2 : m < (Nm.bs line).size := by omega
                  have hget : ((Nm.bs line)[m]'hm2).toNat = c.toNat := by
                    rw [bs_get]; rw [List.getElem?_eq_getElem hml] at hc; rw [Option.some.inj hc]
                  have m0 : (0 : Int) ≤ (m : Int) := by omega
                  have m1 : (m : Int) < ((Nm.bs line).size : Int) := by omega
                  have m3 : (m : Int) ≤ (m : Int) + 1 := by omega
                  have m4 : (m : Int) + 1 ≤ (line.length : Int) := by omega
                  have m5 : ((m : Int) + 1).toNat = m + 1 := by omega
                  have hstep : want0 ++ Pos.esc (line.take (m + 1)) = (want0 ++ Pos.esc (line.take m)) ++ Pos.escB c := by
                    rw [take_snoc hc, Pos.esc_append]; simp [Pos.esc]
                  have HST := Lib.hid hstep
                  have hxl : (want0 ++ Pos.esc (line.take m)).length ≤ 61 * i + 61 := by rw [List.length_append]; omega
                  clear hstep
                  generalize (want0 ++ Pos.esc (line.take m)) = x at *
                  have hxs := bs_size x
                  by_cases h36 : c = 36
                  · subst h36
                    have hap : Nm.bs x ++ ⟨#[92, 50, 52]⟩ = Nm.bs (x ++ [92, 50, 52]) := bs_app x [92, 50, 52]
                    have hnov : ¬ 9223372036854775807 < x.length + 3 := by omega
                    have he : x ++ [92, 50, 52] = want0 ++ Pos.esc (line.take (m + 1)) := by rw [HST.out]; rfl
                    have HE := Lib.hid he
                    clear he hc
                    go_wp2_with fail
                    exact ⟨⟨m + 1, by rw [← HE.out], by go_num, by omega, HJ⟩, by simp [intOf]; omega⟩
                  · have z1 : ((c.toNat : Int) == 36) = false := u8_ne (c := 36) h36
                    by_cases h92 : c = 92
                    · subst h92
                      have hap : Nm.bs x ++ ⟨#[92, 53, 67]⟩ = Nm.bs (x ++ [92, 53, 67]) := bs_app x [92, 53, 67]
                      have hnov : ¬ 9223372036854775807 < x.length + 3 := by omega
                      have he : x ++ [92, 53, 67] = want0 ++ Pos.esc (line.take (m + 1)) := by rw [HST.out]; rfl
                      have HE := Lib.hid he
                      clear he hc
                      go_wp2_with fail
                      exact ⟨⟨m + 1, by rw [← HE.out], by go_num, by omega, HJ⟩, by simp [intOf]; omega⟩
                    · have z2 : ((c.toNat : Int) == 92) = false := u8_ne (c := 92) h92
                      have hsl : (Nm.bs line).extract m (m + 1) = Nm.bs [c] := by
                        rw [bs_slice line m (m + 1) (by omega), take_snoc hc, List.drop_append_of_le_length (by simp; omega)]
                        rw [List.drop_eq_nil_of_le (by simp; omega)]; rfl
                      have hap := bs_app x [c]
                      have hz1 : (Nm.bs [c]).size = 1 := rfl
                      have hnov : ¬ 9223372036854775807 < x.length + 1 := by omega
                      have he : x ++ [c] = want0 ++ Pos.esc (line.take (m + 1)) := by rw [HST.out]; unfold Pos.escB; rw [if_neg h36, if_neg h92]
                      have HE := Lib.hid he
                      clear he hc h36 h92
                      go_wp2_with fail
                      exact ⟨⟨m + 1, by rw [← HE.out], by go_num, by omega, HJ⟩, by simp [intOf]; omega⟩
end Go.Proofs.YtjmahgefijncaaaGreatFmt
