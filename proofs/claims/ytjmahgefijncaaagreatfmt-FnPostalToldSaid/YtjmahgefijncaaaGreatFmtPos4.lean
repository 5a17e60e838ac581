/- (*PostalAddress).Escape, PostalText. -/
import Derived.Test.YtjmahgefijncaaaGreatFmtPos3
import Derived.Test.YtjmahgefijncaaaGreatFmtBldK
namespace Go.Proofs.YtjmahgefijncaaaGreatFmt
open Go Go.RowKit

theorem behind_snoc (ls : List (List UInt8)) (l : List UInt8) : Pos.behind (ls ++ [l]) = Pos.behind ls ++ (l ++ [36]) := by simp [Pos.behind]

/-- The round's head over the lines. -/
structure EscInv (ls : List (List UInt8)) (w : World) (k : Nat) (acc : List UInt8) (wr : World) : Prop where
  le : k ≤ ls.length
  text : acc = Pos.behind ((ls.take k).map Pos.esc)
  bld : Bld w.heap.size w.heap.size (Lib.byteCells acc) wr
  bel : Below w.heap.size w wr
/-- Within a line: m runes are done. -/
structure EscIn (rs : List Nat) (acc0 : List UInt8) (w : World) (it m : Nat) (acc : List UInt8) (wr : World) : Prop where
  le : m ≤ rs.length
  text : acc = acc0 ++ (rs.take m).flatMap Pos.escR
  iter : wr.heap[it]? = some (.stringIter (Nm.bs (encs rs)) (encs (rs.take m)).length)
  bld : Bld w.heap.size w.heap.size (Lib.byteCells acc) wr
  bel : Below w.heap.size w wr

theorem Bld.iterAt {B b : Nat} {l : List Value} {w : World} (h : Bld B b l w) {it : Nat} {s : ByteArray} {pos pos' : Nat} (hk : w.heap[it]? = some (.stringIter s pos)) : Bld B b l (w.iterAt it s pos') := by
  have hne : ∀ {i : Nat} {cs : Array Value} {t : TypeId} {f : Nat × Nat}, w.heap[i]? = some (.cells cs t f) → (w.iterAt it s pos').heap[i]? = some (.cells cs t f) := fun {i cs t f} hi =>
    (Lib.iterAt_other w it i s pos' (fun e => by rw [e, hk] at hi; cases hi)).trans hi
  have ho : ∀ v, w.ownsRow B 5 1 v l.length l → (w.iterAt it s pos').ownsRow B 5 1 v l.length l := by
    intro v hv
    refine ⟨hv.1, hv.2.imp id ?_⟩
    rintro ⟨g, cap, cur, e1, e2, e3, e4⟩
    exact ⟨g, cap, cur, e1, e2, hne e3, e4⟩
  have hb : Lib.IsBuilder 130 5 B b l w := h
  rcases hb with ⟨h1, v, h2, h3, h4⟩ | ⟨h1, v, h2, h3, h4⟩
  · exact Or.inl ⟨h1, v, hne h2, ho v h3, h4⟩
  · exact Or.inr ⟨h1, v, hne h2, ho v h3, h4⟩

theorem escR_len {r : Nat} : (Pos.escR r).length ≤ 4 := by
  unfold Pos.escR
  split
  · simp
  split
  · simp
  · exact (enc_len (r : Int)).2
theorem flat_len : ∀ rs : List Nat, (rs.flatMap Pos.escR).length ≤ 4 * rs.length
  | [] => by simp
  | r :: rs => by
    have h1 := flat_len rs
    have h2 := @escR_len r
    simp only [List.flatMap_cons, List.length_append, List.length_cons]; omega
theorem drop_at {α : Type} {l : List α} {i : Nat} {x : α} (h : l[i]? = some x) : l.drop i = x :: l.drop (i + 1) := by
  obtain ⟨hi, rfl⟩ := List.getElem?_eq_some_iff.1 h
  exact List.drop_eq_getElem_cons hi
theorem behind_len : ∀ ls : List (List UInt8), (∀ l ∈ ls, l.length ≤ 100) → (Pos.behind (ls.map Pos.esc)).length ≤ 301 * ls.length
  | [], _ => by simp [Pos.behind]
  | l :: ls, h => by
    have h1 := behind_len ls (fun x hx => h x (List.mem_cons_of_mem _ hx))
    have h2 := h l (List.mem_cons_self ..)
    have h3 : ∀ x : List UInt8, (Pos.esc x).length ≤ 3 * x.length := by
      intro x
      induction x with
      | nil => simp [Pos.esc]
      | cons c r ih =>
        have : (Pos.escB c).length ≤ 3 := by unfold Pos.escB; split <;> (try split) <;> simp
        have e : Pos.esc (c :: r) = Pos.escB c ++ Pos.esc r := rfl
        rw [e, List.length_append, List.length_cons]; omega
    have h4 := h3 l
    simp only [Pos.behind, List.map_cons, List.flatMap_cons, List.length_append, List.length_singleton, List.length_cons, List.length_nil] at h1 ⊢
    omega

set_option maxRecDepth 100000 in
set_option maxHeartbeats 16000000 in
theorem escape_post (ls : List (List UInt8)) (p : Value) (w : World) (hp : PostAt w p ls) (hl : ls.length ≤ 6) (hu : ∀ l ∈ ls, Utf l ∧ l.length ≤ 20) :
    Calls Tryz.prog 49 #[p] w fun e w' => e = .returned (.string (Nm.bs (Pos.behind (ls.map Pos.esc)))) ∧ Below w.heap.size w w' := by
  obtain ⟨b, v, rfl, hb, hown⟩ := hp
  have hin := StrsOwn.in' hown
  obtain ⟨o0, c0, rfl⟩ := owns_form hown
  have cb : w.cell? ⟨b, 0, none⟩ = some (.slice o0 ls.length c0) := blockCell hb 0
  have hbl := blockLt hb
  have HIN := Lib.hid hin
  have HU := Lib.hid hu
  have hb0 : Below w.heap.size w (w.alloc (.cells #[.pointer none, .slice none 0 0] 130 (0, 0))) := (Below.refl _ w).alloc (Nat.le_refl _) _
  have cb2 := (hb0.cell (p := ⟨b, 0, none⟩) hbl).trans cb
  have H0 : Hid (EscInv ls w 0 [] (w.alloc (.cells #[.pointer none, .slice none 0 0] 130 (0, 0)))) := Lib.hid ⟨Nat.zero_le _, rfl, Lib.fresh_isBuilder 130 5 w, hb0⟩
  clear hin hown hb hu hb0 cb
  go_enter Tryz.func49, Tryz.ntmps49
  go_wp2_with fail
  clear cb2
  go_loopw [15] (fun t15 wr => ∃ (k : Nat) (acc : List UInt8), t15 = .int .i64 k ∧ Hid (EscInv ls w k acc wr)) (fun t15 _ => ls.length - (intOf t15).toNat)
  case atStart => exact ⟨0, [], rfl, H0⟩
  case round =>
    clear H0
    obtain ⟨k, acc, rfl, HI⟩ := hrel
    have hle := HI.out.le
    have hbz := HI.out.bel.size
    have hal : acc.length ≤ 1806 := by
      rw [HI.out.text]
      have := behind_len (ls.take k) (fun l h => by have := (HU.out l (List.mem_of_mem_take h)).2; omega)
      have h2 : (ls.take k).length ≤ 6 := by rw [List.length_take]; omega
      omega
    by_cases hend : k = ls.length
    · have t1 : decide ((k : Int) < (ls.length : Int)) = false := by simp; omega
      have hacc : acc = Pos.behind (ls.map Pos.esc) := by
        have := HI.out.text
        rwa [hend, List.take_length] at this
      have HS := Lib.hid (Tryz.Builder_String_any w.heap.size w.heap.size acc wr HI.out.bld (by omega))
      have HACC := Lib.hid hacc
      clear hacc
      go_wp2_with fail
      refine HS.out.mono ?_
      rintro e w5 ⟨rfl, hb5⟩
      have HB5 := Lib.hid (HI.out.bel.trans (hb5.mono (by omega)))
      clear hb5 HS
      go_wp2_with fail
      go_ret
      exact ⟨by rw [← HACC.out]; rfl, HB5.out⟩
    · have hlt : k < ls.length := by omega
      have t1 : decide ((k : Int) < (ls.length : Int)) = true := by simp; omega
      obtain ⟨line, hline⟩ : ∃ p, ls[k]? = some p := ⟨_, List.getElem?_eq_getElem hlt⟩
      obtain ⟨bb, off, rfl, hcell⟩ : ∃ bb off, o0 = some ⟨bb, off, none⟩ ∧ wr.cell? ⟨bb, off + k, none⟩ = some (.string (Nm.bs line)) := by
        obtain ⟨o', c', hv, hc⟩ := HIN.out
        injection hv with e1 _ _
        obtain ⟨bb, off, e2, e3⟩ := hc k line hline
        exact ⟨bb, off, e1.trans e2, (HI.out.bel.cell (World.block_lt_of_cell? w ⟨bb, off + k, none⟩ e3)).trans e3⟩
      obtain ⟨⟨rs, hrs, hlr⟩, hl20⟩ := HU.out line (List.mem_of_getElem? hline)
      have hrl : rs.length ≤ 20 := by have := encs_len_ge rs; rw [← hlr] at this; omega
      have hT := take_snoc hline
      have HNX := Lib.hid (fun (acc2 : List UInt8) (h : acc2 = acc ++ rs.flatMap Pos.escR) => show acc2 ++ [36] = Pos.behind ((ls.take (k + 1)).map Pos.esc) by
        rw [hT, List.map_append, List.map_singleton, behind_snoc, hlr, Pos.esc_encs rs hrs, h, HI.out.text]; simp)
      have HRS := Lib.hid hrs
      have hbit := HI.out.bld.alloc (.stringIter (Nm.bs (encs rs)) 0)
      have hbelit := HI.out.bel.alloc hbz (.stringIter (Nm.bs (encs rs)) 0)
      have hitn := heap_alloc_new wr (.stringIter (Nm.bs (encs rs)) 0)
      have H1 : Hid (EscIn rs acc w wr.heap.size 0 acc (wr.alloc (.stringIter (Nm.bs (encs rs)) 0))) := Lib.hid ⟨Nat.zero_le _, by simp, by simpa using hitn, hbit, hbelit⟩
      rw [hlr] at hcell
      clear hbit hbelit hitn hT hline hlr hrs hend HI
      generalize hit : wr.heap.size = it at *
      have hitw : w.heap.size ≤ it := by omega
      go_wp2_with fail
      go_loopw [] (fun wr => ∃ (m : Nat) (acc2 : List UInt8), Hid (EscIn rs acc w it m acc2 wr)) (fun wr => (encs rs).length - wr.iterPos it)
      case atStart => exact ⟨0, acc, H1⟩
      case round =>
        clear H1 t1
        obtain ⟨m, acc2, HJ⟩ := hrel
        have hmle := HJ.out.le
        have hjz := HJ.out.bel.size
        have hiter := HJ.out.iter
        have hsz := bs_size (encs rs)
        have hal2 : acc2.length ≤ 1886 := by
          rw [HJ.out.text, List.length_append]
          have := flat_len (rs.take m)
          have h2 : (rs.take m).length ≤ 20 := by rw [List.length_take]; omega
          omega
        have hbl2 : (Lib.byteCells acc2).length < 1000000000 := by rw [Lib.byteCells_length]; omega
        by_cases hme : m = rs.length
        · have hfin : acc2 = acc ++ rs.flatMap Pos.escR := by rw [HJ.out.text, hme, List.take_length]
          have hpos : ¬ (encs (rs.take m)).length < (Nm.bs (encs rs)).size := by rw [hme, List.take_length, hsz]; omega
          have hnx : ∀ ty, (Instr.next (.pointer (some ⟨it, 0, none⟩)) true ty).run Tryz.prog wr = .ok (.tuple #[.bool false]) wr := fun ty => Lib.run_next_end_at wr it (Nm.bs (encs rs)) _ ty hiter hpos
          have HNX2 := Lib.hid (HNX.out acc2 hfin)
          have HW := Lib.hid (rune_bld w.heap.size w.heap.size (Lib.byteCells acc2) 36 (by decide) (by decide) wr HJ.out.bld hbl2 hjz)
          rw [show Lib.runeCells 36 = Lib.byteCells [36] from runeCells_ascii (r := 36) (by decide), byteCells_app] at HW
          clear hiter hfin hpos hme
          go_wp2_with fail
          refine HW.out.mono ?_
          rintro e w5 ⟨⟨nn, rfl⟩, hb5, hbe5⟩
          have hnew : EscInv ls w (k + 1) (acc2 ++ [36]) w5 := ⟨hlt, HNX2.out, hb5, HJ.out.bel.trans hbe5⟩
          have HN := Lib.hid hnew
          clear hnew hb5 hbe5
          go_wp2_with fail
          exact ⟨⟨k + 1, _, by go_num, HN⟩, by simp [intOf]; omega⟩
        · have hml : m < rs.length := by omega
          obtain ⟨r, hr⟩ : ∃ r, rs[m]? = some r := ⟨_, List.getElem?_eq_getElem hml⟩
          have hrok := HRS.out r (List.mem_of_getElem? hr)
          have hspl : encs rs = encs (rs.take m) ++ (Lib.encodeRune (r : Int) ++ encs (rs.drop (m + 1))) := by
            conv => lhs; rw [← List.take_append_drop m rs, drop_at hr]
            rw [encs_append, encs_cons]
          have hdec := decode_enc (encs (rs.take m)) (encs (rs.drop (m + 1))) r hrok
          rw [← hspl] at hdec
          have hel := (enc_len (r : Int)).1
          have hposl : (encs (rs.take m)).length < (encs rs).length := by rw [hspl]; simp only [List.length_append]; omega
          have hpos : (encs (rs.take m)).length < (Nm.bs (encs rs)).size := by rw [hsz]; exact hposl
          have htk : rs.take (m + 1) = rs.take m ++ [r] := take_snoc hr
          have hpos2 : (encs (rs.take (m + 1))).length = (encs (rs.take m)).length + (Lib.encodeRune (r : Int)).length := by rw [htk, encs_append]; simp
          have hnx0 := fun ty => Lib.run_next_any_at (P := Tryz.prog) wr it (Nm.bs (encs rs)) _ ty hiter hpos
          rw [hdec] at hnx0
          obtain ⟨W2, hW2⟩ : ∃ W2, W2 = wr.iterAt it (Nm.bs (encs rs)) ((encs (rs.take m)).length + (Lib.encodeRune (r : Int)).length) := ⟨_, rfl⟩
          have hnx : ∀ ty, (Instr.next (.pointer (some ⟨it, 0, none⟩)) true ty).run Tryz.prog wr = .ok (.tuple #[.bool true, .int .i64 ((encs (rs.take m)).length : Nat), .int .i32 (r : Int)]) W2 := fun ty => by rw [hnx0 ty, hW2]
          have hit2 : W2.heap[it]? = some (.stringIter (Nm.bs (encs rs)) (encs (rs.take (m + 1))).length) := by rw [hW2, hpos2]; exact Lib.iterAt_heap wr it _ _ _ hiter
          have hbld2 : Bld w.heap.size w.heap.size (Lib.byteCells acc2) W2 := by rw [hW2]; exact HJ.out.bld.iterAt hiter
          have hbel2 : Below w.heap.size w W2 := by rw [hW2]; exact Lib.below_iterAt HJ.out.bel hitw _ _
          have hz2 := hbel2.size
          have hstep : ∀ w5, Bld w.heap.size w.heap.size (Lib.byteCells acc2 ++ Lib.byteCells (Pos.escR r)) w5 → Below w.heap.size W2 w5 → IterKept W2 w5 → EscIn rs acc w it (m + 1) (acc2 ++ Pos.escR r) w5 := fun w5 h1 h2 h3 =>
            ⟨hml, by rw [htk, HJ.out.text]; simp, h3 it _ _ hit2, by rw [byteCells_app] at h1; exact h1, hbel2.trans h2⟩
          have hdn : ∀ w5, EscIn rs acc w it (m + 1) (acc2 ++ Pos.escR r) w5 → (encs rs).length - w5.iterPos it < (encs rs).length - wr.iterPos it := fun w5 h => by
            simp only [World.iterPos, h.iter, hiter]
            rw [hpos2]; omega
          have HST := Lib.hid hstep
          have HDN := Lib.hid hdn
          have hr0 : (r : Int) ≤ 2147483647 := by unfold OkRune at hrok; omega
          have HW0 := Lib.hid (rune_k w.heap.size w.heap.size (Lib.byteCells acc2) (r : Int) (by omega) hr0 W2 hbld2 hbl2 hz2)
          have HW1 : Hid (Calls Tryz.prog 73 #[.pointer (some ⟨w.heap.size, 0, none⟩), .string ⟨#[92, 53, 67]⟩] W2 fun e w' => (∃ n, e = .returned (.tuple #[.int .i64 n, .nilIface])) ∧ Bld w.heap.size w.heap.size (Lib.byteCells acc2 ++ Lib.byteCells [92, 53, 67]) w' ∧ Below w.heap.size W2 w' ∧ IterKept W2 w') :=
            Lib.hid (str_k w.heap.size w.heap.size (Lib.byteCells acc2) [92, 53, 67] (by simp) (by simp) W2 hbld2 hbl2 hz2)
          have HW2' : Hid (Calls Tryz.prog 73 #[.pointer (some ⟨w.heap.size, 0, none⟩), .string ⟨#[92, 50, 52]⟩] W2 fun e w' => (∃ n, e = .returned (.tuple #[.int .i64 n, .nilIface])) ∧ Bld w.heap.size w.heap.size (Lib.byteCells acc2 ++ Lib.byteCells [92, 50, 52]) w' ∧ Below w.heap.size W2 w' ∧ IterKept W2 w') :=
            Lib.hid (str_k w.heap.size w.heap.size (Lib.byteCells acc2) [92, 50, 52] (by simp) (by simp) W2 hbld2 hbl2 hz2)
          clear hnx0 hspl hdec hposl hpos hpos2 htk hit2 hbld2 hbel2 hstep hdn hiter hW2 hr hrok hme
          by_cases h92 : r = 92
          · subst h92
            have he : Pos.escR 92 = [92, 53, 67] := rfl
            rw [he] at HST HDN
            clear HW0 HW2'
            go_wp2_with fail
            refine HW1.out.mono ?_
            rintro e w5 ⟨⟨nn, rfl⟩, hb5, hbe5, hk5⟩
            have HN := Lib.hid (HST.out w5 hb5 hbe5 hk5)
            clear hb5 hbe5 hk5
            go_wp2_with fail
            exact ⟨⟨m + 1, _, HN⟩, HDN.out w5 HN.out⟩
          · have q1 : ((r : Int) == 92) = false := by rw [beq_eq_false_iff_ne]; omega
            by_cases h36 : r = 36
            · subst h36
              have he : Pos.escR 36 = [92, 50, 52] := rfl
              rw [he] at HST HDN
              clear HW0 HW1
              go_wp2_with fail
              refine HW2'.out.mono ?_
              rintro e w5 ⟨⟨nn, rfl⟩, hb5, hbe5, hk5⟩
              have HN := Lib.hid (HST.out w5 hb5 hbe5 hk5)
              clear hb5 hbe5 hk5
              go_wp2_with fail
              exact ⟨⟨m + 1, _, HN⟩, HDN.out w5 HN.out⟩
            · have q2 : ((r : Int) == 36) = false := by rw [beq_eq_false_iff_ne]; omega
              have he : Pos.escR r = Lib.encodeRune (r : Int) := by unfold Pos.escR; rw [if_neg h92, if_neg h36]
              rw [he] at HST HDN
              rw [← Lib.byteCells_encodeRune] at HW0
              clear HW1 HW2' he h92 h36
              go_wp2_with fail
              refine HW0.out.mono ?_
              rintro e w5 ⟨⟨nn, rfl⟩, hb5, hbe5, hk5⟩
              have HN := Lib.hid (HST.out w5 hb5 hbe5 hk5)
              clear hb5 hbe5 hk5
              go_wp2_with fail
              exact ⟨⟨m + 1, _, HN⟩, HDN.out w5 HN.out⟩

set_option maxRecDepth 100000 in
set_option maxHeartbeats 8000000 in
theorem postal_text (ls : List (List UInt8)) (hne : ls ≠ []) (hl : ls.length ≤ 6) (hu : ∀ l ∈ ls, l ≠ [] ∧ Utf l ∧ l.length ≤ 20) (v : Value) (w : World) (hin : StrsIn w v ls) :
    Calls Tryz.prog 24 #[v] w fun e w' => e = .returned (.tuple #[.string (Nm.bs (Pos.behind (ls.map Pos.esc))), .string ⟨#[]⟩]) ∧ Below w.heap.size w w' := by
  have HIN := Lib.hid hin
  have HU := Lib.hid hu
  have HNE := Lib.hid hne
  obtain ⟨o0, c0, rfl, -⟩ := hin
  clear hu hne
  go_enter Tryz.func24, Tryz.ntmps24
  go_wp2_with (at_builtin; refine wpList_append_copy rfl _ _ rfl rfl _ rfl ls ?e1 HIN.out ?_)
  case e1 => omega
  intro v' w1 hown hb1
  have hs1 := hb1.size
  have HN := Lib.hid (new_post ls HNE.out (fun l h => (HU.out l h).1) v' w1 hown.in' (by omega))
  have HB1 := Lib.hid hb1
  clear hown hb1
  go_wp2_with fail
  refine HN.out.mono ?_
  rintro e w2 ⟨⟨p, rfl, hpa⟩, hb2⟩
  have HB2 := Lib.hid (HB1.out.trans (hb2.mono hs1))
  have hs2 := HB2.out.size
  have HE := Lib.hid (escape_post ls p w2 hpa hl (fun l h => (HU.out l h).2))
  clear hpa hb2 HN
  go_wp2_with fail
  refine HE.out.mono ?_
  rintro e w3 ⟨rfl, hb3⟩
  have HB3 := Lib.hid (HB2.out.trans (hb3.mono hs2))
  clear hb3 HE
  go_wp2_with fail
  go_ret2
  exact ⟨rfl, HB3.out⟩
end Go.Proofs.YtjmahgefijncaaaGreatFmt
