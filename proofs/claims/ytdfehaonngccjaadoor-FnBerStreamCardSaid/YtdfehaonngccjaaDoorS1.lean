/- FnBerStream: the walk. -/
import Derived.Test.YtdfehaonngccjaaDoorB12
set_option linter.unusedVariables false
set_option linter.unusedSimpArgs false
namespace Go.Proofs.YtdfehaonngccjaaDoor
open Go Go.RowKit Go.Proofs.YtdfehaonngccjaaDoorW.PrintWords Go.Proofs.YtdfehaonngccjaaDoorW.PrintLast Go.Proofs.YtdfehaonngccjaaDoorW.PrintMore

namespace Ber
/-- Forms one behind the other. -/
def textFrom (f : Nat → List UInt8) : List Pk → Nat → List UInt8
  | [], _ => []
  | x :: r, i => (forms (f i) x 0).1 ++ textFrom f r (i + 1)
theorem textFrom_append (f : Nat → List UInt8) : ∀ (l m : List Pk) (i : Nat), textFrom f (l ++ m) i = textFrom f l i ++ textFrom f m (i + l.length)
  | [], m, i => by simp [textFrom]
  | x :: l, m, i => by
    simp only [List.cons_append, textFrom, textFrom_append f l m (i + 1), List.append_assoc, List.length_cons]
    rw [show i + 1 + l.length = i + (l.length + 1) by omega]
theorem textFrom_congr (f g : Nat → List UInt8) : ∀ (l : List Pk) (i : Nat), (∀ k, i ≤ k → k < i + l.length → f k = g k) → textFrom f l i = textFrom g l i
  | [], i, _ => rfl
  | x :: l, i, h => by
    simp only [textFrom]
    rw [h i (Nat.le_refl _) (by simp), textFrom_congr f g l (i + 1) (fun k h1 h2 => h k (by omega) (by simp; omega))]
/-- What FnBerStream asks of a value. -/
def Good (x : Pk) : Prop := IsOK 7 x ∧ count x ≤ 40 ∧ Known x
end Ber

def streamT : Bool × List (List Nat × List Nat) := (true, [([], []), ([], []), ([0, 1], [0, 1]), ([2], [2]), ([], []), ([], []), ([4, 5], [4, 5]), ([3, 6, 3], [3, 6]), ([7, 7, 0, 1, 2, 3, 4, 5, 6, 7], [0, 4, 7])])
def streamB : List Nat := [0, 0, 3, 7, 0, 0, 48, 127, 255]
theorem stream_tab : rtab .any (opsOf Tryd.f4 13) = streamT := by kernel_rfl
theorem bs_drop (a b : List UInt8) : (bs (a ++ b)).extract a.length (a.length + b.length) = bs b := by
  apply ByteArray.ext
  rw [ByteArray.data_extract]
  show (a ++ b).toArray.extract _ _ = b.toArray
  apply Array.ext'
  simp
def twistT : Bool × List (List Nat × List Nat) := (true, [([],[]), ([0],[0]), ([1],[1]), ([2],[2]), ([3,2],[2,3]), ([2,4],[2,4]), ([5,2],[5]), ([6],[6]), ([6],[6]), ([8,6],[6,8]), ([7,9,6],[6,7,9]), ([6,10],[6,10]), ([11,6],[11]), ([12],[12]), ([13,12,12],[12,13]), ([12],[12]), ([14,15,14,12],[12,14,15]), ([16,12],[12,16]), ([12,17],[12,17])])
def twistB : List Nat := [0, 0, 0, 0, 0, 0, 0, 0, 0, 0, 0, 0, 0, 0, 0, 0, 0, 0, 0]
theorem twist_tab : rtab .any (opsOf Tryd.f4 20) = twistT := by kernel_rfl
theorem twist_bits : waitsOk twistT.2 twistB = true := by kernel_rfl
theorem stream_bits : waitsOk streamT.2 streamB = true := by kernel_rfl

/-- Where the stream of the values stands. -/
structure Turn (w : World) (pks : List Ber.Pk) (ch : List UInt8) (Ac : Option Addr) (cc : Nat) (j : Nat) (T : List UInt8) (wr : World) : Prop where
  rows : ∃ chj : List UInt8, chj.length = ch.length ∧ Kd.C (Kd.int .u8) wr Ac ch.length (chj.map fun x => (x.toNat : Int))
  cap : ch.length ≤ cc
  told : ∃ f : Nat → List UInt8, T = Ber.textFrom f (pks.take j) 0
  good : ∀ i (hi : i < pks.length), i < j → Ber.Good pks[i]
  below : Below w.heap.size w wr

theorem Ber.textFrom_len (f : Nat → List UInt8) : ∀ (l : List Ber.Pk) (i : Nat), (∀ x, x ∈ l → Ber.Good x) → (Ber.textFrom f l i).length ≤ 20000 * l.length
  | [], i, _ => by simp [Ber.textFrom]
  | x :: l, i, h => by
    have h1 := h x (List.mem_cons_self ..)
    have h2 := Ber.read_form (f i) x [] h1.1 h1.2.2 h1.2.1
    have h3 := Ber.textFrom_len f l (i + 1) (fun y hy => h y (List.mem_cons_of_mem _ hy))
    simp only [Ber.textFrom, List.length_append, List.length_cons]
    omega
theorem Turn.short {w : World} {pks : List Ber.Pk} {ch : List UInt8} {Ac : Option Addr} {cc j : Nat} {T : List UInt8} {wr : World} (h : Turn w pks ch Ac cc j T wr) (hl : pks.length ≤ 8) : T.length ≤ 160000 := by
  obtain ⟨f, rfl⟩ := h.told
  have h1 := Ber.textFrom_len f (pks.take j) 0 (fun x hx => by
    obtain ⟨i, hi, rfl⟩ := List.getElem_of_mem hx
    rw [List.getElem_take]
    rw [List.length_take] at hi
    exact h.good i (by omega) (by omega))
  rw [List.length_take] at h1
  omega
theorem Turn.next {w : World} {pks : List Ber.Pk} {ch : List UInt8} {Ac Ac' : Option Addr} {cc cc' j : Nat} {T : List UInt8} {wr wr' : World} (h : Turn w pks ch Ac cc j T wr) (hj : j < pks.length) {x : Ber.Pk} (hx : x = pks[j]) (hg : Ber.Good x) {chj T1 : List UInt8} {a2 : Nat}
    (hf : Ber.forms chj x 0 = (T1, a2)) (hl : chj.length = ch.length) (hC : Kd.C (Kd.int .u8) wr' Ac' ch.length (chj.map fun x => (x.toNat : Int))) (hcc : ch.length ≤ cc') (hb : Below w.heap.size w wr') : Turn w pks ch Ac' cc' (j + 1) (T ++ T1) wr' := by
  obtain ⟨f, hT⟩ := h.told
  refine ⟨⟨chj, hl, hC⟩, hcc, ⟨fun i => if i = j then chj else f i, ?_⟩, fun i hi h2 => ?_, hb⟩
  · rw [List.take_succ_eq_append_getElem hj, Ber.textFrom_append, List.length_take, show min j pks.length = j by omega]
    have e1 : Ber.textFrom (fun i => if i = j then chj else f i) (pks.take j) 0 = Ber.textFrom f (pks.take j) 0 := Ber.textFrom_congr _ _ _ _ (fun k _ h2 => by
      rw [List.length_take] at h2
      rw [if_neg (by omega)])
    rw [e1, ← hT]
    simp only [Ber.textFrom, Nat.zero_add, if_true, List.append_nil]
    rw [← hx, hf]
  · by_cases e : i = j
    · subst e; rw [← hx]; exact hg
    · exact h.good i hi (by omega)

set_option maxRecDepth 100000 in
set_option maxHeartbeats 16000000 in
theorem law_stream (N : Nat) (w : World) (hE : Env N w) (hN : N ≤ w.heap.size) (pks : List Ber.Pk) (A : Option Addr) (cp : Nat) (hC : Kd.C PFnBerForms.k26 w A pks.length (spSs pks)) (hcp : pks.length ≤ cp) (hty : Ber.Typeds pks)
    (ch : List UInt8) (Ac : Option Addr) (cc : Nat) (hch : Kd.C (Kd.int .u8) w Ac ch.length (ch.map fun x => (x.toNat : Int))) (hcc : ch.length ≤ cc) :
    Calls Tryd.prog 4 #[.slice A pks.length cp, .slice Ac ch.length cc] w fun e w' => e = .returned (.bool true) ∧ Below w.heap.size w w' := by
  have HE := Lib.hid hE
  have HC := Lib.hid hC
  have HTY := Lib.hid hty
  have HCH := Lib.hid hch
  clear hE hC hty hch
  go_enter Tryd.func4, Tryd.ntmps4
  by_cases h1 : 2147483647 < pks.length
  · go_wp2
    go_ret
    exact ⟨rfl, Below.refl _ _⟩
  by_cases h2 : 2147483647 < ch.length
  · go_wp2
    go_ret
    exact ⟨rfl, Below.refl _ _⟩
  by_cases h3 : 8 < pks.length
  · go_wp2_with fail
    refine (awake N w HE.out hN).mono ?_
    rintro e w1 ⟨rfl, hb⟩
    have HB := Lib.hid hb
    clear hb
    go_wp2
    go_ret
    exact ⟨rfl, HB.out⟩
  by_cases h4 : 40 < ch.length
  · go_wp2_with fail
    refine (awake N w HE.out hN).mono ?_
    rintro e w1 ⟨rfl, hb⟩
    have HB := Lib.hid hb
    clear hb
    go_wp2
    go_ret
    exact ⟨rfl, HB.out⟩
  -- LOOPS
  have hsmall : pks.length ≤ 8 ∧ ch.length ≤ 40 := by omega
  have HSM := Lib.hid hsmall
  clear hsmall
  go_wp2_with fail
  rename_i g1 g2 g3 g4 K9 Q9
  clear g1 g2 g3 g4 h1 h2 h3 h4
  go_loopg [1, 5, 33] pks.length (fun kq v1 v5 v33 wr => ∃ (j : Nat) (Acj : Option Addr) (ccj : Nat) (T : List UInt8), v1 = .slice Acj ch.length ccj ∧ v5 = .string (bs T) ∧ v33 = .int .i64 j ∧ Hid (j + kq = pks.length) ∧ Hid (Turn w pks ch Acj ccj j T wr))
  case atStart => exact ⟨0, Ac, cc, [], rfl, rfl, by go_num, Lib.hid (by simp), Lib.hid ⟨⟨ch, rfl, HCH.out⟩, hcc, ⟨fun _ => [], by simp [Ber.textFrom]⟩, fun i hi h => absurd h (Nat.not_lt_zero _), Below.refl _ _⟩⟩
  case round =>
  obtain ⟨j, Acj, ccj, T, rfl, rfl, rfl, HJ, HT⟩ := hrel
  by_cases hj : j < pks.length
  · obtain ⟨ad, A4, c4, e4, hx0, hx1, hx2, hx3, hx4, hl4, hi4⟩ := PFnBerForms.at_T26 HC.out (j : Int) (by omega) (by omega)
    rw [rd_spS pks j hj] at hx0 hx1 hx2 hx3 hx4 hl4 hi4
    obtain ⟨x, hx⟩ : ∃ x, x = pks[j] := ⟨_, rfl⟩
    have htx : Ber.Typed x := by rw [hx]; exact HTY.out.get j hj
    rw [← hx] at hx0 hx1 hx2 hx3 hx4 hl4 hi4
    obtain ⟨c1, b1, t1, d1, i1⟩ := x
    simp only [spS, spSs_length, Int.toNat_natCast] at hx0 hx1 hx2 hx3 hx4 hl4 hi4
    subst e4
    have hBw := HT.out.below
    replace hx0 := (hBw.cell (World.block_lt_of_cell? w _ hx0)).trans hx0
    replace hx1 := (hBw.cell (World.block_lt_of_cell? w _ hx1)).trans hx1
    replace hx2 := (hBw.cell (World.block_lt_of_cell? w _ hx2)).trans hx2
    replace hx3 := (hBw.cell (World.block_lt_of_cell? w _ hx3)).trans hx3
    replace hx4 := (hBw.cell (World.block_lt_of_cell? w _ hx4)).trans hx4
    obtain ⟨W1, hW1⟩ : ∃ W1, W1 = wr.alloc (.cells #[.int .u8 (c1 : Int), .bool b1, .int .u64 (t1 : Int), .string (bs d1), .slice A4 i1.length c4] 26) := ⟨_, rfl⟩
    have hW1s : Below w.heap.size w W1 := by rw [hW1]; exact hBw.alloc hBw.size _
    have hblk : W1.heap[wr.heap.size]? = some (.cells #[.int .u8 (c1 : Int), .bool b1, .int .u64 (t1 : Int), .string (bs d1), .slice A4 i1.length c4] 26 (0, 0)) := by rw [hW1]; exact heap_alloc_new wr _
    have hWr : Below wr.heap.size wr W1 := by rw [hW1]; exact (Below.refl _ wr).alloc (Nat.le_refl _) _
    obtain ⟨r1, hr1, hcall1⟩ := berIs_call W1 c1 b1 t1 d1 i1 htx A4 c4 (Kd.C_below hi4 hW1s) hl4
    have HW1 := Lib.hid hW1
    have HW1S := Lib.hid hW1s
    have HBLK := Lib.hid hblk
    have HWR := Lib.hid hWr
    have HX := Lib.hid hx
    have HI4 := Lib.hid hi4
    have HR1 := Lib.hid hr1
    have HC1 := Lib.hid hcall1
    have hp1 : ((j : Int) < (pks.length : Int)) = True := eq_true (by omega)
    have hp0 : (0 ≤ (j : Int)) = True := eq_true (by omega)
    have hjd : decide ((j : Int) < (pks.length : Int)) = true := by simp; omega
    have hjs : j < 8 := by have := HSM.out.1; omega
    have hlt : wr.heap.size < W1.heap.size := blockLt hblk
    clear hW1s hBw hi4 hx hW1 hblk hWr hr1 hcall1 htx
    go_wp2_with fail
    rw [← HW1.out]
    refine HC1.out.mono ?_
    rintro e w2 ⟨rfl, hb2⟩
    have HB2 := Lib.hid hb2
    have hblk2 : w2.heap[wr.heap.size]? = _ := (hb2.block _ hlt).trans HBLK.out
    have e0 := blockCell hblk2 0
    have e1 := blockCell hblk2 1
    have e2 := blockCell hblk2 2
    have e3 := blockCell hblk2 3
    have e4 := blockCell hblk2 4
    simp only [List.getElem?_toArray, List.getElem?_cons_zero, List.getElem?_cons_succ] at e0 e1 e2 e3 e4
    have HBLK2 := Lib.hid hblk2
    clear hb2 hblk2 hx0 hx1 hx2 hx3 hx4
    cases r1 with
    | false =>
      go_wp2_with fail
      refine (awake N w2 (HE.out.below (HW1S.out.trans (HB2.out.mono HW1S.out.size)) hN) (by have := HW1S.out.size; have := HB2.out.size; omega)).mono ?_
      rintro e w3 ⟨rfl, hb⟩
      have HB := Lib.hid ((HW1S.out.trans (HB2.out.mono HW1S.out.size)).trans (hb.mono (by have := HW1S.out.size; have := HB2.out.size; omega)))
      clear hb
      go_wp2
      go_ret
      exact ⟨rfl, HB.out⟩
    | true =>
      have hpl := plain_all w _ c1 b1 t1 d1 i1 (Nat.lt_succ_self _) w2 A4 c4 (HW1S.out.trans (HB2.out.mono HW1S.out.size)) HI4.out hl4
      have HPL := Lib.hid hpl
      clear hpl
      go_wp2_with fail
      refine HPL.out.mono ?_
      rintro e w3 ⟨⟨r2, rfl, hr2⟩, hb3⟩
      have HR2 := Lib.hid hr2
      have hbel3 : Below w.heap.size w w3 := (HW1S.out.trans (HB2.out.mono HW1S.out.size)).trans (hb3.mono (by have := HW1S.out.size; have := HB2.out.size; omega))
      have HBEL3 := Lib.hid hbel3
      have HB3 := Lib.hid hb3
      clear hr2 hb3 hbel3
      cases r2 with
      | false =>
        go_wp2_with fail
        refine (awake N w3 (HE.out.below HBEL3.out hN) (by have := HBEL3.out.size; omega)).mono ?_
        rintro e w4 ⟨rfl, hb⟩
        have HB := Lib.hid (HBEL3.out.trans (hb.mono HBEL3.out.size))
        clear hb
        go_wp2
        go_ret
        exact ⟨rfl, HB.out⟩
      | true =>
        by_cases hc0 : ch.length < 1
        · skip
          have hblk3 : w3.heap[wr.heap.size]? = _ := (HB3.out.block _ (blockLt HBLK2.out)).trans HBLK2.out
          have d0 := blockCell hblk3 0
          have d1' := blockCell hblk3 1
          have d2 := blockCell hblk3 2
          have d3 := blockCell hblk3 3
          have d4 := blockCell hblk3 4
          simp only [List.getElem?_toArray, List.getElem?_cons_zero, List.getElem?_cons_succ] at d0 d1' d2 d3 d4
          have HBLK3 := Lib.hid hblk3
          have hrows : ∃ chj : List UInt8, chj.length = ch.length ∧ Kd.C (Kd.int .u8) w3 Acj ch.length (chj.map fun x => (x.toNat : Int)) := by
            obtain ⟨chj, q1, q2⟩ := HT.out.rows
            exact ⟨chj, q1, Kd.C_below q2 (HWR.out.trans ((HB2.out.mono HWR.out.size).trans (HB3.out.mono (by have := HWR.out.size; have := HB2.out.size; omega))))⟩
          have HROWS := Lib.hid hrows
          clear e0 e1 e2 e3 e4 hblk3 hrows
          obtain ⟨chj, hchl, hCJ⟩ := HROWS.out
          obtain ⟨T1, a2, hf1⟩ : ∃ T1 a2, Ber.forms chj (.mk c1 b1 t1 d1 i1) 0 = (T1, a2) := ⟨_, _, rfl⟩
          have hgood : Ber.Good (.mk c1 b1 t1 d1 i1) := ⟨(HR1.out (by first | rfl | trivial)).1, (HR1.out (by first | rfl | trivial)).2, HR2.out (by first | rfl | trivial)⟩
          have hrf := Ber.read_form chj (.mk c1 b1 t1 d1 i1) [] hgood.1 hgood.2.2 hgood.2.1
          rw [hf1] at hrf
          have hcall := berForms_call w3 chj Acj ccj (forms_all w3 chj Acj ccj (by rw [hchl]; exact hCJ) (by have := HSM.out.2; omega)) c1 b1 t1 d1 i1 (Ber.ok_of _ 7 hgood.1) A4 c4 T1 a2 hf1 (by have := hrf.2.2.2; simp only [] at this; omega) (by have := hrf.2.1; simp only [] at this; omega) (Kd.C_below HI4.out HBEL3.out) hl4
          rw [hchl] at hcall
          have hTl := HT.out.short (by have := HSM.out.1; omega)
          have hadd : (bs T).size + (bs T1).size ≤ 9223372036854775807 := by rw [bs_size, bs_size]; have := hrf.2.1; simp only [] at this; omega
          have HCALL := Lib.hid hcall
          have HGOOD := Lib.hid hgood
          have HF1 := Lib.hid hf1
          have HCJ := Lib.hid hCJ
          have HCHL := Lib.hid hchl
          clear hcall hgood hf1 hrf hCJ hchl hTl
          go_wp2_with fail
          refine HCALL.out.mono ?_
          rintro e w5 ⟨rfl, hb5⟩
          have HB5 := Lib.hid hb5
          clear hb5
          go_wp2
          have hgk : ∃ q, gk = q + 1 := ⟨gk - 1, by have := HJ.out; omega⟩
          obtain ⟨q, rfl⟩ := hgk
          go_roundg q
          case measure => exact Nat.lt_succ_self _
          case rel => exact ⟨j + 1, _, _, T ++ T1, by rfl, by rw [← bs_append], by go_num, Lib.hid (by have := HJ.out; omega), Lib.hid (HT.out.next hj HX.out HGOOD.out HF1.out HCHL.out (Kd.C_below HCJ.out HB5.out) HT.out.cap (HBEL3.out.trans (HB5.out.mono HBEL3.out.size)))⟩
        · skip
          have hblk3 : w3.heap[wr.heap.size]? = _ := (HB3.out.block _ (blockLt HBLK2.out)).trans HBLK2.out
          have d0 := blockCell hblk3 0
          have d1' := blockCell hblk3 1
          have d2 := blockCell hblk3 2
          have d3 := blockCell hblk3 3
          have d4 := blockCell hblk3 4
          simp only [List.getElem?_toArray, List.getElem?_cons_zero, List.getElem?_cons_succ] at d0 d1' d2 d3 d4
          have HBLK3 := Lib.hid hblk3
          have hrows : ∃ chj : List UInt8, chj.length = ch.length ∧ Kd.C (Kd.int .u8) w3 Acj ch.length (chj.map fun x => (x.toNat : Int)) := by
            obtain ⟨chj, q1, q2⟩ := HT.out.rows
            exact ⟨chj, q1, Kd.C_below q2 (HWR.out.trans ((HB2.out.mono HWR.out.size).trans (HB3.out.mono (by have := HWR.out.size; have := HB2.out.size; omega))))⟩
          have HROWS := Lib.hid hrows
          clear e0 e1 e2 e3 e4 hblk3 hrows
          go_wp2_with fail
          obtain ⟨ix, hix⟩ : ∃ ix, ix = j % ch.length := ⟨_, rfl⟩
          have hixl : ix < ch.length := by rw [hix]; exact Nat.mod_lt _ (by omega)
          have hrem : (j : Int) % (ch.length : Int) = (ix : Int) := by rw [hix]; exact (Int.natCast_emod j ch.length).symm
          rw [hrem]
          obtain ⟨chj, hchl, hCJ⟩ := HROWS.out
          have hcapj := HT.out.cap
          have HCJ := Lib.hid hCJ
          have HCHL := Lib.hid hchl
          have q1 : (0 ≤ (ix : Int)) = True := eq_true (by omega)
          have q2 : ((ix : Int) ≤ (ch.length : Int)) = True := eq_true (by omega)
          have q3 : ((ch.length : Int) ≤ (ccj : Int)) = True := eq_true (by omega)
          have q4 : ((ix : Int) ≤ (ccj : Int)) = True := eq_true (by omega)
          clear hCJ hchl hrem hix
          refine start_ (n := 9) (S := fun _ => True) (ds := [8]) #[false, false, false, false, false, false, false, false, false] (by kernel_rfl) rfl rfl trivial (fun hHeld => ?_)
          refine with_tabW stream_tab stream_bits (fun HT_ HW_ => ?_)
          obtain ⟨ns, hns⟩ : ∃ ns : List Int, ns = chj.map fun x => (x.toNat : Int) := ⟨_, rfl⟩
          have hnl : ns.length = ch.length := by rw [hns, List.length_map]; exact HCHL.out
          have hC4 : Kd.C (Kd.int .u8) w3.drew Acj ns.length ns := by rw [hnl, hns]; exact Kd.C_drew HCJ.out
          have hbel4 : Below w.heap.size w w3.drew := HBEL3.out.drew
          have hbl4 : w3.drew.heap[wr.heap.size]? = _ := HBLK3.out
          generalize w3.drew = w4 at hC4 hbel4 hbl4 hHeld ⊢
          have hdrop := Kd.C_drop hC4 (m := ix) (c := ccj) (by omega) (by omega)
          simp only [show (Kd.int .u8).sz = 1 from rfl, Nat.mul_one] at hdrop
          rw [List.length_drop, hnl] at hdrop
          have htake := Kd.C_take hC4 (m := ix) (by omega)
          rw [List.length_take, show min ix ns.length = ix by omega] at htake
          have hdl : (ns.drop ix).length = ch.length - ix := by rw [List.length_drop, hnl]
          have h40 : ch.length ≤ 40 := HSM.out.2
          refine pure_ (i := 0) (N := some 54) (v := ?_) (a' := ?_) #[true, false, false, false, false, false, false, false, false] rfl rfl (any_of HT_.out (by kernel_rfl)) (fun _ _ _ h => h) (Or.inl ⟨by rfl, ?_⟩) ?_ ?_
          rotate_left
          · intro w'
            go_simp
            with_reducible rfl
          rotate_left
          · simp only [Act.put, List.setIfInBounds_toArray, List.set_cons_zero, List.set_cons_succ]
            rfl
          refine pure_ (i := 1) (N := some 55) (v := ?_) (a' := ?_) #[true, true, false, false, false, false, false, false, false] rfl rfl (any_of HT_.out (by kernel_rfl)) (fun _ _ _ h => h) (Or.inl ⟨by rfl, ?_⟩) ?_ ?_
          rotate_left
          · intro w'
            go_simp
            with_reducible rfl
          rotate_left
          · simp only [Act.put, List.setIfInBounds_toArray, List.set_cons_zero, List.set_cons_succ]
            rfl
          refine pure_ (i := 4) (N := some 58) (v := ?_) (a' := ?_) #[true, true, false, false, true, false, false, false, false] rfl rfl (any_of HT_.out (by kernel_rfl)) (fun _ _ _ h => h) (Or.inl ⟨by rfl, ?_⟩) ?_ ?_
          rotate_left
          · intro w'
            go_simp
            with_reducible rfl
          rotate_left
          · simp only [Act.put, List.setIfInBounds_toArray, List.set_cons_zero, List.set_cons_succ]
            rfl
          refine pure_ (i := 5) (N := some 59) (v := ?_) (a' := ?_) #[true, true, false, false, true, true, false, false, false] rfl rfl (any_of HT_.out (by kernel_rfl)) (fun _ _ _ h => h) (Or.inl ⟨by rfl, ?_⟩) ?_ ?_
          rotate_left
          · intro w'
            go_simp
            with_reducible rfl
          rotate_left
          · simp only [Act.put, List.setIfInBounds_toArray, List.set_cons_zero, List.set_cons_succ]
            rfl
          refine pure_ (i := 2) (N := some 56) (v := ?_) (a' := ?_) #[true, true, true, false, true, true, false, false, false] rfl rfl (any_of HT_.out (by kernel_rfl)) (fun _ _ _ h => h) (Or.inl ⟨by rfl, ?_⟩) ?_ ?_
          rotate_left
          · intro w'
            go_simp
            with_reducible rfl
          rotate_left
          · simp only [Act.put, List.setIfInBounds_toArray, List.set_cons_zero, List.set_cons_succ]
            rfl
          refine pure_ (i := 6) (N := some 60) (v := ?_) (a' := ?_) #[true, true, true, false, true, true, true, false, false] rfl rfl (any_of HT_.out (by kernel_rfl)) (fun _ _ _ h => h) (Or.inl ⟨by rfl, ?_⟩) ?_ ?_
          rotate_left
          · intro w'
            go_simp
            with_reducible rfl
          rotate_left
          · simp only [Act.put, List.setIfInBounds_toArray, List.set_cons_zero, List.set_cons_succ]
            rfl
          refine one_ (i := 3) (N := some 57) #[true, true, true, true, true, true, true, false, false] rfl rfl (one_of HT_.out (by kernel_rfl)) (by decide) (fun K hK => ?_)
          refine Kd.R_append_rows_step (Kd.int .u8) (Rr := (Kd.int .u8).K w4) (w0 := w4) w4.heap.size (by rfl) (.const (.slice none 0 0)) (.tmp 56) 37 5 (.int .u8 0) 1 rfl Tryd.underlying37 PFnBerForms.info5 rfl (by decide) (by decide) (.slice none 0 0) ([] : List Int) (ns.drop ix) _ (ch.length - ix) _ (fun _ => True) (fun _ => False) rfl rfl (Kd.R_nil _ _ _ _ _) hdrop (fun _ _ h => h) (fun _ h => h.elim) (fun _ _ => trivial) (Below.refl _ _) (Nat.le_refl _) (by simp only [List.length_nil, Nat.zero_add]; omega) ?_
          intro v57 w5 ho5 hb5 _ _
          rw [List.nil_append] at ho5
          have HO5 := Lib.hid ho5
          have HB5' := Lib.hid hb5
          have HTAKE := Lib.hid (Kd.C_below htake hb5)
          have HHD := Lib.hid hdl
          clear ho5 hb5 htake hdrop hdl
          refine hK.out _ _ trivial (fun hHeld => ?_)
          clear hK K
          refine norm_ (a' := ?_) ?_ ?_
          rotate_left
          · show Act.put _ (some 57) _ = _
            simp only [Act.put, List.setIfInBounds_toArray, List.set_cons_zero, List.set_cons_succ]
            rfl
          refine one_ (i := 7) (N := some 61) #[true, true, true, true, true, true, true, true, false] rfl rfl (one_of HT_.out (by kernel_rfl)) (by decide) (fun K hK => ?_)
          refine Kd.R_append_rows_step (Kd.int .u8) (Rr := (Kd.int .u8).K w5) (w0 := w4) w4.heap.size (by rfl) (.tmp 57) (.tmp 60) 37 5 (.int .u8 0) 1 rfl Tryd.underlying37 PFnBerForms.info5 rfl (by decide) (by decide) v57 (ns.drop ix) (ns.take ix) _ ix _ (fun _ => True) (fun _ => False) rfl rfl HO5.out HTAKE.out (fun _ _ h => h) (fun _ h => h.elim) (fun _ _ => trivial) HB5'.out HB5'.out.size (by rw [HHD.out]; omega) ?_
          intro v61 w6 ho6 hb6 _ _
          obtain ⟨A61, c61, e61, l61, hC61⟩ := Kd.R_reads ho6
          have hl61 : (ns.drop ix ++ ns.take ix).length = ch.length := by rw [List.length_append, HHD.out, List.length_take]; omega
          rw [hl61] at e61 l61 hC61
          subst e61
          have hbl6 : w6.heap[wr.heap.size]? = _ := (hb6.block _ (blockLt hbl4)).trans hbl4
          have hbel6 : Below w.heap.size w w6 := hbel4.trans (hb6.mono hbel4.size)
          have hns2 : (ns.drop ix ++ ns.take ix) = (chj.drop ix ++ chj.take ix).map fun x => (x.toNat : Int) := by rw [hns, List.map_append, List.map_drop, List.map_take]
          rw [hns2] at hC61
          have hrot : (chj.drop ix ++ chj.take ix).length = ch.length := by have := HCHL.out; rw [List.length_append, List.length_drop, List.length_take]; omega
          have HROT : Hid (∃ c2 : List UInt8, c2.length = ch.length ∧ Kd.C (Kd.int .u8) w6 A61 ch.length (c2.map fun x => (x.toNat : Int))) := Lib.hid ⟨_, hrot, hC61⟩
          have HL61 := Lib.hid l61
          have HBEL6 := Lib.hid hbel6
          have b0 := blockCell hbl6 0
          have b1' := blockCell hbl6 1
          have b2 := blockCell hbl6 2
          have b3 := blockCell hbl6 3
          have b4 := blockCell hbl6 4
          simp only [List.getElem?_toArray, List.getElem?_cons_zero, List.getElem?_cons_succ] at b0 b1' b2 b3 b4
          clear ho6 hb6 hC61 hl61 hns2 hrot l61 hbel6 hbl6 hns d0 d1' d2 d3 d4
          refine hK.out _ _ trivial (fun hHeld => ?_)
          clear hK K
          refine norm_ (a' := ?_) ?_ ?_
          rotate_left
          · show Act.put _ (some 61) _ = _
            simp only [Act.put, List.setIfInBounds_toArray, List.set_cons_zero, List.set_cons_succ]
            rfl
          refine last_ (i := 8) (N := some 1) #[true, true, true, true, true, true, true, true, true] rfl rfl (one_of HT_.out (by kernel_rfl)) (by decide) (fun K hK => ?_)
          refine value_ (w1 := ?_) (v := ?_) (by rfl) rfl ?_ ?_
          rotate_left 2
          · go_simp
            constructor
            · rfl
            · rfl
          refine hK.out _ _ ?_
          clear hK K
          refine done_ (done_of HT_.out (by kernel_rfl)) ?_
          simp only [Act.put, List.setIfInBounds_toArray, List.set_cons_zero, List.set_cons_succ]
          clear HT_ HW_ hHeld hC4 hbel4 hbl4 q1 q2 q3 q4
          obtain ⟨c2, hchl2, hCJ2⟩ := HROT.out
          obtain ⟨T1, a2, hf1⟩ : ∃ T1 a2, Ber.forms c2 (.mk c1 b1 t1 d1 i1) 0 = (T1, a2) := ⟨_, _, rfl⟩
          have hgood : Ber.Good (.mk c1 b1 t1 d1 i1) := ⟨(HR1.out (by first | rfl | trivial)).1, (HR1.out (by first | rfl | trivial)).2, HR2.out (by first | rfl | trivial)⟩
          have hrf := Ber.read_form c2 (.mk c1 b1 t1 d1 i1) [] hgood.1 hgood.2.2 hgood.2.1
          rw [hf1] at hrf
          have hcall := berForms_call w6 c2 A61 c61 (forms_all w6 c2 A61 c61 (by rw [hchl2]; exact hCJ2) (by have := HSM.out.2; omega)) c1 b1 t1 d1 i1 (Ber.ok_of _ 7 hgood.1) A4 c4 T1 a2 hf1 (by have := hrf.2.2.2; simp only [] at this; omega) (by have := hrf.2.1; simp only [] at this; omega) (Kd.C_below HI4.out HBEL6.out) hl4
          rw [hchl2] at hcall
          have hTl := HT.out.short (by have := HSM.out.1; omega)
          have hadd : (bs T).size + (bs T1).size ≤ 9223372036854775807 := by rw [bs_size, bs_size]; have := hrf.2.1; simp only [] at this; omega
          have HCALL := Lib.hid hcall
          have HGOOD := Lib.hid hgood
          have HF1 := Lib.hid hf1
          have HCJ2 := Lib.hid hCJ2
          have HCHL2 := Lib.hid hchl2
          clear hcall hgood hf1 hrf hCJ2 hchl2 hTl
          go_wp2_with fail
          refine HCALL.out.mono ?_
          rintro e w5 ⟨rfl, hb5⟩
          have HB5 := Lib.hid hb5
          clear hb5
          go_wp2
          have hgk : ∃ q, gk = q + 1 := ⟨gk - 1, by have := HJ.out; omega⟩
          obtain ⟨q, rfl⟩ := hgk
          go_roundg q
          case measure => exact Nat.lt_succ_self _
          case rel => exact ⟨j + 1, _, _, T ++ T1, by rfl, by rw [← bs_append], by go_num, Lib.hid (by have := HJ.out; omega), Lib.hid (HT.out.next hj HX.out HGOOD.out HF1.out HCHL2.out (Kd.C_below HCJ2.out HB5.out) HL61.out (HBEL6.out.trans (HB5.out.mono HBEL6.out.size)))⟩
  · have hje : j = pks.length := by have := HJ.out; omega
    have hjd : decide ((j : Int) < (pks.length : Int)) = false := by simp; omega
    obtain ⟨fc, hTt⟩ := HT.out.told
    have hgood : ∀ i (hi : i < pks.length), Ber.Good pks[i] := fun i hi => HT.out.good i hi (by omega)
    rw [hje, List.take_length] at hTt
    have hTl := HT.out.short HSM.out.1
    have HGOOD := Lib.hid hgood
    have HTT := Lib.hid hTt
    have HBW := Lib.hid HT.out.below
    have HTL := Lib.hid hTl
    clear hTt hgood hje hTl
    go_wp2_with fail
    go_loopg [5, 70] pks.length (fun kq v5 v70 wr => ∃ (j : Nat) (T : List UInt8), v5 = .string (bs T) ∧ v70 = .int .i64 j ∧ Hid (j + kq = pks.length) ∧ Hid (T = Ber.textFrom fc (pks.drop j) j) ∧ Hid (T.length ≤ 160000) ∧ Hid (Below w.heap.size w wr))
    case atStart => exact ⟨0, T, rfl, by go_num, Lib.hid (by simp), Lib.hid (by rw [List.drop_zero]; exact HTT.out), HTL, HBW⟩
    case round =>
    obtain ⟨j, T, rfl, rfl, HJ, HTF, HTL, HBW⟩ := hrel
    by_cases hj : j < pks.length
    · obtain ⟨ad, A4, c4, e4, hx0, hx1, hx2, hx3, hx4, hl4, hi4⟩ := PFnBerForms.at_T26 HC.out (j : Int) (by omega) (by omega)
      rw [rd_spS pks j hj] at hx0 hx1 hx2 hx3 hx4 hl4 hi4
      obtain ⟨x, hx⟩ : ∃ x, x = pks[j] := ⟨_, rfl⟩
      have hgx : Ber.Good x := by rw [hx]; exact HGOOD.out j hj
      have hT1 : T = (Ber.forms (fc j) x 0).1 ++ Ber.textFrom fc (pks.drop (j + 1)) (j + 1) := by
        rw [HTF.out, List.drop_eq_getElem_cons hj, ← hx]; rfl
      rw [← hx] at hx0 hx1 hx2 hx3 hx4 hl4 hi4
      have hread := Ber.read_form (fc j) x (Ber.textFrom fc (pks.drop (j + 1)) (j + 1)) hgx.1 hgx.2.2 hgx.2.1
      obtain ⟨rest, hrest⟩ : ∃ rest, rest = Ber.textFrom fc (pks.drop (j + 1)) (j + 1) := ⟨_, rfl⟩
      obtain ⟨T1, hT1e⟩ : ∃ T1, T1 = (Ber.forms (fc j) x 0).1 := ⟨_, rfl⟩
      rw [← hrest, ← hT1e] at hT1 hread
      subst hT1
      obtain ⟨ko, hof⟩ := (of_ev _ x (Nat.lt_succ_self _) (by have := hgx.2.1; omega)).at_
      obtain ⟨ks, hsame⟩ := (same_ev _ x (Nat.lt_succ_self _) (by have := hgx.2.1; omega)).at_
      obtain ⟨c1, b1, t1, d1, i1⟩ := x
      simp only [spS, toS, spSs_length, Int.toNat_natCast] at hx0 hx1 hx2 hx3 hx4 hl4 hi4 hof hsame
      subst e4
      have hBw := HBW.out
      replace hx0 := (hBw.cell (World.block_lt_of_cell? w _ hx0)).trans hx0
      replace hx1 := (hBw.cell (World.block_lt_of_cell? w _ hx1)).trans hx1
      replace hx2 := (hBw.cell (World.block_lt_of_cell? w _ hx2)).trans hx2
      replace hx3 := (hBw.cell (World.block_lt_of_cell? w _ hx3)).trans hx3
      replace hx4 := (hBw.cell (World.block_lt_of_cell? w _ hx4)).trans hx4
      obtain ⟨W1, hW1⟩ : ∃ W1, W1 = wr.alloc (.cells #[.int .u8 (c1 : Int), .bool b1, .int .u64 (t1 : Int), .string (bs d1), .slice A4 i1.length c4] 26) := ⟨_, rfl⟩
      have hW1s : Below w.heap.size w W1 := by rw [hW1]; exact hBw.alloc hBw.size _
      have hblk : W1.heap[wr.heap.size]? = some (.cells #[.int .u8 (c1 : Int), .bool b1, .int .u64 (t1 : Int), .string (bs d1), .slice A4 i1.length c4] 26 (0, 0)) := by rw [hW1]; exact heap_alloc_new wr _
      have hbr := ber_read N W1 (bs (T1 ++ rest)) (HE.out.below hW1s hN) (by have := hW1s.size; omega) (by rw [bs_size]; have := HTL.out; omega) _ _ hread.1 (by simp)
      have HW1 := Lib.hid hW1
      have HW1S := Lib.hid hW1s
      have HBLK := Lib.hid hblk
      have HX := Lib.hid hx
      have HI4 := Lib.hid hi4
      have HBR := Lib.hid hbr
      have HOF := Lib.hid hof
      have HSAME := Lib.hid hsame
      have HREST := Lib.hid hrest
      have HT1L := Lib.hid (show 1 ≤ T1.length ∧ T1.length ≤ 20000 from ⟨hread.2.2.1, hread.2.1⟩)
      have hp1 : ((j : Int) < (pks.length : Int)) = True := eq_true (by omega)
      have hp0 : (0 ≤ (j : Int)) = True := eq_true (by omega)
      have hjd : decide ((j : Int) < (pks.length : Int)) = true := by simp; omega
      have hjs : j < 8 := by have := HSM.out.1; omega
      have hlt : wr.heap.size < W1.heap.size := blockLt hblk
      clear hW1s hBw hi4 hx hW1 hblk hbr hof hsame hread hrest hT1e hgx
      go_wp2_with fail
      rw [← HW1.out]
      refine HBR.out.mono ?_
      rintro e w2 ⟨⟨v4, rfl, hv4⟩, hb2⟩
      obtain ⟨A5, c5, rfl, l5, hC5⟩ := Kd.R_reads hv4
      have hused : (((bs (T1 ++ rest)).size - rest.length : Nat) : Int) = (T1.length : Int) := by rw [bs_size, List.length_append]; omega
      rw [hused]
      obtain ⟨w3, hw3⟩ : ∃ w3, w3 = w2.alloc (.cells #[.int .u8 (c1 : Int), .bool b1, .int .u64 (t1 : Int), .string ⟨d1.toArray⟩, .slice A5 (toSs i1).length c5] 31) := ⟨_, rfl⟩
      have hbel2 : Below w.heap.size w w2 := HW1S.out.trans (hb2.mono HW1S.out.size)
      have hbel3 : Below w.heap.size w w3 := by rw [hw3]; exact hbel2.alloc hbel2.size _
      have hn3 : w3.heap[w2.heap.size]? = some (.cells #[.int .u8 (c1 : Int), .bool b1, .int .u64 (t1 : Int), .string ⟨d1.toArray⟩, .slice A5 (toSs i1).length c5] 31 (0, 0)) := by rw [hw3]; exact heap_alloc_new w2 _
      have ho3 : w3.heap[wr.heap.size]? = some (.cells #[.int .u8 (c1 : Int), .bool b1, .int .u64 (t1 : Int), .string (bs d1), .slice A4 i1.length c4] 26 (0, 0)) := by
        rw [hw3]
        exact (Below.heap_alloc w2 _ _ (by have := hb2.size; omega)).trans ((hb2.block _ hlt).trans HBLK.out)
      have hC5' : Kd.C PFnBerForms.k31 w3 A5 (toSs i1).length (toSs i1) := by rw [hw3]; exact Kd.C_alloc (by simpa only [toS] using hC5) _
      have HBEL3 := Lib.hid hbel3
      have HN3 := Lib.hid hn3
      have HO3 := Lib.hid ho3
      have HC5 := Lib.hid hC5'
      have HW3 := Lib.hid hw3
      simp only [toS] at l5 ⊢
      clear hb2 hv4 hC5 hbel2 hbel3 hn3 ho3 hC5' hw3 hused hx0 hx1 hx2 hx3 hx4
      go_wp2_with fail
      rw [← HW3.out]
      have a0 := blockCell (w := w3.drew) HN3.out 0
      have o0 := blockCell (w := w3.drew) HO3.out 0
      have a1 := blockCell (w := w3.drew) HN3.out 1
      have o1 := blockCell (w := w3.drew) HO3.out 1
      have a2 := blockCell (w := w3.drew) HN3.out 2
      have o2 := blockCell (w := w3.drew) HO3.out 2
      have a3 := blockCell (w := w3.drew) HN3.out 3
      have o3 := blockCell (w := w3.drew) HO3.out 3
      have a4 := blockCell (w := w3.drew) HN3.out 4
      have o4 := blockCell (w := w3.drew) HO3.out 4
      simp only [List.getElem?_toArray, List.getElem?_cons_zero, List.getElem?_cons_succ] at a0 a1 a2 a3 a4 o0 o1 o2 o3 o4
      have hT1p : 1 ≤ T1.length := HT1L.out.1
      have hsz9 : (bs (T1 ++ rest)).size = T1.length + rest.length := by rw [bs_size, List.length_append]
      have htl9 : T1.length + rest.length ≤ 160000 := by have := HTL.out; rw [List.length_append] at this; exact this
      have z1 : ((T1.length : Int) < 1) = False := eq_false (by omega)
      have z2 : decide ((T1.length : Int) < 1) = false := by simp only [z1, decide_false]
      have z3 : ((T1.length : Int) + (rest.length : Int) < (T1.length : Int)) = False := eq_false (by omega)
      have z4 : decide ((T1.length : Int) + (rest.length : Int) < (T1.length : Int)) = false := by simp only [z3, decide_false]
      refine start_ (n := 19) (S := fun w' => w'.cell? ⟨w2.heap.size, 0, none⟩ = some (.int .u8 (c1 : Int)) ∧ w'.cell? ⟨w2.heap.size, 1, none⟩ = some (.bool b1) ∧ w'.cell? ⟨w2.heap.size, 2, none⟩ = some (.int .u64 (t1 : Int)) ∧ w'.cell? ⟨w2.heap.size, 3, none⟩ = some (.string ⟨d1.toArray⟩) ∧ w'.cell? ⟨w2.heap.size, 4, none⟩ = some (.slice A5 (toSs i1).length c5) ∧ w'.cell? ⟨wr.heap.size, 0, none⟩ = some (.int .u8 (c1 : Int)) ∧ w'.cell? ⟨wr.heap.size, 1, none⟩ = some (.bool b1) ∧ w'.cell? ⟨wr.heap.size, 2, none⟩ = some (.int .u64 (t1 : Int)) ∧ w'.cell? ⟨wr.heap.size, 3, none⟩ = some (.string (bs d1)) ∧ w'.cell? ⟨wr.heap.size, 4, none⟩ = some (.slice A4 i1.length c4)) (ds := []) #[false, false, false, false, false, false, false, false, false, false, false, false, false, false, false, false, false, false, false] (by kernel_rfl) rfl rfl ⟨a0, a1, a2, a3, a4, o0, o1, o2, o3, o4⟩ (fun hHeld => ?_)
      refine with_tabW twist_tab twist_bits (fun HT_ HW_ => ?_)
      clear a0 a1 a2 a3 a4 o0 o1 o2 o3 o4
      refine pure_ (i := 0) (N := some 80) (v := ?_) (a' := ?_) #[true, false, false, false, false, false, false, false, false, false, false, false, false, false, false, false, false, false, false] rfl rfl (any_of HT_.out (by kernel_rfl)) (fun _ _ _ h => h) (Or.inl ⟨by rfl, ?_⟩) ?_ ?_
      rotate_left
      · intro w'
        go_simp
        with_reducible rfl
      rotate_left
      · simp only [Act.put, List.setIfInBounds_toArray, List.set_cons_zero, List.set_cons_succ, i64_w, i32_w]
        rfl
      refine pure_ (i := 1) (N := some 81) (v := ?_) (a' := ?_) #[true, true, false, false, false, false, false, false, false, false, false, false, false, false, false, false, false, false, false] rfl rfl (any_of HT_.out (by kernel_rfl)) (fun _ _ _ h => h) (Or.inl ⟨by rfl, ?_⟩) ?_ ?_
      rotate_left
      · intro w'
        go_simp
        with_reducible rfl
      rotate_left
      · simp only [Act.put, List.setIfInBounds_toArray, List.set_cons_zero, List.set_cons_succ, i64_w, i32_w]
        rfl
      refine pure_ (i := 2) (N := some 82) (v := ?_) (a' := ?_) #[true, true, true, false, false, false, false, false, false, false, false, false, false, false, false, false, false, false, false] rfl rfl (any_of HT_.out (by kernel_rfl)) (fun _ _ _ h => h) (Or.inl ⟨by rfl, ?_⟩) ?_ ?_
      rotate_left
      · intro w'
        go_simp
        with_reducible rfl
      rotate_left
      · simp only [Act.put, List.setIfInBounds_toArray, List.set_cons_zero, List.set_cons_succ, i64_w, i32_w]
        rfl
      refine pure_ (i := 3) (N := some 83) (v := ?_) (a' := ?_) #[true, true, true, true, false, false, false, false, false, false, false, false, false, false, false, false, false, false, false] rfl rfl (any_of HT_.out (by kernel_rfl)) (fun _ _ _ h => h) (Or.inl ⟨by rfl, ?_⟩) ?_ ?_
      rotate_left
      · intro w'
        go_simp
        with_reducible rfl
      rotate_left
      · simp only [Act.put, List.setIfInBounds_toArray, List.set_cons_zero, List.set_cons_succ, i64_w, i32_w]
        rfl
      refine pure_ (i := 4) (N := some 84) (v := ?_) (a' := ?_) #[true, true, true, true, true, false, false, false, false, false, false, false, false, false, false, false, false, false, false] rfl rfl (any_of HT_.out (by kernel_rfl)) (fun _ _ _ h => h) (Or.inl ⟨by rfl, ?_⟩) ?_ ?_
      rotate_left
      · intro w'
        go_simp
        with_reducible rfl
      rotate_left
      · simp only [Act.put, List.setIfInBounds_toArray, List.set_cons_zero, List.set_cons_succ, i64_w, i32_w]
        rfl
      refine pure_ (i := 5) (N := some 85) (v := ?_) (a' := ?_) #[true, true, true, true, true, true, false, false, false, false, false, false, false, false, false, false, false, false, false] rfl rfl (any_of HT_.out (by kernel_rfl)) (fun _ _ _ h => h) (Or.inl ⟨by rfl, ?_⟩) ?_ ?_
      rotate_left
      · intro w'
        go_simp
        with_reducible rfl
      rotate_left
      · simp only [Act.put, List.setIfInBounds_toArray, List.set_cons_zero, List.set_cons_succ, i64_w, i32_w]
        rfl
      refine pure_ (i := 6) (N := some 86) (v := ?_) (a' := ?_) #[true, true, true, true, true, true, true, false, false, false, false, false, false, false, false, false, false, false, false] rfl rfl (any_of HT_.out (by kernel_rfl)) (fun _ _ _ h => h) (Or.inl ⟨by rfl, ?_⟩) ?_ ?_
      rotate_left
      · intro w'
        go_simp
        with_reducible rfl
      rotate_left
      · simp only [Act.put, List.setIfInBounds_toArray, List.set_cons_zero, List.set_cons_succ, i64_w, i32_w]
        rfl
      refine pure_ (i := 7) (N := some 87) (v := ?_) (a' := ?_) #[true, true, true, true, true, true, true, true, false, false, false, false, false, false, false, false, false, false, false] rfl rfl (any_of HT_.out (by kernel_rfl)) (fun _ _ _ h => h) (Or.inl ⟨by rfl, ?_⟩) ?_ ?_
      rotate_left
      · intro w'
        go_simp
        with_reducible rfl
      rotate_left
      · simp only [Act.put, List.setIfInBounds_toArray, List.set_cons_zero, List.set_cons_succ, i64_w, i32_w]
        rfl
      refine pure_ (i := 8) (N := some 88) (v := ?_) (a' := ?_) #[true, true, true, true, true, true, true, true, true, false, false, false, false, false, false, false, false, false, false] rfl rfl (any_of HT_.out (by kernel_rfl)) (fun _ _ _ h => h) (Or.inl ⟨by rfl, ?_⟩) ?_ ?_
      rotate_left
      · intro w'
        go_simp
        with_reducible rfl
      rotate_left
      · simp only [Act.put, List.setIfInBounds_toArray, List.set_cons_zero, List.set_cons_succ, i64_w, i32_w]
        rfl
      refine pure_ (i := 9) (N := some 89) (v := ?_) (a' := ?_) #[true, true, true, true, true, true, true, true, true, true, false, false, false, false, false, false, false, false, false] rfl rfl (any_of HT_.out (by kernel_rfl)) (fun _ _ _ h => h) (Or.inl ⟨by rfl, ?_⟩) ?_ ?_
      rotate_left
      · intro w'
        go_simp
        with_reducible rfl
      rotate_left
      · simp only [Act.put, List.setIfInBounds_toArray, List.set_cons_zero, List.set_cons_succ, i64_w, i32_w]
        rfl
      refine pure_ (i := 10) (N := some 90) (v := ?_) (a' := ?_) #[true, true, true, true, true, true, true, true, true, true, true, false, false, false, false, false, false, false, false] rfl rfl (any_of HT_.out (by kernel_rfl)) (fun _ _ _ h => h) (Or.inl ⟨by rfl, ?_⟩) ?_ ?_
      rotate_left
      · intro w'
        go_simp
        with_reducible rfl
      rotate_left
      · simp only [Act.put, List.setIfInBounds_toArray, List.set_cons_zero, List.set_cons_succ, i64_w, i32_w]
        rfl
      refine pure_ (i := 11) (N := some 91) (v := ?_) (a' := ?_) #[true, true, true, true, true, true, true, true, true, true, true, true, false, false, false, false, false, false, false] rfl rfl (any_of HT_.out (by kernel_rfl)) (fun _ _ _ h => h) (Or.inl ⟨by rfl, ?_⟩) ?_ ?_
      rotate_left
      · intro w'
        go_simp
        with_reducible rfl
      rotate_left
      · simp only [Act.put, List.setIfInBounds_toArray, List.set_cons_zero, List.set_cons_succ, i64_w, i32_w]
        rfl
      refine pure_ (i := 12) (N := some 92) (v := ?_) (a' := ?_) #[true, true, true, true, true, true, true, true, true, true, true, true, true, false, false, false, false, false, false] rfl rfl (any_of HT_.out (by kernel_rfl)) (fun _ _ _ h => h) (Or.inl ⟨by rfl, ?_⟩) ?_ ?_
      rotate_left
      · intro w'
        go_simp
        with_reducible rfl
      rotate_left
      · simp only [Act.put, List.setIfInBounds_toArray, List.set_cons_zero, List.set_cons_succ, i64_w, i32_w]
        rfl
      refine take_ (i := 13) (N := some 93) (v := ?_) (a' := ?_) #[true, true, true, true, true, true, true, true, true, true, true, true, true, true, false, false, false, false, false] rfl rfl (take_ofW HT_.out HW_.out (by kernel_rfl)) (fun _ _ _ h => h) (Or.inl ⟨by rfl, ?_⟩) hHeld ?_ ?_
      rotate_left
      · rintro w' ⟨s0, s1, s2, s3, s4, -, -, -, -, -⟩
        go_simp
        with_reducible rfl
      rotate_left
      · simp only [Act.put, List.setIfInBounds_toArray, List.set_cons_zero, List.set_cons_succ, i64_w, i32_w]
        rfl
      refine take_ (i := 15) (N := some 95) (v := ?_) (a' := ?_) #[true, true, true, true, true, true, true, true, true, true, true, true, true, true, false, true, false, false, false] rfl rfl (take_ofW HT_.out HW_.out (by kernel_rfl)) (fun _ _ _ h => h) (Or.inl ⟨by rfl, ?_⟩) hHeld ?_ ?_
      rotate_left
      · rintro w' ⟨-, -, -, -, -, s0, s1, s2, s3, s4⟩
        go_simp
        with_reducible rfl
      rotate_left
      · simp only [Act.put, List.setIfInBounds_toArray, List.set_cons_zero, List.set_cons_succ, i64_w, i32_w]
        rfl
      refine one_ (i := 14) (N := some 94) #[true, true, true, true, true, true, true, true, true, true, true, true, true, true, true, true, false, false, false] rfl rfl (one_of HT_.out (by kernel_rfl)) (by decide) (fun K hK => ?_)
      refine goes_ Tryd.func11 (by kernel_rfl) rfl #[.agg #[.int .u8 (c1 : Int), .bool b1, .int .u64 (t1 : Int), .string ⟨d1.toArray⟩, .slice A5 (toSs i1).length c5]] (by rfl) rfl rfl (by (try simp only [List.map_toArray, List.map_cons, List.map_nil]); first | done | rfl) ?_
      refine (PFnBerForms.laws_berOf.calls ko _ _ _ _ A5 c5 (toSs i1) _ _ _ _ _ w3.drew (Kd.C_drew HC5.out) l5 HOF.out).mono ?_
      rintro e w4 ⟨v9, rfl, hR, hb4⟩
      obtain ⟨A6, c6, rfl, l6, hC6⟩ := Kd.R_reads hR
      rw [spSs_length] at hC6 l6
      simp only [spSs_length]
      have hlN : w2.heap.size < w3.drew.heap.size := blockLt (w := w3.drew) HN3.out
      have hlO : wr.heap.size < w3.drew.heap.size := blockLt (w := w3.drew) HO3.out
      refine ⟨_, rfl, ?_⟩
      refine hK.out _ _ ⟨(hb4.cell hlN).trans hHeld.1, (hb4.cell hlN).trans hHeld.2.1, (hb4.cell hlN).trans hHeld.2.2.1, (hb4.cell hlN).trans hHeld.2.2.2.1, (hb4.cell hlN).trans hHeld.2.2.2.2.1, (hb4.cell hlO).trans hHeld.2.2.2.2.2.1, (hb4.cell hlO).trans hHeld.2.2.2.2.2.2.1, (hb4.cell hlO).trans hHeld.2.2.2.2.2.2.2.1, (hb4.cell hlO).trans hHeld.2.2.2.2.2.2.2.2.1, (hb4.cell hlO).trans hHeld.2.2.2.2.2.2.2.2.2⟩ (fun hHeld => ?_)
      clear hK K
      refine norm_ (a' := ?_) ?_ ?_
      rotate_left
      · show Act.put _ (some 94) _ = _
        simp only [Act.put, List.setIfInBounds_toArray, List.set_cons_zero, List.set_cons_succ]
        rfl
      refine one_ (i := 16) (N := some 96) #[true, true, true, true, true, true, true, true, true, true, true, true, true, true, true, true, true, false, false] rfl rfl (one_of HT_.out (by kernel_rfl)) (by decide) (fun K hK => ?_)
      refine goes_ Tryd.func10 (by kernel_rfl) rfl #[.agg #[.int .u8 (c1 : Int), .bool b1, .int .u64 (t1 : Int), .string (bs d1), .slice A6 i1.length c6], .agg #[.int .u8 (c1 : Int), .bool b1, .int .u64 (t1 : Int), .string (bs d1), .slice A4 i1.length c4]] (by rfl) rfl rfl (by (try simp only [List.map_toArray, List.map_cons, List.map_nil]); first | done | rfl) ?_
      have hBS := PFnBerForms.spec_BerSame.calls ks (c1 : Int) b1 (t1 : Int) (bs d1) A6 c6 (spSs i1) (c1 : Int) b1 (t1 : Int) (bs d1) A4 c4 (spSs i1) true w4 (by rw [spSs_length]; exact hC6) (by rw [spSs_length]; exact l6) (by rw [spSs_length]; exact Kd.C_below HI4.out (HBEL3.out.drew.trans (hb4.mono HBEL3.out.size))) (by rw [spSs_length]; exact hl4) HSAME.out
      rw [spSs_length] at hBS
      refine hBS.mono ?_
      clear hBS
      rintro e w5 ⟨rfl, hb5⟩
      have hlN' : w2.heap.size < w4.heap.size := Nat.lt_of_lt_of_le hlN hb4.size
      have hlO' : wr.heap.size < w4.heap.size := Nat.lt_of_lt_of_le hlO hb4.size
      refine ⟨_, rfl, ?_⟩
      have HBEL5 := Lib.hid (HBEL3.out.drew.trans ((hb4.mono HBEL3.out.size).trans (hb5.mono (by have := HBEL3.out.size; have := hb4.size; exact Nat.le_trans HBEL3.out.size hb4.size))))
      refine hK.out _ _ ⟨(hb5.cell hlN').trans hHeld.1, (hb5.cell hlN').trans hHeld.2.1, (hb5.cell hlN').trans hHeld.2.2.1, (hb5.cell hlN').trans hHeld.2.2.2.1, (hb5.cell hlN').trans hHeld.2.2.2.2.1, (hb5.cell hlO').trans hHeld.2.2.2.2.2.1, (hb5.cell hlO').trans hHeld.2.2.2.2.2.2.1, (hb5.cell hlO').trans hHeld.2.2.2.2.2.2.2.1, (hb5.cell hlO').trans hHeld.2.2.2.2.2.2.2.2.1, (hb5.cell hlO').trans hHeld.2.2.2.2.2.2.2.2.2⟩ (fun hHeld => ?_)
      clear hK K
      refine norm_ (a' := ?_) ?_ ?_
      rotate_left
      · show Act.put _ (some 96) _ = _
        simp only [Act.put, List.setIfInBounds_toArray, List.set_cons_zero, List.set_cons_succ]
        rfl
      refine pure_ (i := 17) (N := some 97) (v := ?_) (a' := ?_) #[true, true, true, true, true, true, true, true, true, true, true, true, true, true, true, true, true, true, false] rfl rfl (any_of HT_.out (by kernel_rfl)) (fun _ _ _ h => h) (Or.inl ⟨by rfl, ?_⟩) ?_ ?_
      rotate_left
      · intro w'
        go_simp
        with_reducible rfl
      rotate_left
      · simp only [Act.put, List.setIfInBounds_toArray, List.set_cons_zero, List.set_cons_succ, i64_w, i32_w]
        rfl
      refine pure_ (i := 18) (N := some 98) (v := ?_) (a' := ?_) #[true, true, true, true, true, true, true, true, true, true, true, true, true, true, true, true, true, true, true] rfl rfl (any_of HT_.out (by kernel_rfl)) (fun _ _ _ h => h) (Or.inl ⟨by rfl, ?_⟩) ?_ ?_
      rotate_left
      · intro w'
        go_simp
        with_reducible rfl
      rotate_left
      · simp only [Act.put, List.setIfInBounds_toArray, List.set_cons_zero, List.set_cons_succ, i64_w, i32_w]
        rfl
      refine done_ (done_of HT_.out (by kernel_rfl)) ?_
      clear HT_ HW_ hHeld hlN hlO hlN' hlO' hb4 hb5 hC6 l6 hR z1 z2 z3 z4
      have y1 : (0 ≤ (T1.length : Int)) = True := eq_true (by omega)
      have y2 : ((T1.length : Int) ≤ (T1.length : Int) + (rest.length : Int)) = True := eq_true (by omega)
      go_wp2_with fail
      have hgk : ∃ q, gk = q + 1 := ⟨gk - 1, by have := HJ.out; omega⟩
      obtain ⟨q, rfl⟩ := hgk
      go_roundg q
      case measure => exact Nat.lt_succ_self _
      case rel => exact ⟨j + 1, rest, by rw [bs_drop], by go_num, Lib.hid (by have := HJ.out; omega), Lib.hid HREST.out, Lib.hid (by omega), HBEL5⟩
    · have hje : j = pks.length := by have := HJ.out; omega
      have hT0 : T = [] := by rw [HTF.out, hje, List.drop_length]; rfl
      subst hT0
      have hjd : decide ((j : Int) < (pks.length : Int)) = false := by simp; omega
      clear hje
      go_wp2_with fail
      refine (awake N wr (HE.out.below HBW.out hN) (by have := HBW.out.size; omega)).mono ?_
      rintro e w3 ⟨rfl, hb⟩
      have HB := Lib.hid (HBW.out.trans (hb.mono HBW.out.size))
      clear hb
      go_wp2
      go_ret
      have hem : (bs []).toList.isEmpty = true := by rw [Lib.toList_data]; rfl
      exact ⟨by show Ending.returned (.bool (bs []).toList.isEmpty) = _; rw [hem], HB.out⟩
end Go.Proofs.YtdfehaonngccjaaDoor

