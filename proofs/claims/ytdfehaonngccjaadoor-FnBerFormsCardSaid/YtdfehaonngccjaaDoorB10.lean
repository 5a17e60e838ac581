/- Arguments that are lists of bytes and of values, opened. -/
import Derived.Test.YtdfehaonngccjaaDoorB9
import Derived.ProofKit
import Derived.ChangeMaps5
import Derived.ChangeSlices
import Derived.LaidMore
import Derived.Lay
import Derived.SevenTiedAt
import Derived.Stop.Joined
import Derived.Deep.DeepHandedRow
import Derived.WideKeyArgs
import Derived.Deep.LoopGhost
set_option linter.unusedVariables false
set_option linter.unusedSimpArgs false
namespace Go.Proofs.YtdfehaonngccjaaDoor
open Go Go.ChangeShapes Go.WideShapes Go.ChangeAt Go.RowKit Go.Proofs.YtdfehaonngccjaaDoorW.PrintWords

theorem cells_u8 : Tryd.prog.cellsOf 5 = 1 := by kernel_rfl

theorem open_choices {H : Type} {enc : TypeId × Value → H} {w : World} {base : Nat} {spare : Nat → Bool} {held : Bool} {v : Value} {d : DataW H} {p : List MemPlace}
    (hv : ∃ a len cap, v = .slice a len cap) (h : DataW.Trod enc Tryd.prog w base spare held 37 v d p) :
    ∃ (A : Option Addr) (cap : Nat) (ch : List UInt8), v = .slice A ch.length cap ∧ ch.length ≤ cap ∧ Kd.C (Kd.int .u8) w A ch.length (ch.map fun x => (x.toNat : Int)) := by
  obtain ⟨a0, n0, c0, rfl⟩ := hv
  obtain ⟨fuel, h⟩ := h
  rcases open_ints Tryd.underlying37 Tryd.underlying5 cells_u8 h with ⟨e, -⟩ | ⟨a, len, cap, zs, e, -, hl, hm, hz, -, hc, hw⟩
  · simp only [Value.cells, List.cons.injEq, and_true, Value.slice.injEq] at e
    obtain ⟨rfl, rfl, rfl⟩ := e
    exact ⟨none, 0, [], rfl, Nat.le_refl _, Kd.C_nil _ _⟩
  · simp only [Value.cells, List.cons.injEq, and_true, Value.slice.injEq] at e
    obtain ⟨rfl, e1, e2⟩ := e
    obtain rfl := e1.symm
    obtain rfl := e2.symm
    have hzl : len ≤ zs.length := by rw [hz]; split <;> omega
    have hb : ∀ n ∈ zs, 0 ≤ n ∧ n < 256 := fun n hn => by
      have h := hw n hn
      simp only [Lit.wf, Bool.and_eq_true, decide_eq_true_eq] at h
      exact ⟨h.1, Int.lt_of_le_of_lt h.2 (by decide)⟩
    have hlen : ((zs.take len).map fun n => UInt8.ofNat n.toNat).length = len := by rw [List.length_map, List.length_take]; omega
    have hmap : ((zs.take len).map fun n => UInt8.ofNat n.toNat).map (fun x => (x.toNat : Int)) = zs.take len := by
      rw [List.map_map]
      refine (List.map_congr_left (fun n hn => ?_)).trans (List.map_id _)
      have := hb n (List.mem_of_mem_take hn)
      simp only [Function.comp_apply, UInt8.toNat_ofNat', id_eq]
      omega
    refine ⟨some a, cap, (zs.take len).map fun n => UInt8.ofNat n.toNat, by rw [hlen], by rw [hlen]; exact hl, ?_⟩
    rw [hlen, hmap]
    refine ⟨by rw [List.length_take]; omega, ?_, fun _ => ⟨a, rfl, fun j p hj => ?_⟩⟩
    · have : maxLen ≤ 9223372036854775807 := by decide
      omega
    · have hjl : j < len := by
        have := (List.getElem?_eq_some_iff.1 hj).1
        rw [List.length_take] at this
        omega
      rw [List.getElem?_take_of_lt hjl] at hj
      refine ⟨[.int .u8 p], rfl, rfl, fun i u hi => ?_⟩
      have hi0 : i = 0 := by
        have := (List.getElem?_eq_some_iff.1 hi).1
        simpa using this
      subst hi0
      simp only [List.getElem?_cons_zero, Option.some.injEq] at hi
      subst hi
      have := hc j (by omega)
      rw [List.getD_eq_getElem?_getD, hj] at this
      show w.cell? (a.add (j * 1 + 0)) = _
      rw [Nat.mul_one, Nat.add_zero]
      exact this

theorem open_berlist {H : Type} {enc : TypeId × Value → H} {w : World} {base : Nat} {spare : Nat → Bool} {held : Bool} {v : Value} {d : DataW H} {p : List MemPlace}
    (hv : ∃ a len cap, v = .slice a len cap) (h : DataW.Trod enc Tryd.prog w base spare held 24 v d p) :
    ∃ (A : Option Addr) (cap : Nat) (pks : List Ber.Pk), v = .slice A pks.length cap ∧ pks.length ≤ cap ∧ Ber.Typeds pks ∧ Kd.C PFnBerForms.k26 w A pks.length (spSs pks) := by
  obtain ⟨a0, n0, c0, rfl⟩ := hv
  obtain ⟨f0, h⟩ := h
  obtain ⟨A0, cp0, pks, e, hc0, -, hty, hC0⟩ := (open_bers f0).1 _ _ h
  simp only [Value.cells, List.cons.injEq, and_true, Value.slice.injEq] at e
  obtain ⟨rfl, rfl, rfl⟩ := e
  exact ⟨_, _, pks, rfl, hc0, hty, hC0⟩

theorem open_ber {H : Type} {enc : TypeId × Value → H} {w : World} {base : Nat} {spare : Nat → Bool} {held : Bool} {v : Value} {d : DataW H} {p : List MemPlace} {n : Nat}
    (hv : ∃ cs, v = .agg cs ∧ cs.size = n) (h : DataW.Trod enc Tryd.prog w base spare held 26 v d p) :
    ∃ (c : Nat) (b : Bool) (t : Nat) (data : List UInt8) (items : List Ber.Pk) (A : Option Addr) (cp : Nat), v = .agg #[.int .u8 (c : Int), .bool b, .int .u64 (t : Int), .string (bs data), .slice A items.length cp] ∧
      Ber.Typed (.mk c b t data items) ∧ Kd.C PFnBerForms.k26 w A items.length (spSs items) ∧ items.length ≤ cp := by
  obtain ⟨cs, rfl, -⟩ := hv
  obtain ⟨f0, h⟩ := h
  obtain ⟨pk, hty, hk⟩ := (open_bers f0).2 _ _ h
  obtain ⟨c, b, t, data, items⟩ := pk
  obtain ⟨A, cp, e, hl, hC⟩ := PFnBerForms.k26_open hk
  simp only [spS, spSs_length, Value.cells] at e hl hC
  obtain rfl : cs = #[.int .u8 (c : Int), .bool b, .int .u64 (t : Int), .string (bs data), .slice A items.length cp] := Array.toList_inj.1 e
  exact ⟨c, b, t, data, items, A, cp, rfl, hty, hC, hl⟩
end Go.Proofs.YtdfehaonngccjaaDoor

/- The reference's berForms: the walk. -/
namespace Go.Proofs.YtdfehaonngccjaaDoor
open Go Go.RowKit Go.Proofs.YtdfehaonngccjaaDoorW.PrintWords Go.Proofs.YtdfehaonngccjaaDoorW.PrintLast Go.Proofs.YtdfehaonngccjaaDoorW.PrintMore

namespace Ber
mutual
/-- Its classes and tags are right. -/
def OK : Pk → Prop
  | .mk c _ t _ items => c < 4 ∧ t < 2 ^ 63 ∧ OKs items
def OKs : List Pk → Prop
  | [] => True
  | x :: r => OK x ∧ OKs r
end
theorem OKs.get : ∀ {l : List Pk}, OKs l → ∀ j (hj : j < l.length), OK l[j]
  | [], _, j, hj => absurd hj (Nat.not_lt_zero _)
  | x :: r, h, 0, hj => h.1
  | x :: r, h, j + 1, hj => by simpa using OKs.get h.2 j (by simpa using hj)

mutual
theorem forms_at (ch : List UInt8) : ∀ (p : Pk) (a : Nat), a ≤ (forms ch p a).2
  | .mk c b t data items, a => by
    simp only [forms]
    have h1 := formsL_at ch items data (next ch a)
    have h2 : a ≤ next ch a := by unfold next; split <;> omega
    omega
theorem formsL_at (ch : List UInt8) : ∀ (l : List Pk) (acc : List UInt8) (a : Nat), a ≤ (formsL ch l acc a).2
  | [], acc, a => by simp [formsL]
  | x :: r, acc, a => by
    simp only [formsL]
    have h1 := forms_at ch x a
    have h2 := formsL_at ch r (acc ++ (forms ch x a).1) (forms ch x a).2
    omega
end
theorem formsL_len (ch : List UInt8) : ∀ (l : List Pk) (acc : List UInt8) (a : Nat), acc.length ≤ (formsL ch l acc a).1.length
  | [], acc, a => by simp [formsL]
  | x :: r, acc, a => by
    simp only [formsL]
    have h2 := formsL_len ch r (acc ++ (forms ch x a).1) (forms ch x a).2
    simp at h2
    omega
theorem formText_len (c : Nat) (b : Bool) (t w : Nat) (body : List UInt8) : body.length ≤ (formText c b t w body).length := by
  unfold formText
  split <;> simp <;> omega
theorem forms_drop (ch : List UInt8) (items : List Pk) (j : Nat) (hj : j < items.length) (acc : List UInt8) (a : Nat) :
    formsL ch (items.drop j) acc a = formsL ch (items.drop (j + 1)) (acc ++ (forms ch items[j] a).1) (forms ch items[j] a).2 := by
  rw [List.drop_eq_getElem_cons hj]
  simp only [formsL]
end Ber

/-- berForms of packets of less than a size. -/
def FormsHolds (w0 : World) (ch : List UInt8) (Ac : Option Addr) (cc : Nat) (n : Nat) : Prop :=
    ∀ (c : Nat) (b : Bool) (t : Nat) (data : List UInt8) (items : List Ber.Pk), SizeOf.sizeOf (Ber.Pk.mk c b t data items) < n → Ber.OK (.mk c b t data items) → ∀ (w : World) (g a : Nat) (A : Option Addr) (cp : Nat) (T : List UInt8) (a2 : Nat),
      Ber.forms ch (.mk c b t data items) a = (T, a2) → Below w0.heap.size w0 w → w0.heap.size ≤ g → w.heap[g]? = some (.cells #[.int .i64 a] 3 (0, 0)) → a2 ≤ 1000000000 → T.length ≤ 1000000000 →
      Kd.C PFnBerForms.k26 w0 A items.length (spSs items) → items.length ≤ cp →
      Calls Tryd.prog 28 #[.agg #[.int .u8 (c : Int), .bool b, .int .u64 (t : Int), .string (bs data), .slice A items.length cp], .slice Ac ch.length cc, .pointer (some ⟨g, 0, none⟩)] w fun e w' =>
        e = .returned (.string (bs T)) ∧ w'.heap[g]? = some (.cells #[.int .i64 a2] 3 (0, 0)) ∧ Keep w.heap.size g w w'

set_option maxRecDepth 100000 in
set_option maxHeartbeats 8000000 in
theorem forms_none (w0 : World) (ch : List UInt8) (hce : ch = []) (Ac : Option Addr) (cc : Nat) (hch : Kd.C (Kd.int .u8) w0 Ac ch.length (ch.map fun x => (x.toNat : Int))) (hcl : ch.length ≤ 1000000) (n : Nat) (ih : FormsHolds w0 ch Ac cc n) : FormsHolds w0 ch Ac cc (n + 1) := by
  intro c b t data items hsz hok w g a A cp T a2 hT hB hg hcell ha2 hTl hC hcp
  have hglt := blockLt hcell
  have hgne : g ≠ w.heap.size := by omega
  simp only [Ber.forms, Prod.mk.injEq] at hT
  obtain ⟨body, hbody⟩ : ∃ body, body = (Ber.formsL ch items data (Ber.next ch a)).1 := ⟨_, rfl⟩
  obtain ⟨hT1, hT2⟩ := hT
  have hL : Ber.formsL ch items data (Ber.next ch a) = (body, a2) := by rw [hbody, ← hT2]
  rw [← hbody] at hT1
  have hnx : Ber.next ch a ≤ 1000000000 := by have := Ber.formsL_at ch items data (Ber.next ch a); omega
  have hcls := hok.1
  have htag := hok.2.1
  have htag2 : t < 2 ^ 64 := by omega
  have hbl : body.length ≤ 1000000000 := by have := Ber.formText_len c b t (Ber.way ch a) body; rw [hT1] at this; omega
  obtain ⟨cA, hcA, hAlen⟩ : ∃ W1, W1 = w.alloc (.cells #[.int .u8 (c : Int), .bool b, .int .u64 (t : Int), .string (bs data), .slice A items.length cp] 26) ∧ W1.heap.size = w.heap.size + 1 := ⟨_, rfl, by simp⟩
  have hst : cA.heap[w.heap.size]? = some (.cells #[.int .u8 (c : Int), .bool b, .int .u64 (t : Int), .string (bs data), .slice A items.length cp] 26 (0, 0)) := by rw [hcA]; exact heap_alloc_new w _
  have hg1 : cA.heap[g]? = some (.cells #[.int .i64 a] 3 (0, 0)) := by rw [hcA]; exact (Below.heap_alloc w _ g hglt).trans hcell
  have hK1 : Keep w.heap.size g w cA := by rw [hcA]; exact (Keep.refl _ _ _).alloc (Nat.le_refl _) _
  have HT := Lib.hid hT1
  have HL := Lib.hid hL
  have HB := Lib.hid hB
  have HC := Lib.hid hC
  have HOK := Lib.hid hok.2.2
  have HCH := Lib.hid hch
  have HIH := Lib.hid ih
  have HNX := Lib.hid hnx
  have HBL := Lib.hid hbl
  have HTL := Lib.hid hTl
  have HTAG := Lib.hid htag2
  clear hT1 hT2 hL hB hC hch ih hok hbody hnx hcell hbl hTl htag htag2
  go_enter Tryd.func28, Tryd.ntmps28
  have hcd : ch.length < 1 := by rw [hce]; simp
  have hnx0 : Ber.next ch a = a := by unfold Ber.next; rw [if_pos hce]
  have hway : Ber.way ch a = 0 := by unfold Ber.way; rw [if_pos hce]
  have HCE := Lib.hid hce
  have HWAY := Lib.hid hway
  clear hce hway
  go_wp2_with fail
  have HST : Hid (_ = _) := Lib.hid hst
  have HG : Hid (cA.heap[g]? = some (.cells #[.int .i64 (Ber.next ch a : Nat)] 3 (0, 0))) := Lib.hid (by rw [hnx0]; exact hg1)
  have HK := Lib.hid hK1
  rw [← hcA]
  clear hst hg1 hK1 hcA
  generalize decide (0 < ch.length) = bv9
  go_loopg [8, 35] items.length (fun kq v8 v35 wr => ∃ (j a' : Nat) (acc : List UInt8), v8 = .string (bs acc) ∧ v35 = .int .i64 j ∧ Hid (j + kq = items.length) ∧ Hid (Ber.formsL ch (items.drop j) acc a' = (body, a2)) ∧
      Hid (wr.heap[w.heap.size]? = some (.cells #[.int .u8 (c : Int), .bool b, .int .u64 (t : Int), .string (bs data), .slice A items.length cp] 26 (0, 0))) ∧ Hid (wr.heap[g]? = some (.cells #[.int .i64 a'] 3 (0, 0))) ∧ Hid (Keep w.heap.size g w wr))
  case atStart => exact ⟨0, Ber.next ch a, data, rfl, by go_num, Lib.hid (by simp), Lib.hid (by rw [List.drop_zero]; exact HL.out), HST, HG, HK⟩
  case round =>
  obtain ⟨j, a', acc, rfl, rfl, HJ, HF, HST1, HG1, HK1⟩ := hrel
  have hslt : w.heap.size < wr.heap.size := blockLt HST1.out
  by_cases hj : j < items.length
  · have hacc : acc.length ≤ 1000000000 := by have := Ber.formsL_len ch (items.drop j) acc a'; rw [HF.out] at this; have := HBL.out; simp at *; omega
    have hF := HF.out
    rw [Ber.forms_drop ch items j hj] at hF
    obtain ⟨T1, a3, hf1⟩ : ∃ T1 a3, Ber.forms ch items[j] a' = (T1, a3) := ⟨_, _, rfl⟩
    rw [hf1] at hF
    simp only [] at hF
    have ha3 : a3 ≤ 1000000000 := by have := Ber.formsL_at ch (items.drop (j + 1)) (acc ++ T1) a3; rw [hF] at this; simp at this; omega
    have hT1 : acc.length + T1.length ≤ 1000000000 := by have := Ber.formsL_len ch (items.drop (j + 1)) (acc ++ T1) a3; rw [hF] at this; have := HBL.out; simp at *; omega
    have hokj := Ber.OKs.get HOK.out j hj
    have hszj : SizeOf.sizeOf items[j] < n := by
      have h1 := List.sizeOf_lt_of_mem (List.getElem_mem hj)
      have h2 : SizeOf.sizeOf (Ber.Pk.mk c b t data items) = _ := Ber.Pk.mk.sizeOf_spec c b t data items
      omega
    obtain ⟨ad, A4, c4, e4, hx0, hx1, hx2, hx3, hx4, hl4, hi4⟩ := PFnBerForms.at_T26 HC.out (j : Int) (by omega) (by omega)
    have hrd : PFnBerForms.rd_T26 (spSs items) (j : Int) = spS items[j] := by
      unfold PFnBerForms.rd_T26
      rw [List.getD_eq_getElem?_getD, Int.toNat_natCast, spSs_get items j hj]; rfl
    rw [hrd] at hx0 hx1 hx2 hx3 hx4 hl4 hi4
    obtain ⟨x, hx⟩ : ∃ x, x = items[j] := ⟨_, rfl⟩
    rw [← hx] at hx0 hx1 hx2 hx3 hx4 hl4 hi4 hszj hokj hf1
    cases x with
    | mk c1 b1 t1 d1 i1 =>
    simp only [spS, spSs_length, Int.toNat_natCast] at hx0 hx1 hx2 hx3 hx4 hl4 hi4
    subst e4
    have hBw : Below w0.heap.size w0 wr := HB.out.trans ((HK1.out.mono (by have := HB.out.size; omega)).toBelow hg)
    replace hx0 := (hBw.cell (World.block_lt_of_cell? w0 _ hx0)).trans hx0
    replace hx1 := (hBw.cell (World.block_lt_of_cell? w0 _ hx1)).trans hx1
    replace hx2 := (hBw.cell (World.block_lt_of_cell? w0 _ hx2)).trans hx2
    replace hx3 := (hBw.cell (World.block_lt_of_cell? w0 _ hx3)).trans hx3
    replace hx4 := (hBw.cell (World.block_lt_of_cell? w0 _ hx4)).trans hx4
    obtain ⟨W1, hW1⟩ : ∃ W1, W1 = wr.alloc (.cells #[.int .u8 (c1 : Int), .bool b1, .int .u64 (t1 : Int), .string (bs d1), .slice A4 i1.length c4] 26) := ⟨_, rfl⟩
    have hW1s : wr.heap.size ≤ W1.heap.size := by rw [hW1]; simp
    have hW1b : ∀ k, k < wr.heap.size → W1.heap[k]? = wr.heap[k]? := fun k hk => by rw [hW1]; exact Below.heap_alloc wr _ k hk
    have hgw : g < wr.heap.size := blockLt HG1.out
    have hcall := HIH.out c1 b1 t1 d1 i1 hszj hokj W1 g a' A4 c4 T1 a3 hf1 (by rw [hW1]; exact hBw.alloc hBw.size _) hg ((hW1b g hgw).trans HG1.out) ha3 (by omega) hi4 hl4
    have HCALL := Lib.hid hcall
    have HW1 := Lib.hid hW1
    have HW1B := Lib.hid hW1b
    have HF2 := Lib.hid hF
    have hp1 : ((j : Int) < (items.length : Int)) = True := eq_true (by omega)
    have hp0 : (0 ≤ (j : Int)) = True := eq_true (by omega)
    have hjd : decide ((j : Int) < (items.length : Int)) = true := by simp; omega
    have hadd : (bs acc).size + (bs T1).size ≤ 9223372036854775807 := by rw [bs_size, bs_size]; omega
    have HW1S := Lib.hid hW1s
    clear hcall hW1b hF hBw hf1 hi4 hrd hx hokj hszj hcls hW1s
    clear hW1
    go_wp2_with fail
    rw [← HW1.out]
    refine HCALL.out.mono ?_
    rintro e w2 ⟨rfl, hg2, hk2⟩
    have HG2 := Lib.hid hg2
    have HK2 := Lib.hid hk2
    have HJJ := Lib.hid hj
    have hjs : j < 9223372036854775807 := by have := Kd.C_max HC.out; omega
    clear hg2 hk2
    go_wp2
    have hgk : ∃ q, gk = q + 1 := ⟨gk - 1, by have := HJ.out; have := HJJ.out; omega⟩
    obtain ⟨q, rfl⟩ := hgk
    go_roundg q
    case measure => exact Nat.lt_succ_self _
    case rel => exact ⟨j + 1, a3, acc ++ T1, by rw [← bs_append], by go_num, Lib.hid (by have := HJ.out; omega), HF2, Lib.hid ((HK2.out.block w.heap.size (by have := HW1S.out; omega) (by omega)).trans ((HW1B.out _ hslt).trans HST1.out)), HG2,
      Lib.hid (HK1.out.trans ((show Keep w.heap.size g wr W1 by rw [HW1.out]; exact (Keep.refl _ _ _).alloc (by omega) _).trans (HK2.out.mono (by have := HW1S.out; omega))))⟩
  · have hje : j = items.length := by have := HJ.out; omega
    have hjd : decide ((j : Int) < (items.length : Int)) = false := by simp; omega
    have hF := HF.out
    rw [hje, List.drop_length] at hF
    simp only [Ber.formsL, Prod.mk.injEq] at hF
    obtain ⟨rfl, rfl⟩ := hF
    have e0 := blockCell HST1.out 0
    have e1 := blockCell HST1.out 1
    have e2 := blockCell HST1.out 2
    have e3 := blockCell HST1.out 3
    have e4 := blockCell HST1.out 4
    simp only [List.getElem?_toArray, List.getElem?_cons_zero, List.getElem?_cons_succ] at e0 e1 e2 e3 e4
    have hBw : Below w0.heap.size w0 wr := HB.out.trans ((HK1.out.mono (by have := HB.out.size; omega)).toBelow hg)
    have htagc := PFnBerForms.spec_BerTag.calls 20 (c : Int) b (t : Int) (bs data) A cp (spSs items) _ wr (by rw [spSs_length]; exact Kd.C_below HC.out hBw) (by rw [spSs_length]; exact hcp) (berTag_f c hcls b t HTAG.out (bs data) (spSs items))
    rw [spSs_length] at htagc
    have HTC := Lib.hid htagc
    have HBW := Lib.hid hBw
    clear htagc hBw
    have hTT := HT.out
    unfold Ber.formText at hTT
    rw [HWAY.out, if_neg (by omega)] at hTT
    have hlenc := fun W => PFnBerForms.spec_BerLength.calls 40 (acc.length : Int) 0 _ W (berLength_f acc.length 0 (by have := HBL.out; omega) (by omega))
    have hbsz := bs_size acc
    have had1 : (bs (Ber.identBytes c b t)).size + (bs (Ber.lenForm acc.length 0)).size ≤ 9223372036854775807 := by
      have := HTL.out; rw [← hTT] at this; simp only [List.length_append] at this; rw [bs_size, bs_size]; simp at this; omega
    have had2 : (bs (Ber.identBytes c b t) ++ bs (Ber.lenForm acc.length 0)).size + (bs acc).size ≤ 9223372036854775807 := by
      have := HTL.out; rw [← hTT] at this; simp only [List.length_append] at this; rw [bs_append, bs_size, bs_size]; simp at this ⊢; omega
    have HTT := Lib.hid hTT
    have HLC := Lib.hid hlenc
    clear hTT hlenc hnx0
    go_wp2_with fail
    refine HTC.out.mono ?_
    rintro e w2 ⟨rfl, hb2⟩
    have HB2 := Lib.hid hb2
    clear hb2 e0 e1 e2 e3 e4
    go_wp2_with fail
    refine (HLC.out _).mono ?_
    rintro e w3 ⟨rfl, hb3⟩
    have HB3 := Lib.hid hb3
    clear hb3
    go_wp2
    go_ret
    have hg2lt : g < wr.heap.size := blockLt HG1.out
    refine ⟨?_, (HB3.out.block g (by have := HB2.out.size; omega)).trans ((HB2.out.block g hg2lt).trans HG1.out), HK1.out.trans (Keep.ofBelow ((HB2.out.mono (by omega)).trans (HB3.out.mono (by have := HB2.out.size; omega))))⟩
    rw [← HTT.out, ← bs_append, ← bs_append]
    rfl
set_option maxRecDepth 100000 in
set_option maxHeartbeats 8000000 in
theorem forms_some (w0 : World) (ch : List UInt8) (hce : ch ≠ []) (Ac : Option Addr) (cc : Nat) (hch : Kd.C (Kd.int .u8) w0 Ac ch.length (ch.map fun x => (x.toNat : Int))) (hcl : ch.length ≤ 1000000) (n : Nat) (ih : FormsHolds w0 ch Ac cc n) : FormsHolds w0 ch Ac cc (n + 1) := by
  intro c b t data items hsz hok w g a A cp T a2 hT hB hg hcell ha2 hTl hC hcp
  have hglt := blockLt hcell
  have hgne : g ≠ w.heap.size := by omega
  simp only [Ber.forms, Prod.mk.injEq] at hT
  obtain ⟨body, hbody⟩ : ∃ body, body = (Ber.formsL ch items data (Ber.next ch a)).1 := ⟨_, rfl⟩
  obtain ⟨hT1, hT2⟩ := hT
  have hL : Ber.formsL ch items data (Ber.next ch a) = (body, a2) := by rw [hbody, ← hT2]
  rw [← hbody] at hT1
  have hnx : Ber.next ch a ≤ 1000000000 := by have := Ber.formsL_at ch items data (Ber.next ch a); omega
  have hcls := hok.1
  have htag := hok.2.1
  have htag2 : t < 2 ^ 64 := by omega
  have hbl : body.length ≤ 1000000000 := by have := Ber.formText_len c b t (Ber.way ch a) body; rw [hT1] at this; omega
  obtain ⟨cA, hcA, hAlen⟩ : ∃ W1, W1 = w.alloc (.cells #[.int .u8 (c : Int), .bool b, .int .u64 (t : Int), .string (bs data), .slice A items.length cp] 26) ∧ W1.heap.size = w.heap.size + 1 := ⟨_, rfl, by simp⟩
  have hst : cA.heap[w.heap.size]? = some (.cells #[.int .u8 (c : Int), .bool b, .int .u64 (t : Int), .string (bs data), .slice A items.length cp] 26 (0, 0)) := by rw [hcA]; exact heap_alloc_new w _
  have hg1 : cA.heap[g]? = some (.cells #[.int .i64 a] 3 (0, 0)) := by rw [hcA]; exact (Below.heap_alloc w _ g hglt).trans hcell
  have hK1 : Keep w.heap.size g w cA := by rw [hcA]; exact (Keep.refl _ _ _).alloc (Nat.le_refl _) _
  have HT := Lib.hid hT1
  have HL := Lib.hid hL
  have HB := Lib.hid hB
  have HC := Lib.hid hC
  have HOK := Lib.hid hok.2.2
  have HCH := Lib.hid hch
  have HIH := Lib.hid ih
  have HNX := Lib.hid hnx
  have HBL := Lib.hid hbl
  have HTL := Lib.hid hTl
  have HTAG := Lib.hid htag2
  clear hT1 hT2 hL hB hC hch ih hok hbody hnx hcell hbl hTl htag htag2
  go_enter Tryd.func28, Tryd.ntmps28
  have hlp : 0 < ch.length := List.length_pos_iff.2 hce
  obtain ⟨ix, hix⟩ : ∃ ix, ix = a % ch.length := ⟨_, rfl⟩
  have hixl : ix < ch.length := by rw [hix]; exact Nat.mod_lt _ hlp
  have hrem : (a : Int) % (ch.length : Int) = (ix : Int) := by rw [hix]; exact (Int.natCast_emod a ch.length).symm
  obtain ⟨ac, hAc, hxc⟩ := Kd.at_int HCH.out (ix : Int) (by omega) (by omega)
  subst hAc
  obtain ⟨xb, hxb⟩ : ∃ xb : UInt8, xb = ch.getD ix 0 := ⟨_, rfl⟩
  have hrd : rd (ch.map fun x => (x.toNat : Int)) (ix : Int) = (xb.toNat : Int) := by
    unfold rd
    rw [hxb, List.getD_eq_getElem?_getD, List.getD_eq_getElem?_getD, Int.toNat_natCast, List.getElem?_map, List.getElem?_eq_getElem hixl]
    rfl
  rw [hrd, Int.toNat_natCast] at hxc
  have hxc2 : cA.cell? (ac.add ix) = some (.int .u8 (xb.toNat : Int)) := by
    have hBA : Below w0.heap.size w0 cA := HB.out.trans ((hK1.mono (by have := HB.out.size; omega)).toBelow hg)
    exact (hBA.cell (World.block_lt_of_cell? w0 _ hxc)).trans hxc
  have hwy : Ber.way ch a = xb.toNat % 5 := by unfold Ber.way; rw [if_neg hce, ← hix, ← hxb]
  have hnx0 : Ber.next ch a = a + 1 := by unfold Ber.next; rw [if_neg hce]
  have hxl := xb.toNat_lt
  obtain ⟨wy, hwy2⟩ : ∃ wy, wy = xb.toNat % 5 := ⟨_, rfl⟩
  have hwyi : (xb.toNat : Int) % 5 = (wy : Int) := by rw [hwy2]; omega
  have hwyl : wy < 5 := by omega
  have hway : Ber.way ch a = wy := by rw [hwy, hwy2]
  have g0 := blockCell hg1 0
  have gf := blockFrozen hg1 0
  simp only [List.getElem?_toArray, List.getElem?_cons_zero] at g0
  have hcell0 : w.heap[g]? = some (.cells #[.int .i64 (a : Int)] 3 (0, 0)) := by rw [← hg1, hcA]; exact (Below.heap_alloc w _ g hglt).symm
  have hg2 := blockSet hcell0 0 (.int .i64 ((a : Int) + 1))
  simp only [List.setIfInBounds_toArray, List.set_cons_zero] at hg2
  obtain ⟨cB, hcB⟩ : ∃ cB, cB = (w.setCell ⟨g, 0, none⟩ (.int .i64 ((a : Int) + 1))).alloc (.cells #[.int .u8 (c : Int), .bool b, .int .u64 (t : Int), .string (bs data), .slice A items.length cp] 26) := ⟨_, rfl⟩
  have hsz : (w.setCell ⟨g, 0, none⟩ (.int .i64 ((a : Int) + 1))).heap.size = w.heap.size := by simp [World.setCell]
  have hst2 : cB.heap[w.heap.size]? = some (.cells #[.int .u8 (c : Int), .bool b, .int .u64 (t : Int), .string (bs data), .slice A items.length cp] 26 (0, 0)) := by
    rw [hcB]
    have := heap_alloc_new (w.setCell ⟨g, 0, none⟩ (.int .i64 ((a : Int) + 1))) (.cells #[.int .u8 (c : Int), .bool b, .int .u64 (t : Int), .string (bs data), .slice A items.length cp] 26)
    rw [hsz] at this
    exact this
  have hgB : cB.heap[g]? = some (.cells #[.int .i64 ((Ber.next ch a : Nat) : Int)] 3 (0, 0)) := by
    rw [hcB, hnx0]
    have e : (((a + 1 : Nat) : Int)) = (a : Int) + 1 := by omega
    rw [e]
    exact (Below.heap_alloc _ _ g (by rw [hsz]; exact hglt)).trans hg2
  have hKB : Keep w.heap.size g w cB := by rw [hcB]; exact ((Keep.refl _ _ _).setCell (Or.inr rfl) _).alloc (by rw [hsz]; exact Nat.le_refl _) _
  have ha1 : a < 1000000000 := by have := HNX.out; omega
  have HST : Hid (_ = _) := Lib.hid hst2
  have HG := Lib.hid hgB
  have HK := Lib.hid hKB
  have HWAY := Lib.hid hway
  have HCB := Lib.hid hcB
  have hgne2 : w.heap.size ≠ g := by omega
  rw [hcA] at g0 gf hxc2
  have hixn : ix < 1000000 := by omega
  have hwy4 : (wy : Int) < 5 := by omega
  clear hst2 hgB hKB hway hcB hg2 hnx0 hwy hwy2 hxb hrd hxc hix hst hg1 hK1 hcA hsz hcell0
  go_wp2_with fail
  rw [← HCB.out, hwyi, hrem]
  clear hwyi hrem g0 gf hxc2 HCB hAlen
  go_loopg [8, 35] items.length (fun kq v8 v35 wr => ∃ (j a' : Nat) (acc : List UInt8), v8 = .string (bs acc) ∧ v35 = .int .i64 j ∧ Hid (j + kq = items.length) ∧ Hid (Ber.formsL ch (items.drop j) acc a' = (body, a2)) ∧
      Hid (wr.heap[w.heap.size]? = some (.cells #[.int .u8 (c : Int), .bool b, .int .u64 (t : Int), .string (bs data), .slice A items.length cp] 26 (0, 0))) ∧ Hid (wr.heap[g]? = some (.cells #[.int .i64 a'] 3 (0, 0))) ∧ Hid (Keep w.heap.size g w wr))
  case atStart => exact ⟨0, Ber.next ch a, data, rfl, by go_num, Lib.hid (by simp), Lib.hid (by rw [List.drop_zero]; exact HL.out), HST, HG, HK⟩
  case round =>
  obtain ⟨j, a', acc, rfl, rfl, HJ, HF, HST1, HG1, HK1⟩ := hrel
  have hslt : w.heap.size < wr.heap.size := blockLt HST1.out
  by_cases hj : j < items.length
  · have hacc : acc.length ≤ 1000000000 := by have := Ber.formsL_len ch (items.drop j) acc a'; rw [HF.out] at this; have := HBL.out; simp at *; omega
    have hF := HF.out
    rw [Ber.forms_drop ch items j hj] at hF
    obtain ⟨T1, a3, hf1⟩ : ∃ T1 a3, Ber.forms ch items[j] a' = (T1, a3) := ⟨_, _, rfl⟩
    rw [hf1] at hF
    simp only [] at hF
    have ha3 : a3 ≤ 1000000000 := by have := Ber.formsL_at ch (items.drop (j + 1)) (acc ++ T1) a3; rw [hF] at this; simp at this; omega
    have hT1 : acc.length + T1.length ≤ 1000000000 := by have := Ber.formsL_len ch (items.drop (j + 1)) (acc ++ T1) a3; rw [hF] at this; have := HBL.out; simp at *; omega
    have hokj := Ber.OKs.get HOK.out j hj
    have hszj : SizeOf.sizeOf items[j] < n := by
      have h1 := List.sizeOf_lt_of_mem (List.getElem_mem hj)
      have h2 : SizeOf.sizeOf (Ber.Pk.mk c b t data items) = _ := Ber.Pk.mk.sizeOf_spec c b t data items
      omega
    obtain ⟨ad, A4, c4, e4, hx0, hx1, hx2, hx3, hx4, hl4, hi4⟩ := PFnBerForms.at_T26 HC.out (j : Int) (by omega) (by omega)
    have hrd : PFnBerForms.rd_T26 (spSs items) (j : Int) = spS items[j] := by
      unfold PFnBerForms.rd_T26
      rw [List.getD_eq_getElem?_getD, Int.toNat_natCast, spSs_get items j hj]; rfl
    rw [hrd] at hx0 hx1 hx2 hx3 hx4 hl4 hi4
    obtain ⟨x, hx⟩ : ∃ x, x = items[j] := ⟨_, rfl⟩
    rw [← hx] at hx0 hx1 hx2 hx3 hx4 hl4 hi4 hszj hokj hf1
    cases x with
    | mk c1 b1 t1 d1 i1 =>
    simp only [spS, spSs_length, Int.toNat_natCast] at hx0 hx1 hx2 hx3 hx4 hl4 hi4
    subst e4
    have hBw : Below w0.heap.size w0 wr := HB.out.trans ((HK1.out.mono (by have := HB.out.size; omega)).toBelow hg)
    replace hx0 := (hBw.cell (World.block_lt_of_cell? w0 _ hx0)).trans hx0
    replace hx1 := (hBw.cell (World.block_lt_of_cell? w0 _ hx1)).trans hx1
    replace hx2 := (hBw.cell (World.block_lt_of_cell? w0 _ hx2)).trans hx2
    replace hx3 := (hBw.cell (World.block_lt_of_cell? w0 _ hx3)).trans hx3
    replace hx4 := (hBw.cell (World.block_lt_of_cell? w0 _ hx4)).trans hx4
    obtain ⟨W1, hW1⟩ : ∃ W1, W1 = wr.alloc (.cells #[.int .u8 (c1 : Int), .bool b1, .int .u64 (t1 : Int), .string (bs d1), .slice A4 i1.length c4] 26) := ⟨_, rfl⟩
    have hW1s : wr.heap.size ≤ W1.heap.size := by rw [hW1]; simp
    have hW1b : ∀ k, k < wr.heap.size → W1.heap[k]? = wr.heap[k]? := fun k hk => by rw [hW1]; exact Below.heap_alloc wr _ k hk
    have hgw : g < wr.heap.size := blockLt HG1.out
    have hcall := HIH.out c1 b1 t1 d1 i1 hszj hokj W1 g a' A4 c4 T1 a3 hf1 (by rw [hW1]; exact hBw.alloc hBw.size _) hg ((hW1b g hgw).trans HG1.out) ha3 (by omega) hi4 hl4
    have HCALL := Lib.hid hcall
    have HW1 := Lib.hid hW1
    have HW1B := Lib.hid hW1b
    have HF2 := Lib.hid hF
    have hp1 : ((j : Int) < (items.length : Int)) = True := eq_true (by omega)
    have hp0 : (0 ≤ (j : Int)) = True := eq_true (by omega)
    have hjd : decide ((j : Int) < (items.length : Int)) = true := by simp; omega
    have hadd : (bs acc).size + (bs T1).size ≤ 9223372036854775807 := by rw [bs_size, bs_size]; omega
    have HW1S := Lib.hid hW1s
    clear hcall hW1b hF hBw hf1 hi4 hrd hx hokj hszj hcls hW1s
    clear hW1
    go_wp2_with fail
    rw [← HW1.out]
    refine HCALL.out.mono ?_
    rintro e w2 ⟨rfl, hg2, hk2⟩
    have HG2 := Lib.hid hg2
    have HK2 := Lib.hid hk2
    have HJJ := Lib.hid hj
    have hjs : j < 9223372036854775807 := by have := Kd.C_max HC.out; omega
    clear hg2 hk2
    go_wp2
    have hgk : ∃ q, gk = q + 1 := ⟨gk - 1, by have := HJ.out; have := HJJ.out; omega⟩
    obtain ⟨q, rfl⟩ := hgk
    go_roundg q
    case measure => exact Nat.lt_succ_self _
    case rel => exact ⟨j + 1, a3, acc ++ T1, by rw [← bs_append], by go_num, Lib.hid (by have := HJ.out; omega), HF2, Lib.hid ((HK2.out.block w.heap.size (by have := HW1S.out; omega) (by omega)).trans ((HW1B.out _ hslt).trans HST1.out)), HG2,
      Lib.hid (HK1.out.trans ((show Keep w.heap.size g wr W1 by rw [HW1.out]; exact (Keep.refl _ _ _).alloc (by omega) _).trans (HK2.out.mono (by have := HW1S.out; omega))))⟩
  · have hje : j = items.length := by have := HJ.out; omega
    have hjd : decide ((j : Int) < (items.length : Int)) = false := by simp; omega
    have hF := HF.out
    rw [hje, List.drop_length] at hF
    simp only [Ber.formsL, Prod.mk.injEq] at hF
    obtain ⟨rfl, rfl⟩ := hF
    have e0 := blockCell HST1.out 0
    have e1 := blockCell HST1.out 1
    have e2 := blockCell HST1.out 2
    have e3 := blockCell HST1.out 3
    have e4 := blockCell HST1.out 4
    simp only [List.getElem?_toArray, List.getElem?_cons_zero, List.getElem?_cons_succ] at e0 e1 e2 e3 e4
    have hBw : Below w0.heap.size w0 wr := HB.out.trans ((HK1.out.mono (by have := HB.out.size; omega)).toBelow hg)
    have htagc := PFnBerForms.spec_BerTag.calls 20 (c : Int) b (t : Int) (bs data) A cp (spSs items) _ wr (by rw [spSs_length]; exact Kd.C_below HC.out hBw) (by rw [spSs_length]; exact hcp) (berTag_f c hcls b t HTAG.out (bs data) (spSs items))
    rw [spSs_length] at htagc
    have HTC := Lib.hid htagc
    have HBW := Lib.hid hBw
    clear htagc hBw
    have hTT := HT.out
    unfold Ber.formText at hTT
    rw [HWAY.out] at hTT
    by_cases hw4 : wy = 4 ∧ b = true
    · obtain ⟨rfl, rfl⟩ := hw4
      rw [if_pos ⟨rfl, rfl⟩] at hTT
      have hTl := HTL.out
      rw [← hTT] at hTl
      simp only [List.length_append, List.length_cons, List.length_nil] at hTl
      have had0 : (bs (Ber.identBytes c true t)).size + (⟨#[128]⟩ : ByteArray).size ≤ 9223372036854775807 := by
        rw [bs_size, show (⟨#[128]⟩ : ByteArray).size = 1 from rfl]; omega
      have had1 : (bs (Ber.identBytes c true t) ++ (⟨#[128]⟩ : ByteArray)).size + (bs acc).size ≤ 9223372036854775807 := by
        rw [show (⟨#[128]⟩ : ByteArray) = bs [128] from rfl, bs_append, bs_size, bs_size]; simp; omega
      have had2 : ((bs (Ber.identBytes c true t) ++ (⟨#[128]⟩ : ByteArray)) ++ bs acc).size + (⟨#[0, 0]⟩ : ByteArray).size ≤ 9223372036854775807 := by
        rw [show (⟨#[128]⟩ : ByteArray) = bs [128] from rfl, bs_append, bs_append, bs_size, show (⟨#[0, 0]⟩ : ByteArray).size = 2 from rfl]; simp; omega
      have HTT := Lib.hid hTT
      clear hTT hTl
      go_wp2_with fail
      refine HTC.out.mono ?_
      rintro e w2 ⟨rfl, hb2⟩
      have HB2 := Lib.hid hb2
      clear hb2 e0 e1 e2 e3 e4
      go_wp2
      go_ret
      have hg2lt : g < wr.heap.size := blockLt HG1.out
      refine ⟨?_, (HB2.out.block g hg2lt).trans HG1.out, HK1.out.trans (Keep.ofBelow (HB2.out.mono (by omega)))⟩
      rw [← HTT.out, ← bs_append, ← bs_append, ← bs_append]
      rfl
    · rw [if_neg hw4] at hTT
      obtain ⟨m4, hm4⟩ : ∃ m4, m4 = wy % 4 := ⟨_, rfl⟩
      have hm4i : (wy : Int) % 4 = (m4 : Int) := by omega
      rw [← hm4] at hTT
      have hbsz := bs_size acc
      have had1 : (bs (Ber.identBytes c b t)).size + (bs (Ber.lenForm acc.length m4)).size ≤ 9223372036854775807 := by
        have := HTL.out; rw [← hTT] at this; simp only [List.length_append] at this; rw [bs_size, bs_size]; omega
      have had2 : (bs (Ber.identBytes c b t) ++ bs (Ber.lenForm acc.length m4)).size + (bs acc).size ≤ 9223372036854775807 := by
        have := HTL.out; rw [← hTT] at this; simp only [List.length_append] at this; rw [bs_append, bs_size, bs_size]; simp; omega
      have HTT := Lib.hid hTT
      have hm4l : m4 < 4 := by omega
      clear hTT
      by_cases hw : wy = 4
      · have hbf : b = false := by cases b with | false => rfl | true => exact absurd ⟨hw, rfl⟩ hw4
        subst hbf
        subst hw
        obtain rfl : m4 = 0 := by omega
        have HLC := Lib.hid (fun W => PFnBerForms.spec_BerLength.calls 40 (acc.length : Int) 0 _ W (berLength_f acc.length 0 (by have := HBL.out; omega) (by omega)))
        clear hm4 hm4i
        go_wp2_with fail
        refine HTC.out.mono ?_
        rintro e w2 ⟨rfl, hb2⟩
        have HB2 := Lib.hid hb2
        clear hb2 e0 e1 e2 e3 e4
        go_wp2_with fail
        refine (HLC.out _).mono ?_
        rintro e w3 ⟨rfl, hb3⟩
        have HB3 := Lib.hid hb3
        clear hb3
        go_wp2
        go_ret
        have hg2lt : g < wr.heap.size := blockLt HG1.out
        refine ⟨?_, (HB3.out.block g (by have := HB2.out.size; omega)).trans ((HB2.out.block g hg2lt).trans HG1.out), HK1.out.trans (Keep.ofBelow ((HB2.out.mono (by omega)).trans (HB3.out.mono (by have := HB2.out.size; omega))))⟩
        rw [← HTT.out, ← bs_append, ← bs_append]
        rfl
      · have hwi : ((wy : Int) == 4) = false := by rw [beq_eq_false_iff_ne]; omega
        have HLC := Lib.hid (fun W => PFnBerForms.spec_BerLength.calls 40 (acc.length : Int) (m4 : Int) _ W (berLength_f acc.length m4 (by have := HBL.out; omega) (by omega)))
        clear hm4
        go_wp2_with fail
        refine HTC.out.mono ?_
        rintro e w2 ⟨rfl, hb2⟩
        have HB2 := Lib.hid hb2
        clear hb2 e0 e1 e2 e3 e4
        go_wp2_with fail
        refine (HLC.out _).mono ?_
        rintro e w3 ⟨rfl, hb3⟩
        have HB3 := Lib.hid hb3
        clear hb3
        go_wp2
        go_ret
        have hg2lt : g < wr.heap.size := blockLt HG1.out
        refine ⟨?_, (HB3.out.block g (by have := HB2.out.size; omega)).trans ((HB2.out.block g hg2lt).trans HG1.out), HK1.out.trans (Keep.ofBelow ((HB2.out.mono (by omega)).trans (HB3.out.mono (by have := HB2.out.size; omega))))⟩
        rw [← HTT.out, ← bs_append, ← bs_append]
        rfl
end Go.Proofs.YtdfehaonngccjaaDoor

/- What is written in some form is read. -/
namespace Go.Proofs.YtdfehaonngccjaaDoor.Ber

theorem high_more : ∀ (g f m : Nat) (s : List UInt8), 0 < m → m < 128 ^ g → g ≤ f → g ≤ 8 → ∃ j, 1 ≤ j ∧ j ≤ g ∧ high (tagMore f m ++ s) 0 0 = high s m j := by
  intro g
  induction g with
  | zero => intro f m s h0 h1; simp at h1; omega
  | succ g ih =>
    intro f m s h0 h1 h2 h3
    obtain ⟨f, rfl⟩ : ∃ f', f = f' + 1 := ⟨f - 1, by omega⟩
    simp only [tagMore]
    rw [if_neg (show ¬ m = 0 by omega), List.append_assoc]
    have hb : (UInt8.ofNat (m % 128 + 128)).toNat = m % 128 + 128 := by simp; omega
    by_cases h4 : m < 128
    · have e0 : tagMore f (m / 128) = [] := by
        rw [show m / 128 = 0 by omega]
        cases f <;> simp [tagMore]
      rw [e0]
      refine ⟨1, by omega, by omega, ?_⟩
      simp only [List.nil_append, List.cons_append, high]
      rw [hb, if_neg (by omega), if_neg (by omega), if_neg (by omega)]
      congr 1
      omega
    · obtain ⟨j, h5, h6, h7⟩ := ih f (m / 128) ([UInt8.ofNat (m % 128 + 128)] ++ s) (by omega) (by rw [Nat.pow_succ] at h1; omega) (by omega) (by omega)
      refine ⟨j + 1, by omega, by omega, ?_⟩
      rw [h7]
      simp only [List.nil_append, List.cons_append, high]
      rw [hb, if_neg (by omega), if_neg (by omega), if_neg (by omega)]
      congr 1
      omega

theorem high_tag (t : Nat) (h0 : 0 < t) (ht : t < 2 ^ 31) (s : List UInt8) : high (tagBytes t ++ s) 0 0 = some (t, s) := by
  have hb : (UInt8.ofNat (t % 128)).toNat = t % 128 := by simp; omega
  unfold tagBytes
  rw [if_neg (by omega), List.append_assoc]
  by_cases h1 : t < 128
  · have e0 : tagMore 10 (t / 128) = [] := by rw [show t / 128 = 0 by omega]; simp [tagMore]
    rw [e0]
    simp only [List.nil_append, List.cons_append, high]
    rw [hb, if_neg (by omega), if_neg (by omega), if_pos (by omega)]
    congr 2
    omega
  · obtain ⟨j, h5, h6, h7⟩ := high_more 5 10 (t / 128) ([UInt8.ofNat (t % 128)] ++ s) (by omega) (by omega) (by omega) (by omega)
    rw [h7]
    simp only [List.nil_append, List.cons_append, high]
    rw [hb, if_neg (by omega), if_neg (by omega), if_pos (by omega)]
    congr 2
    omega

theorem ident_text (c : Nat) (hc : c < 4) (b : Bool) (t : Nat) (ht : t < 2 ^ 31) (s : List UInt8) : ident (identBytes c b t ++ s) = some (c, b, t, s) := by
  have key : ∀ v : Nat, v < 32 → ∀ x : Nat, x = c * 64 + (if b then 32 else 0) + v → (UInt8.ofNat x).toNat = x ∧ x % 32 = v ∧ x / 64 = c ∧ decide (x / 32 % 2 = 1) = b := by
    intro v hv x hx
    have hxl : x < 256 := by rw [hx]; split <;> omega
    refine ⟨by simp; omega, ?_, ?_, ?_⟩
    · rw [hx]; split <;> omega
    · rw [hx]; split <;> omega
    · rw [hx]
      cases b
      · simp; omega
      · simp; omega
  unfold identBytes
  by_cases h : t < 31
  · rw [if_pos h]
    obtain ⟨k1, k2, k3, k4⟩ := key t (by omega) _ rfl
    simp only [List.cons_append, List.nil_append, ident]
    rw [k1, k2, if_neg (by omega), k3, k4]
  · rw [if_neg h]
    obtain ⟨k1, k2, k3, k4⟩ := key 31 (by omega) _ rfl
    simp only [List.cons_append, ident]
    rw [k1, k2, if_pos rfl, high_tag t (by omega) ht, k3, k4]
    rfl

theorem be_append_zero (k : Nat) (l : List UInt8) : be (List.replicate k 0 ++ l) = be l := by
  induction k with
  | zero => rfl
  | succ k ih =>
    rw [List.replicate_succ, List.cons_append]
    unfold be at ih ⊢
    simpa using ih
theorem be_digits : ∀ (f n : Nat), n < 256 ^ f → be (digits f n) = n
  | 0, n, h => by simp at h; subst h; rfl
  | f + 1, n, h => by
    simp only [digits]
    by_cases h1 : n < 256
    · rw [if_pos h1]
      unfold be
      simp
      omega
    · rw [if_neg h1]
      have := be_digits f (n / 256) (by rw [Nat.pow_succ] at h; omega)
      unfold be at this ⊢
      rw [List.foldl_append, this]
      simp
      omega
theorem digits_le4 : ∀ (g f n : Nat), n < 256 ^ g → 1 ≤ g → g ≤ f → 1 ≤ (digits f n).length ∧ (digits f n).length ≤ g
  | 0, _, _, _, h, _ => by omega
  | g + 1, 0, _, _, _, h => by omega
  | g + 1, f + 1, n, h, _, hf => by
    simp only [digits]
    by_cases h1 : n < 256
    · rw [if_pos h1]; simp
    · rw [if_neg h1]
      cases g with
      | zero => simp at h; omega
      | succ g =>
        have := digits_le4 (g + 1) f (n / 256) (by rw [Nat.pow_succ] at h; omega) (by omega) (by omega)
        simp; omega

theorem lenOf_form (n more : Nat) (hn : n < 2 ^ 31) (hm : more ≤ 3) (s : List UInt8) : lenOf (lenForm n more ++ s) = some (some n, s) := by
  unfold lenForm
  by_cases h : n < 128 ∧ more = 0
  · rw [if_pos h]
    have hb : (UInt8.ofNat n).toNat = n := by simp; omega
    simp only [List.cons_append, List.nil_append, lenOf]
    rw [hb, if_neg (by omega), if_neg (by omega), if_pos (by omega)]
  · rw [if_neg h]
    obtain ⟨h1, h2⟩ := digits_le4 4 8 n (by omega) (by omega) (by omega)
    obtain ⟨zs, hzs⟩ : ∃ zs, zs = List.replicate (more - 1) (0 : UInt8) ++ digits 8 n := ⟨_, rfl⟩
    have hbe : be zs = n := by rw [hzs, be_append_zero, be_digits 8 n (by omega)]
    have hl : zs.length = more - 1 + (digits 8 n).length := by rw [hzs]; simp
    rw [← hzs]
    have hb : (UInt8.ofNat (128 + zs.length)).toNat = 128 + zs.length := by simp; omega
    simp only [List.cons_append, lenOf]
    rw [hb, if_neg (by omega), if_neg (by omega), if_neg (by omega), if_neg (by omega), if_neg (by simp)]
    rw [show 128 + zs.length - 128 = zs.length by omega, List.take_left, List.drop_left, hbe, if_neg (by omega)]

theorem header_text (c : Nat) (hc : c < 4) (b : Bool) (t : Nat) (ht : t < 2 ^ 31) (n more : Nat) (hn : n < 2 ^ 31) (hm : more ≤ 3) (s : List UInt8) :
    header (identBytes c b t ++ (lenForm n more ++ s)) = some (c, b, t, some n, s) := by
  simp only [header, ident_text c hc b t ht, lenOf_form n more hn hm]
  rw [if_neg (by simp)]
theorem header_open (c : Nat) (hc : c < 4) (t : Nat) (ht : t < 2 ^ 31) (s : List UInt8) :
    header (identBytes c true t ++ (128 :: s)) = some (c, true, t, none, s) := by
  have : lenOf (128 :: s) = some (none, s) := by
    simp only [lenOf]
    rw [if_neg (by decide), if_pos (by decide)]
  simp only [header, ident_text c hc true t ht, this]
  rw [if_neg (by simp)]

mutual
/-- What can be written in a form and read. -/
def Fine : Pk → Prop
  | .mk c b t data items => c < 4 ∧ t < 2 ^ 31 ∧ ¬ (c = 0 ∧ t = 0) ∧ (b = false → items = [] ∧ known c t = true ∧ data.length ≤ 480) ∧ (b = true → data = []) ∧ Fines items
def Fines : List Pk → Prop
  | [] => True
  | x :: r => Fine x ∧ Fines r
end
mutual
def depth : Pk → Nat
  | .mk _ _ _ _ items => depths items + 1
def depths : List Pk → Nat
  | [] => 0
  | x :: r => max (depth x) (depths r)
end
mutual
def need : Pk → Nat
  | .mk _ _ _ _ items => needs items + 2
def needs : List Pk → Nat
  | [] => 3
  | x :: r => max (need x) (needs r) + 1
end

theorem formsL_acc (ch : List UInt8) : ∀ (l : List Pk) (acc : List UInt8) (a : Nat), formsL ch l acc a = (acc ++ (formsL ch l [] a).1, (formsL ch l [] a).2)
  | [], acc, a => by simp [formsL]
  | x :: r, acc, a => by
    simp only [formsL]
    rw [formsL_acc ch r (acc ++ (forms ch x a).1), formsL_acc ch r ([] ++ (forms ch x a).1)]
    simp
theorem formsL_cons (ch : List UInt8) (x : Pk) (r : List Pk) (a : Nat) :
    formsL ch (x :: r) [] a = ((forms ch x a).1 ++ (formsL ch r [] (forms ch x a).2).1, (formsL ch r [] (forms ch x a).2).2) := by
  simp only [formsL]
  rw [formsL_acc]
  simp

theorem fine_eoc {x : Pk} (h : Fine x) : isEOC x = false := by
  obtain ⟨c, b, t, data, items⟩ := x
  have h3 := h.2.2.1
  simp only [isEOC]
  cases hb : (decide (c = 0) && !b && decide (t = 0) && data.isEmpty) with
  | false => rfl
  | true =>
    simp only [Bool.and_eq_true, decide_eq_true_eq] at hb
    exact absurd ⟨hb.1.1.1, hb.1.2⟩ h3

theorem read_eoc (f d : Nat) (hf : 1 ≤ f) (hd : d < 1000) (s : List UInt8) : readP f d (0 :: 0 :: s) = .ok (.mk 0 false 0 [] []) s := by
  obtain ⟨f, rfl⟩ : ∃ f', f = f' + 1 := ⟨f - 1, by omega⟩
  have h : header (0 :: 0 :: s) = some (0, false, 0, some 0, s) := by
    simp [header, ident, lenOf]
  simp only [readP]
  rw [if_neg (by omega), h]
  simp [prim, known]

theorem formText_pos (c : Nat) (b : Bool) (t w : Nat) (body : List UInt8) : 1 ≤ (formText c b t w body).length := by
  have h : 1 ≤ (identBytes c b t).length := by unfold identBytes; split <;> simp
  unfold formText
  split <;> simp <;> omega
theorem forms_pos (ch : List UInt8) (x : Pk) (a : Nat) : 1 ≤ (forms ch x a).1.length := by
  obtain ⟨c, b, t, data, items⟩ := x
  simp only [forms]
  exact formText_pos _ _ _ _ _

mutual
theorem read_forms (ch : List UInt8) : ∀ (x : Pk) (a d f : Nat) (rest : List UInt8), Fine x → (forms ch x a).1.length < 2147483000 → d + depth x ≤ 999 → need x ≤ f →
    readP f d ((forms ch x a).1 ++ rest) = .ok x rest
  | .mk c b t data items, a, d, f, rest, hx, hl, hd, hf => by
    obtain ⟨hc, ht, hne, hp, hb, hi⟩ := hx
    simp only [forms, depth, need] at hl hd hf ⊢
    obtain ⟨f, rfl⟩ : ∃ f', f = f' + 1 := ⟨f - 1, by omega⟩
    have hbl := formText_len c b t (way ch a) (formsL ch items data (next ch a)).1
    cases b with
    | false =>
      obtain ⟨rfl, hk, hdl⟩ := hp rfl
      simp only [formsL] at hl hbl ⊢
      unfold formText at hl ⊢
      rw [if_neg (by simp)] at hl ⊢
      rw [List.append_assoc, List.append_assoc]
      simp only [readP]
      rw [if_neg (by omega), header_text c hc false t ht data.length (way ch a % 4) (by omega) (by omega)]
      simp only []
      rw [if_neg (by omega)]
      simp only [Bool.false_eq_true, if_false]
      unfold prim
      by_cases h0 : data.length = 0
      · rw [if_pos h0, if_pos hk]
        obtain rfl : data = [] := List.length_eq_zero_iff.1 h0
        rfl
      · rw [if_neg h0, if_neg (by omega), if_neg (by simp), if_pos hk, List.take_left, List.drop_left]
    | true =>
      obtain rfl := hb rfl
      have hB : (formsL ch items [] (next ch a)).1.length < 2147483000 := by omega
      have hwt : formText c true t (way ch a) (formsL ch items [] (next ch a)).1 ++ rest = if way ch a = 4 then identBytes c true t ++ (128 :: ((formsL ch items [] (next ch a)).1 ++ (0 :: 0 :: rest)))
          else identBytes c true t ++ (lenForm (formsL ch items [] (next ch a)).1.length (way ch a % 4) ++ ((formsL ch items [] (next ch a)).1 ++ rest)) := by
        unfold formText
        by_cases h4 : way ch a = 4
        · rw [if_pos ⟨h4, rfl⟩, if_pos h4]; simp
        · rw [if_neg (by simp [h4]), if_neg h4]; simp
      rw [hwt]
      by_cases h4 : way ch a = 4
      · rw [if_pos h4]
        have hl2 : (formsL ch items [] (next ch a)).1.length + 2 ≤ 2147483000 := by
          unfold formText at hl
          rw [if_pos ⟨h4, rfl⟩] at hl
          simp at hl
          omega
        simp only [readP]
        rw [if_neg (by omega), header_open c hc t ht]
        simp only []
        have := read_formsL_none ch items (next ch a) d f c t 0 [] rest hi (by omega) (by omega) (by omega)
        simpa using this
      · rw [if_neg h4]
        simp only [readP]
        rw [if_neg (by omega), header_text c hc true t ht _ (way ch a % 4) (by omega) (by omega)]
        simp only []
        rw [if_neg (by omega)]
        simp only [if_true]
        have := read_formsL_some ch items (next ch a) d f c t 0 [] rest hi (by omega) (by omega) (by omega)
        simpa using this
theorem read_formsL_some (ch : List UInt8) : ∀ (l : List Pk) (a d f c t got : Nat) (done : List Pk) (rest : List UInt8), Fines l → got + (formsL ch l [] a).1.length < 2147483000 → d + 1 + depths l ≤ 999 → needs l ≤ f →
    kids f d c t (some (got + (formsL ch l [] a).1.length)) got done ((formsL ch l [] a).1 ++ rest) = .ok (.mk c true t [] (done ++ l)) rest
  | [], a, d, f, c, t, got, done, rest, _, _, _, hf => by
    simp only [needs] at hf
    obtain ⟨f, rfl⟩ : ∃ f', f = f' + 1 := ⟨f - 1, by omega⟩
    simp [formsL, kids]
  | x :: r, a, d, f, c, t, got, done, rest, hx, hl, hd, hf => by
    simp only [needs, depths] at hf hd
    obtain ⟨f, rfl⟩ : ∃ f', f = f' + 1 := ⟨f - 1, by omega⟩
    rw [formsL_cons] at hl ⊢
    simp only [List.length_append] at hl ⊢
    have hpos := forms_pos ch x a
    simp only [kids]
    rw [if_neg (fun h => by have := Option.some.inj h; omega), if_neg (by simp), List.append_assoc, read_forms ch x a (d + 1) f _ hx.1 (by omega) (by omega) (by omega)]
    simp only []
    have e1 : ((forms ch x a).1 ++ ((formsL ch r [] (forms ch x a).2).1 ++ rest)).length - ((formsL ch r [] (forms ch x a).2).1 ++ rest).length = (forms ch x a).1.length := by simp
    rw [e1, if_neg (by omega), fine_eoc hx.1]
    simp only [Bool.false_eq_true, if_false]
    have := read_formsL_some ch r (forms ch x a).2 d f c t (got + (forms ch x a).1.length) (done ++ [x]) rest hx.2 (by omega) (by omega) (by omega)
    rw [show got + ((forms ch x a).1.length + (formsL ch r [] (forms ch x a).2).1.length) = got + (forms ch x a).1.length + (formsL ch r [] (forms ch x a).2).1.length by omega, this]
    simp
theorem read_formsL_none (ch : List UInt8) : ∀ (l : List Pk) (a d f c t got : Nat) (done : List Pk) (rest : List UInt8), Fines l → got + (formsL ch l [] a).1.length + 2 ≤ 2147483000 → d + 1 + depths l ≤ 999 → needs l ≤ f →
    kids f d c t none got done ((formsL ch l [] a).1 ++ (0 :: 0 :: rest)) = .ok (.mk c true t [] (done ++ l)) rest
  | [], a, d, f, c, t, got, done, rest, _, hl, hd, hf => by
    simp only [needs, depths] at hf hd
    obtain ⟨f, rfl⟩ : ∃ f', f = f' + 1 := ⟨f - 1, by omega⟩
    simp only [formsL, List.nil_append, kids] at hl ⊢
    rw [if_neg (by simp), if_neg (by simp), read_eoc f (d + 1) (by omega) (by omega)]
    simp only []
    have e1 : (0 :: 0 :: rest).length - rest.length = 2 := by simp only [List.length_cons]; omega
    rw [e1, if_neg (by simp at hl; omega)]
    simp [isEOC]
  | x :: r, a, d, f, c, t, got, done, rest, hx, hl, hd, hf => by
    simp only [needs, depths] at hf hd
    obtain ⟨f, rfl⟩ : ∃ f', f = f' + 1 := ⟨f - 1, by omega⟩
    rw [formsL_cons] at hl ⊢
    simp only [List.length_append] at hl ⊢
    have hpos := forms_pos ch x a
    simp only [kids]
    rw [if_neg (by simp), if_neg (by simp), List.append_assoc, read_forms ch x a (d + 1) f _ hx.1 (by omega) (by omega) (by omega)]
    simp only []
    have e1 : ((forms ch x a).1 ++ ((formsL ch r [] (forms ch x a).2).1 ++ (0 :: 0 :: rest))).length - ((formsL ch r [] (forms ch x a).2).1 ++ (0 :: 0 :: rest)).length = (forms ch x a).1.length := by simp
    rw [e1, if_neg (by omega), fine_eoc hx.1]
    simp only [Bool.false_eq_true, if_false]
    have := read_formsL_none ch r (forms ch x a).2 d f c t (got + (forms ch x a).1.length) (done ++ [x]) rest hx.2 (by omega) (by omega) (by omega)
    rw [this]
    simp
end
end Go.Proofs.YtdfehaonngccjaaDoor.Ber

