/- The reference's tags and lengths as plain functions; the forms of packets. -/
import Derived.Test.YtdfehaonngccjaaDoorM8
import Derived.Test.YtdfehaonngccjaaDoorPFnBerFormsx8
import Derived.Deep.LoopGhost
namespace Go.Proofs.YtdfehaonngccjaaDoor
open Go Go.RowKit Go.Proofs.YtdfehaonngccjaaDoorW.PrintWords Go.Proofs.YtdfehaonngccjaaDoorW.PrintLast Go.Proofs.YtdfehaonngccjaaDoorW.PrintMore

/-- A text of bytes. -/
def bs (l : List UInt8) : ByteArray := ⟨l.toArray⟩
theorem bs_append (a b : List UInt8) : bs a ++ bs b = bs (a ++ b) := by
  apply ByteArray.ext
  simp [bs, ByteArray.data_append]
theorem bs_size (l : List UInt8) : (bs l).size = l.length := by simp [bs, ByteArray.size]
theorem bs_list (l : List UInt8) : (bs l).data.toList = l := rfl
theorem bs_of (s : ByteArray) : s = bs s.data.toList := rfl
theorem strOfNums_bs (xs : List Int) : strOfNums xs = bs (xs.map fun n => UInt8.ofNat n.toNat) := rfl

theorem or128_8 {x : Nat} (h : x < 128) : bits .or .u8 (x : Int) 128 = ((x + 128 : Nat) : Int) := by
  have e := or_u8 (x := x) (y := 128) (by omega) (by omega)
  have k : ∀ y, y < 128 → y ||| 128 = y + 128 := by decide +kernel
  rw [← k x h]; exact e

theorem tag_l0 (f : Nat) : ∀ (m k : Nat) (x3 : Int) (rest : List UInt8), m < 128 ^ f → m < 2 ^ 64 → f < k → rest.length + f < 1000000000 →
    PFnBerForms.spec_BerTag.l0 k x3 (bs rest) (m : Int) = some (bs (UInt8.ofNat (bits .or .u8 x3 31).toNat :: (Ber.tagMore f m ++ rest))) := by
  have base : ∀ (k : Nat) (x3 : Int) (rest : List UInt8), 0 < k → rest.length < 1000000000 → PFnBerForms.spec_BerTag.l0 k x3 (bs rest) ((0 : Nat) : Int) = some (bs (UInt8.ofNat (bits .or .u8 x3 31).toNat :: rest)) := by
    intro k x3 rest hk hr
    obtain ⟨k, rfl⟩ : ∃ k', k = k' + 1 := ⟨k - 1, by omega⟩
    simp only [PFnBerForms.spec_BerTag.l0]
    rw [if_neg (by simp)]
    simp only [Option.bind_some]
    rw [if_pos (by rw [strOfNums_size, bs_size]; simp; omega), strOfNums_bs, bs_append]
    simp
  induction f with
  | zero =>
    intro m k x3 rest hm _ hk hr
    obtain rfl : m = 0 := by simpa using hm
    simpa [Ber.tagMore] using base k x3 rest (by omega) (by omega)
  | succ f ih =>
    intro m k x3 rest hm hm2 hk hr
    by_cases h0 : m = 0
    · subst h0
      simpa [Ber.tagMore] using base k x3 rest (by omega) (by omega)
    · obtain ⟨k, rfl⟩ : ∃ k', k = k' + 1 := ⟨k - 1, by omega⟩
      simp only [PFnBerForms.spec_BerTag.l0]
      rw [if_pos (by omega)]
      simp only [Option.bind_some]
      rw [if_pos (by rw [strOfNums_size, bs_size]; simp; omega), strOfNums_bs, bs_append]
      have e1 : bits .or .u8 (bits .and .u64 (m : Int) 127 % 256) 128 = ((m % 128 + 128 : Nat) : Int) := by
        rw [and127u hm2, show (((m % 128 : Nat) : Int) % 256) = ((m % 128 : Nat) : Int) by omega]
        exact or128_8 (by omega)
      have e2 : ((m : Int) / 128) = ((m / 128 : Nat) : Int) := by omega
      simp only [List.map_cons, List.map_nil, e1, e2, Int.toNat_natCast]
      rw [ih (m / 128) k x3 _ (by rw [Nat.pow_succ] at hm; omega) (by omega) (by omega) (by simp; omega)]
      simp only [Ber.tagMore, if_neg h0, List.append_assoc, List.cons_append, List.nil_append]

theorem cls_wrap {c : Nat} (hc : c < 4) : ((c : Int) * 64) % 256 = ((c * 64 : Nat) : Int) := by omega

theorem berTag_f (c : Nat) (hc : c < 4) (b : Bool) (t : Nat) (ht : t < 2 ^ 64) (d : ByteArray) (l : List PFnBerForms.S26) :
    PFnBerForms.spec_BerTag.f 20 (c : Int) b (t : Int) d l = some (bs (Ber.identBytes c b t)) := by
  have hx : ∀ x3 : Nat, x3 = c * 64 + (if b then 32 else 0) → PFnBerForms.spec_BerTag.j0 20 (x3 : Int) (c : Int) b (t : Int) d l = some (bs (Ber.identBytes c b t)) := by
    intro x3 hx3
    have hx4 : x3 < 256 := by rw [hx3]; split <;> omega
    simp only [PFnBerForms.spec_BerTag.j0]
    unfold Ber.identBytes
    by_cases h31 : t < 31
    · rw [if_pos (by omega), if_pos h31, strOfNums_bs]
      have e0 : ((t : Int) % 256) = (t : Int) := by omega
      simp only [List.map_cons, List.map_nil, e0]
      rw [or_u8 hx4 (by omega), hx3, or_tag c hc b t (by omega), Int.toNat_natCast]
    · rw [if_neg (by omega), if_neg h31]
      have e1 : (bits .and .u64 (t : Int) 127) % 256 = ((t % 128 : Nat) : Int) := by rw [and127u ht]; omega
      have e2 : ((t : Int) / 128) = ((t / 128 : Nat) : Int) := by omega
      rw [strOfNums_bs]
      have e3 : bits .or .u8 (x3 : Int) 31 = ((c * 64 + (if b then 32 else 0) + 31 : Nat) : Int) := by
        rw [show (31 : Int) = ((31 : Nat) : Int) from rfl, or_u8 hx4 (by omega), hx3, or_tag c hc b 31 (by omega)]
      simp only [List.map_cons, List.map_nil, e1, e2, Int.toNat_natCast]
      rw [tag_l0 10 (t / 128) 19 _ _ (by have : t / 128 < 2 ^ 64 := by omega
                                         exact Nat.lt_of_lt_of_le this (by decide)) (by omega) (by omega) (by simp)]
      rw [e3, Int.toNat_natCast]
      unfold Ber.tagBytes
      rw [if_neg (show ¬ t = 0 by omega)]
  unfold PFnBerForms.spec_BerTag.f
  rw [cls_wrap hc]
  cases b with
  | true =>
    rw [if_pos rfl]
    have : bits .or .u8 ((c * 64 : Nat) : Int) 32 = ((c * 64 + 32 : Nat) : Int) := by
      rw [show (32 : Int) = ((32 : Nat) : Int) from rfl, or_u8 (by omega) (by omega)]
      have := or_cls c hc true
      simp at this
      rw [this]
    rw [this]
    exact hx _ (by simp)
  | false =>
    rw [if_neg (by simp)]
    exact hx _ (by simp)
end Go.Proofs.YtdfehaonngccjaaDoor

/- BerValue of a primitive universal packet. -/
namespace Go.Proofs.YtdfehaonngccjaaDoor
open Go Go.RowKit Go.Proofs.YtdfehaonngccjaaDoorW.PrintWords Go.Proofs.YtdfehaonngccjaaDoorW.PrintLast Go.Proofs.YtdfehaonngccjaaDoorW.PrintMore

/-- What BerValue tells of it. -/
def valueOf (t : Nat) (data : List UInt8) : Value :=
  if t = 1 then .agg #[.int .i64 1, .int .i64 (if parseOf data != 0 then 1 else 0), .string ⟨#[]⟩]
  else if t = 4 then .agg #[.int .i64 3, .int .i64 0, .string (bs data)]
  else .agg #[.int .i64 2, .int .i64 (parseOf data), .string ⟨#[]⟩]

theorem ta_yes_b (v : Value) (w : World) : (Instr.typeAssert (.iface 4 v) 20 4 true).run Tryd.prog w = .ok (.tuple #[v, .bool true]) w := by kernel_rfl
theorem ta_no_ib (v : Value) (w : World) : (Instr.typeAssert (.iface 2 v) 20 4 true).run Tryd.prog w = .ok (.tuple #[.bool false, .bool false]) w := by kernel_rfl
theorem ta_yes_i (v : Value) (w : World) : (Instr.typeAssert (.iface 2 v) 20 2 true).run Tryd.prog w = .ok (.tuple #[v, .bool true]) w := by kernel_rfl
theorem ta_no_sb (v : Value) (w : World) : (Instr.typeAssert (.iface 9 v) 20 4 true).run Tryd.prog w = .ok (.tuple #[.bool false, .bool false]) w := by kernel_rfl
theorem ta_no_si (v : Value) (w : World) : (Instr.typeAssert (.iface 9 v) 20 2 true).run Tryd.prog w = .ok (.tuple #[.int .i64 0, .bool false]) w := by kernel_rfl
theorem ta_yes_s (v : Value) (w : World) : (Instr.typeAssert (.iface 9 v) 20 9 true).run Tryd.prog w = .ok (.tuple #[v, .bool true]) w := by kernel_rfl

set_option maxRecDepth 100000 in
set_option maxHeartbeats 4000000 in
theorem berValue_call (N : Nat) (w : World) (s : ByteArray) (hE : Env N w) (hN : N ≤ w.heap.size) (hl : s.size < 1000000000) (f t : Nat) (data : List UInt8) (hr : Ber.readP f 0 s.data.toList = .ok (.mk 0 false t data []) []) (ht : t = 1 ∨ t = 2 ∨ t = 10 ∨ t = 4) :
    Calls Tryd.prog 16 #[.string s] w fun e w' => e = .returned (.tuple #[valueOf t data, .string ⟨#[]⟩]) ∧ Below w.heap.size w w' := by
  obtain ⟨V, hV⟩ : ∃ V, V = valueOf t data := ⟨_, rfl⟩
  rw [← hV]
  have HV := Lib.hid hV
  clear hV
  obtain ⟨w0, hw0⟩ : ∃ w0, w0 = w.alloc (.cells #[.int .i64 0, .int .i64 0, .string ⟨#[]⟩] 43) := ⟨_, rfl⟩
  have hB0 : Below w.heap.size w w0 := by rw [hw0]; exact (Below.refl _ w).alloc (Nat.le_refl _) _
  have hK0 : w0.heap[w.heap.size]? = some (.cells #[.int .i64 0, .int .i64 0, .string ⟨#[]⟩] 43 (0, 0)) := by rw [hw0]; exact heap_alloc_new w _
  have hcall := impl_read N w0 s (hE.below hB0 hN) (by have := hB0.size; omega) hl f _ hr (by simp)
  have HCALL := Lib.hid hcall
  have HB0 := Lib.hid hB0
  have HK0 := Lib.hid hK0
  have HW0 := Lib.hid hw0
  clear hcall hB0 hK0 hw0 hE hr hl
  go_enter Tryd.func16, Tryd.ntmps16
  go_wp2_with fail
  rw [← HW0.out]
  refine HCALL.out.mono ?_
  rintro e w1 ⟨ho, hb⟩
  unfold ImplOut at ho
  simp only [] at ho
  rw [if_pos trivial] at ho
  obtain ⟨q, rfl, hq, hst⟩ := ho
  have hnow := hst.now
  unfold Tree at hnow
  obtain ⟨D, row, C, cap, bv, xs, -, -, hp, -⟩ := hnow
  have c3 := blockCell hp 3
  simp only [PkCells, List.getElem?_toArray, List.getElem?_cons_zero, List.getElem?_cons_succ] at c3
  have hK1 : w1.heap[w.heap.size]? = _ := (hb.block w.heap.size (blockLt HK0.out)).trans HK0.out
  have HK1 := Lib.hid hK1
  have HB1 := Lib.hid (HB0.out.trans (hb.mono HB0.out.size))
  have k0 := blockCell hK1 0
  have k1 := blockCell hK1 1
  have k2 := blockCell hK1 2
  have f0 := blockFrozen hK1 0
  have f1 := blockFrozen hK1 1
  have f2 := blockFrozen hK1 2
  simp only [List.getElem?_toArray, List.getElem?_cons_zero, List.getElem?_cons_succ] at k0 k1 k2
  clear hst hp hb hK1
  have a1 := ta_yes_b
  have a2 := ta_no_ib
  have a3 := ta_yes_i
  have a4 := ta_no_sb
  have a5 := ta_no_si
  have a6 := ta_yes_s
  rcases ht with rfl | rfl | rfl | rfl
  · simp only [valOf, if_true, and_self] at c3
    cases hp : parseOf data != 0 with
    | true =>
      rw [hp] at c3
      go_wp2_with fail
      refine bodyPost_ret (results_cell_one rfl _ _ w.heap.size 43 _ (0, 0) _ rfl (three_set HK1.out _ _ _) Tryd.underlying43 rfl (by kernel_rfl)) rfl ?_
      refine ⟨?_, ((HB1.out.setCell (Nat.le_refl _) _).setCell (Nat.le_refl _) _).setCell (Nat.le_refl _) _⟩
      rw [HV.out]
      unfold valueOf
      rw [if_pos rfl, hp]
      rfl
    | false =>
      rw [hp] at c3
      go_wp2_with fail
      refine bodyPost_ret (results_cell_one rfl _ _ w.heap.size 43 _ (0, 0) _ rfl (three_set HK1.out _ _ _) Tryd.underlying43 rfl (by kernel_rfl)) rfl ?_
      refine ⟨?_, ((HB1.out.setCell (Nat.le_refl _) _).setCell (Nat.le_refl _) _).setCell (Nat.le_refl _) _⟩
      rw [HV.out]
      unfold valueOf
      rw [if_pos rfl, hp]
      rfl
  · have c3' : w1.cell? ⟨q, 3, none⟩ = some (.iface 2 (.int .i64 (parseOf data))) := by rw [c3]; rfl
    clear c3
    go_wp2_with fail
    refine bodyPost_ret (results_cell_one rfl _ _ w.heap.size 43 _ (0, 0) _ rfl (three_set HK1.out _ _ _) Tryd.underlying43 rfl (by kernel_rfl)) rfl ?_
    refine ⟨?_, ((HB1.out.setCell (Nat.le_refl _) _).setCell (Nat.le_refl _) _).setCell (Nat.le_refl _) _⟩
    rw [HV.out]
    rfl
  · have c3' : w1.cell? ⟨q, 3, none⟩ = some (.iface 2 (.int .i64 (parseOf data))) := by rw [c3]; rfl
    clear c3
    go_wp2_with fail
    refine bodyPost_ret (results_cell_one rfl _ _ w.heap.size 43 _ (0, 0) _ rfl (three_set HK1.out _ _ _) Tryd.underlying43 rfl (by kernel_rfl)) rfl ?_
    refine ⟨?_, ((HB1.out.setCell (Nat.le_refl _) _).setCell (Nat.le_refl _) _).setCell (Nat.le_refl _) _⟩
    rw [HV.out]
    rfl
  · have c3' : w1.cell? ⟨q, 3, none⟩ = some (.iface 9 (.string (bs data))) := by rw [c3]; rfl
    clear c3
    go_wp2_with fail
    refine bodyPost_ret (results_cell_one rfl _ _ w.heap.size 43 _ (0, 0) _ rfl (three_set HK1.out _ _ _) Tryd.underlying43 rfl (by kernel_rfl)) rfl ?_
    refine ⟨?_, ((HB1.out.setCell (Nat.le_refl _) _).setCell (Nat.le_refl _) _).setCell (Nat.le_refl _) _⟩
    rw [HV.out]
    rfl
end Go.Proofs.YtdfehaonngccjaaDoor

/- The reference's BerIntOf is ParseInt64's number. -/
namespace Go.Proofs.YtdfehaonngccjaaDoor
open Go Go.RowKit Go.Proofs.YtdfehaonngccjaaDoorW.PrintWords Go.Proofs.YtdfehaonngccjaaDoorW.PrintLast Go.Proofs.YtdfehaonngccjaaDoorW.PrintMore

theorem parse_snoc (a : List UInt8) (x : UInt8) (h1 : 1 ≤ a.length) (h2 : a.length + 1 ≤ 8) : parseOf (a ++ [x]) = parseOf a * 256 + (x.toNat : Int) := by
  have hb := be_lt a.length a rfl
  have hx := x.toNat_lt
  unfold parseOf
  rw [be_snoc, List.length_append, List.length_singleton]
  generalize Ber.be a = v at *
  generalize a.length = n at *
  have hn : n = 1 ∨ n = 2 ∨ n = 3 ∨ n = 4 ∨ n = 5 ∨ n = 6 ∨ n = 7 := by omega
  rcases hn with rfl | rfl | rfl | rfl | rfl | rfl | rfl
  all_goals
    simp only [Nat.reduceMul, Nat.reduceSub, Nat.reduceAdd, Nat.reducePow, Int.reducePow, Nat.reduceLT, Nat.reduceEqDiff, if_false] at hb ⊢
    split <;> split <;> omega

theorem parse_range (a : List UInt8) (h : a.length ≤ 7) : -(2 ^ 55) ≤ parseOf a ∧ parseOf a < 2 ^ 55 := by
  have hb := be_lt a.length a rfl
  unfold parseOf
  generalize Ber.be a = v at *
  generalize a.length = n at *
  have hn : n = 0 ∨ n = 1 ∨ n = 2 ∨ n = 3 ∨ n = 4 ∨ n = 5 ∨ n = 6 ∨ n = 7 := by omega
  rcases hn with rfl | rfl | rfl | rfl | rfl | rfl | rfl | rfl
  all_goals
    simp only [Nat.reduceMul, Nat.reduceSub, Nat.reducePow, Int.reducePow, Nat.reduceLT, Nat.reduceEqDiff, if_false, if_true] at hb ⊢
    first | omega | (split <;> omega)

theorem or_step_s (v : Int) {b : Nat} (hb : b < 256) : bits .or .i64 (wrap64 (v * 256)) (b : Int) = wrap64 (v * 256 + b) := by
  obtain ⟨acc, hacc⟩ : ∃ acc : Nat, (acc : Int) = v % (2 ^ 56) := ⟨(v % 2 ^ 56).toNat, by omega⟩
  have h1 : acc < 256 ^ 7 := by
    have : (256 : Nat) ^ 7 = 72057594037927936 := by decide
    omega
  have e1 : wrap64 (v * 256) = wrap64 ((acc : Int) * 256) := by unfold wrap64; omega
  have e2 : wrap64 (v * 256 + b) = wrap64 ((acc : Int) * 256 + b) := by unfold wrap64; omega
  rw [e1, e2]
  exact or_step_i h1 hb

/-- What the loop holds before byte j. -/
def intSoFar (l : List UInt8) (j : Nat) : Int := if j = 0 then 0 else parseOf (l.take j)
theorem intSoFar_next (l : List UInt8) (h8 : l.length ≤ 8) (j : Nat) (hj : j < l.length) (h1 : 1 ≤ j) :
    bits .or .i64 (wrap64 (intSoFar l j * 256)) ((l[j]).toNat : Int) = intSoFar l (j + 1) := by
  have hx := (l[j]).toNat_lt
  have hlen : (l.take j).length = j := by rw [List.length_take]; omega
  have hr := parse_range (l.take j) (by omega)
  unfold intSoFar
  rw [if_neg (by omega), if_neg (by omega), or_step_s _ hx, List.take_succ_eq_append_getElem hj, parse_snoc _ _ (by omega) (by omega)]
  generalize parseOf (l.take j) = v at *
  unfold wrap64; omega
theorem intSoFar_first (l : List UInt8) (hj : 0 < l.length) :
    intSoFar l 1 = if (l[0]).toNat < 128 then ((l[0]).toNat : Int) else ((l[0]).toNat : Int) - 256 := by
  have ht : l.take 1 = [l[0]] := by cases l with | nil => simp at hj | cons a r => simp
  unfold intSoFar
  rw [if_neg (by omega), ht]
  unfold parseOf
  simp [Ber.be]

set_option maxRecDepth 100000 in
set_option maxHeartbeats 4000000 in
theorem intOf_call (w : World) (l : List UInt8) (h1 : 1 ≤ l.length) (h8 : l.length ≤ 8) :
    Calls Tryd.prog 15 #[.string (bs l)] w fun e w' => e = .returned (.int .i64 (parseOf l)) ∧ Same w w' := by
  have hsz := bs_size l
  go_enter Tryd.func15, Tryd.ntmps15
  go_wp2_with fail
  go_loopg [3, 7] l.length (fun kq v3 v7 wr => ∃ (j : Nat), v3 = .int .i64 (intSoFar l j) ∧ v7 = .int .i64 j ∧ Hid (j + kq = l.length) ∧ Hid (Same w wr))
  case atStart => exact ⟨0, rfl, by go_num, Lib.hid (by simp), Lib.hid (Same.refl w)⟩
  case round =>
  obtain ⟨j, rfl, rfl, HJ, HS⟩ := hrel
  by_cases hj : j < l.length
  · have hgk : ∃ q, gk = q + 1 := ⟨gk - 1, by have := HJ.out; omega⟩
    obtain ⟨q, rfl⟩ := hgk
    have hget : ∀ k (hk : k < l.length), ((bs l)[k]'(by rw [bs_size]; exact hk)) = l[k] := fun k hk => by show (l.toArray)[k] = l[k]; simp
    have HGET := Lib.hid hget
    clear hget
    have e256 : wrap64 (-1 * 256) = -256 := by unfold wrap64; omega
    have E256 := Lib.hid e256
    clear e256
    have hw : ∀ x : UInt8, wrap64 (x.toNat : Int) = (x.toNat : Int) := fun x => by have := x.toNat_lt; unfold wrap64; omega
    have HW := Lib.hid hw
    clear hw
    go_wp2_with fail
    · rename_i hj0 _ h128
      subst hj0
      go_roundg q
      case measure => exact Nat.lt_succ_self _
      case rel =>
        refine ⟨1, ?_, by go_num, Lib.hid (by have := HJ.out; omega), HS⟩
        rw [HW.out, HGET.out 0 hj, ← E256.out, or_step_s (-1) (l[0]).toNat_lt, intSoFar_first l hj]
        rw [HGET.out 0 hj] at h128
        have := (l[0]).toNat_lt
        rw [if_neg (by omega)]
        congr 1
        unfold wrap64; omega
    · rename_i hj0 _ h128
      subst hj0
      go_roundg q
      case measure => exact Nat.lt_succ_self _
      case rel =>
        refine ⟨1, ?_, by go_num, Lib.hid (by have := HJ.out; omega), HS⟩
        rw [HGET.out 0 hj, or_step_s _ (l[0]).toNat_lt, intSoFar_first l hj]
        rw [HGET.out 0 hj] at h128
        rw [if_pos (by omega)]
        congr 1
        show wrap64 (0 * 256 + _) = _
        unfold wrap64; omega
    · rename_i hj0
      go_roundg q
      case measure => exact Nat.lt_succ_self _
      case rel =>
        refine ⟨j + 1, ?_, by go_num, Lib.hid (by have := HJ.out; omega), HS⟩
        rw [HW.out, HGET.out j hj, intSoFar_next l h8 j hj (by omega)]
  · go_wp2_with fail
    go_ret
    refine ⟨?_, HS.out⟩
    have hje : j = l.length := by have := HJ.out; omega
    subst hje
    show Ending.returned (.int .i64 (intSoFar l l.length)) = _
    unfold intSoFar
    rw [if_neg (by omega), List.take_length]
end Go.Proofs.YtdfehaonngccjaaDoor

/- The reference's lengths, and the forms of packets. -/
namespace Go.Proofs.YtdfehaonngccjaaDoor
open Go Go.RowKit Go.Proofs.YtdfehaonngccjaaDoorW.PrintWords Go.Proofs.YtdfehaonngccjaaDoorW.PrintLast Go.Proofs.YtdfehaonngccjaaDoorW.PrintMore

namespace Ber
/-- A length with more bytes than it needs (0: in the short form, if it is below 128). -/
def lenForm (n more : Nat) : List UInt8 :=
  if n < 128 ∧ more = 0 then [UInt8.ofNat n] else UInt8.ofNat (128 + (List.replicate (more - 1) (0 : UInt8) ++ digits 8 n).length) :: (List.replicate (more - 1) 0 ++ digits 8 n)

/-- The bytes of a number, none of 0. -/
def dg : Nat → Nat → List UInt8
  | 0, _ => []
  | f + 1, n => if n = 0 then [] else dg f (n / 256) ++ [UInt8.ofNat (n % 256)]
theorem digits_dg : ∀ (f n : Nat), 0 < n → n < 256 ^ f → digits f n = dg f n
  | 0, n, h0, h => by simp at h; omega
  | f + 1, n, h0, h => by
    simp only [digits, dg]
    rw [if_neg (show ¬ n = 0 by omega)]
    by_cases h2 : n < 256
    · rw [if_pos h2, show n / 256 = 0 by omega, show n % 256 = n by omega]
      cases f <;> simp [dg]
    · rw [if_neg h2, digits_dg f (n / 256) (by omega) (by rw [Nat.pow_succ] at h; omega)]
theorem digits_split (f n : Nat) (h : n < 256 ^ (f + 1)) : digits (f + 1) n = dg f (n / 256) ++ [UInt8.ofNat (n % 256)] := by
  simp only [digits]
  by_cases h2 : n < 256
  · rw [if_pos h2, show n / 256 = 0 by omega, show n % 256 = n by omega]
    cases f <;> simp [dg]
  · rw [if_neg h2, digits_dg f (n / 256) (by omega) (by rw [Nat.pow_succ] at h; omega)]
theorem dg_length : ∀ (f n : Nat), (dg f n).length ≤ f
  | 0, _ => by simp [dg]
  | f + 1, n => by
    simp only [dg]
    split
    · simp
    · have := dg_length f (n / 256); simp; omega
theorem digits_length (n : Nat) (h : n < 256 ^ 8) : (digits 8 n).length ≤ 8 := by
  rw [digits_split 7 n h]
  have := dg_length 7 (n / 256)
  simp; omega
end Ber

theorem or128_l {x : Nat} (h : x < 128) : bits .or .u8 128 (x : Int) = ((128 + x : Nat) : Int) := by
  have e := or_u8 (x := 128) (y := x) (by omega) (by omega)
  have k : ∀ y, y < 128 → 128 ||| y = 128 + y := by decide +kernel
  rw [← k x h]; exact e

theorem len_l1 (z : Nat) : ∀ (k i : Nat) (s : List UInt8), i ≤ z → z - i < k → z < 1000 → s.length + (z - i) < 128 →
    PFnBerForms.spec_BerLength.l1 k (bs s) (z : Int) (i : Int) = some (bs (UInt8.ofNat (128 + (z - i + s.length)) :: (List.replicate (z - i) 0 ++ s))) := by
  intro k
  induction k with
  | zero => intro i s _ h; omega
  | succ k ih =>
    intro i s hi hk hz hs
    simp only [PFnBerForms.spec_BerLength.l1]
    by_cases hiz : i < z
    · rw [if_pos (by omega), if_pos (by rw [bs_size]; omega)]
      have e1 : wrap64 ((i : Int) + 1) = ((i + 1 : Nat) : Int) := by unfold wrap64; omega
      have e2 : ((⟨#[0]⟩ : ByteArray) ++ bs s) = bs (0 :: s) := bs_append [0] s
      rw [e1, e2, ih (i + 1) (0 :: s) (by omega) (by omega) hz (by simp; omega)]
      congr 2
      obtain ⟨j, hj⟩ : ∃ j, z - i = j + 1 := ⟨z - i - 1, by omega⟩
      rw [show z - (i + 1) = j by omega, hj, List.replicate_succ', List.length_cons]
      simp only [List.append_assoc, List.cons_append, List.nil_append]
      rw [show j + (s.length + 1) = j + 1 + s.length by omega]
    · rw [if_neg (by omega)]
      simp only [Option.bind_some]
      have h0 : z - i = 0 := by omega
      rw [if_pos (by rw [strOfNums_size, bs_size]; simp; omega), strOfNums_bs, bs_append, h0]
      have e1 : (((bs s).size : Int) % 256) = ((s.length : Nat) : Int) := by rw [bs_size]; omega
      simp only [List.map_cons, List.map_nil, e1]
      rw [or128_l (by omega), Int.toNat_natCast]
      simp

theorem mx_more (more : Nat) (h : more < 1000) : mx (wrap64 ((more : Int) - 1)) 0 = ((more - 1 : Nat) : Int) := by
  unfold mx wrap64
  split <;> omega

theorem len_l0 (f : Nat) : ∀ (m k : Nat) (s : List UInt8) (more : Nat), 0 < s.length → m < 256 ^ f → s.length + f < 50 → more < 20 → f + more + 5 < k →
    PFnBerForms.spec_BerLength.l0 k (more : Int) (bs s) (m : Int) = some (bs (UInt8.ofNat (128 + (more - 1 + (Ber.dg f m ++ s).length)) :: (List.replicate (more - 1) 0 ++ (Ber.dg f m ++ s)))) := by
  have base : ∀ (k : Nat) (s : List UInt8) (more : Nat), 0 < s.length → s.length < 50 → more < 20 → more + 5 < k →
      PFnBerForms.spec_BerLength.l0 k (more : Int) (bs s) ((0 : Nat) : Int) = some (bs (UInt8.ofNat (128 + (more - 1 + s.length)) :: (List.replicate (more - 1) 0 ++ s))) := by
    intro k s more hs hs2 hm hk
    obtain ⟨k, rfl⟩ : ∃ k', k = k' + 1 := ⟨k - 1, by omega⟩
    simp only [PFnBerForms.spec_BerLength.l0]
    rw [if_neg (by simp), if_neg (by rw [Lib.toList_data, bs_list]; intro h; simp [h] at hs), mx_more more (by omega)]
    have := len_l1 (more - 1) k 0 s (by omega) (by omega) (by omega) (by omega)
    rw [Nat.sub_zero] at this
    exact this
  induction f with
  | zero =>
    intro m k s more hs hm h1 h2 h3
    obtain rfl : m = 0 := by simpa using hm
    simpa [Ber.dg] using base k s more hs (by omega) h2 (by omega)
  | succ f ih =>
    intro m k s more hs hm h1 h2 h3
    by_cases h0 : m = 0
    · subst h0
      simpa [Ber.dg] using base k s more hs (by omega) h2 (by omega)
    · obtain ⟨k, rfl⟩ : ∃ k', k = k' + 1 := ⟨k - 1, by omega⟩
      simp only [PFnBerForms.spec_BerLength.l0]
      rw [if_pos (by omega)]
      simp only [Option.bind_some]
      rw [if_pos (by rw [strOfNums_size, bs_size]; simp; omega), strOfNums_bs, bs_append]
      have e1 : ((m : Int) % 256) = ((m % 256 : Nat) : Int) := by omega
      have e2 : ((m : Int) / 256) = ((m / 256 : Nat) : Int) := by omega
      simp only [List.map_cons, List.map_nil, e1, e2, Int.toNat_natCast]
      rw [ih (m / 256) k _ more (by simp) (by rw [Nat.pow_succ] at hm; omega) (by simp; omega) h2 (by omega)]
      simp only [Ber.dg, if_neg h0, List.append_assoc, List.cons_append, List.nil_append]

theorem berLength_f (n more : Nat) (hn : n < 256 ^ 8) (hm : more < 20) : PFnBerForms.spec_BerLength.f 40 (n : Int) (more : Int) = some (bs (Ber.lenForm n more)) := by
  have long : ∀ x12 : Bool, x12 = false → PFnBerForms.spec_BerLength.j0 40 (n : Int) (more : Int) x12 = some (bs (UInt8.ofNat (128 + (List.replicate (more - 1) (0 : UInt8) ++ Ber.digits 8 n).length) :: (List.replicate (more - 1) 0 ++ Ber.digits 8 n))) := by
    rintro x12 rfl
    simp only [PFnBerForms.spec_BerLength.j0]
    rw [if_neg (by simp)]
    have hd := Ber.digits_split 7 n hn
    have e1 : ((n : Int) % 256) = ((n % 256 : Nat) : Int) := by omega
    have e2 : ((n : Int) / 256) = ((n / 256 : Nat) : Int) := by omega
    have step : PFnBerForms.spec_BerLength.l0 39 (more : Int) (⟨#[]⟩ : ByteArray) (n : Int) = PFnBerForms.spec_BerLength.l0 38 (more : Int) (bs [UInt8.ofNat (n % 256)]) ((n / 256 : Nat) : Int) := by
      have hsz : (strOfNums [((n % 256 : Nat) : Int)]).size + (⟨#[]⟩ : ByteArray).size ≤ 9223372036854775807 := by rw [strOfNums_size, show (⟨#[]⟩ : ByteArray).size = 0 from rfl]; simp
      have hap : strOfNums [((n % 256 : Nat) : Int)] ++ (⟨#[]⟩ : ByteArray) = bs [UInt8.ofNat (n % 256)] := by
        have := bs_append [UInt8.ofNat (n % 256)] []
        rw [strOfNums_bs]
        simp only [List.map_cons, List.map_nil, Int.toNat_natCast]
        exact this
      rw [PFnBerForms.spec_BerLength.l0]
      by_cases h0 : (n : Int) > 0
      · rw [if_pos h0]
        simp only [Option.bind_some, e1, e2]
        rw [if_pos hsz, hap]
      · rw [if_neg h0, if_pos (by rw [Lib.toList_data])]
        simp only [Option.bind_some, e1, e2]
        rw [if_pos hsz, hap]
    rw [step, len_l0 7 (n / 256) 38 _ more (by simp) (by omega) (by simp) hm (by omega), hd]
    simp only [List.length_append, List.length_replicate]
  unfold PFnBerForms.spec_BerLength.f Ber.lenForm
  by_cases h1 : n < 128
  · rw [if_pos (by omega)]
    by_cases h2 : more = 0
    · subst h2
      rw [if_pos ⟨h1, rfl⟩]
      have e0 : ((n : Int) % 256) = (n : Int) := by omega
      simp only [PFnBerForms.spec_BerLength.j0]
      rw [if_pos (by simp), strOfNums_bs]
      simp only [List.map_cons, List.map_nil, e0, Int.toNat_natCast]
    · rw [if_neg (by omega)]
      exact long _ (by rw [beq_eq_false_iff_ne]; omega)
  · rw [if_neg (by omega), if_neg (by omega)]
    exact long _ rfl

mutual
/-- A packet as a value of the reference. -/
def spS : Ber.Pk → PFnBerForms.S26
  | .mk c b t data items => ⟨(c : Int), b, (t : Int), bs data, spSs items⟩
def spSs : List Ber.Pk → List PFnBerForms.S26
  | [] => []
  | x :: r => spS x :: spSs r
end
theorem spSs_length : ∀ (l : List Ber.Pk), (spSs l).length = l.length
  | [] => rfl
  | x :: l => by simp [spSs, spSs_length l]
theorem spSs_get : ∀ (l : List Ber.Pk) (j : Nat) (hj : j < l.length), (spSs l)[j]? = some (spS l[j])
  | [], j, hj => absurd hj (Nat.not_lt_zero _)
  | x :: l, 0, hj => by simp [spSs]
  | x :: l, j + 1, hj => by simpa [spSs] using spSs_get l j (by simpa using hj)

namespace Ber
/-- The way that is chosen. -/
def way (ch : List UInt8) (at_ : Nat) : Nat := if ch = [] then 0 else (ch.getD (at_ % ch.length) 0).toNat % 5
def next (ch : List UInt8) (at_ : Nat) : Nat := if ch = [] then at_ else at_ + 1
/-- The bytes of a form. -/
def formText (c : Nat) (b : Bool) (t : Nat) (w : Nat) (body : List UInt8) : List UInt8 :=
  if w = 4 ∧ b = true then identBytes c b t ++ [128] ++ body ++ [0, 0] else identBytes c b t ++ lenForm body.length (w % 4) ++ body
mutual
def forms (ch : List UInt8) : Pk → Nat → List UInt8 × Nat
  | .mk c b t data items, a => (formText c b t (way ch a) (formsL ch items data (next ch a)).1, (formsL ch items data (next ch a)).2)
def formsL (ch : List UInt8) : List Pk → List UInt8 → Nat → List UInt8 × Nat
  | [], acc, a => (acc, a)
  | x :: r, acc, a => formsL ch r (acc ++ (forms ch x a).1) (forms ch x a).2
end
end Ber
end Go.Proofs.YtdfehaonngccjaaDoor

/- The reference's berForms: the walk. -/
namespace Go.Proofs.YtdfehaonngccjaaDoor
open Go Go.RowKit Go.Proofs.YtdfehaonngccjaaDoorW.PrintWords Go.Proofs.YtdfehaonngccjaaDoorW.PrintLast Go.Proofs.YtdfehaonngccjaaDoorW.PrintMore

namespace Ber
mutual
/-- Its classes and tags are right. -/
def OK : Pk → Prop
  | .mk c _ t _ items => c < 4 ∧ t < 2 ^ 63 ∧ OKs items
def OKs : List Pk → Prop
  | [] => True
  | x :: r => OK x ∧ OKs r
end
theorem OKs.get : ∀ {l : List Pk}, OKs l → ∀ j (hj : j < l.length), OK l[j]
  | [], _, j, hj => absurd hj (Nat.not_lt_zero _)
  | x :: r, h, 0, hj => h.1
  | x :: r, h, j + 1, hj => by simpa using OKs.get h.2 j (by simpa using hj)

mutual
theorem forms_at (ch : List UInt8) : ∀ (p : Pk) (a : Nat), a ≤ (forms ch p a).2
  | .mk c b t data items, a => by
    simp only [forms]
    have h1 := formsL_at ch items data (next ch a)
    have h2 : a ≤ next ch a := by unfold next; split <;> omega
    omega
theorem formsL_at (ch : List UInt8) : ∀ (l : List Pk) (acc : List UInt8) (a : Nat), a ≤ (formsL ch l acc a).2
  | [], acc, a => by simp [formsL]
  | x :: r, acc, a => by
    simp only [formsL]
    have h1 := forms_at ch x a
    have h2 := formsL_at ch r (acc ++ (forms ch x a).1) (forms ch x a).2
    omega
end
theorem formsL_len (ch : List UInt8) : ∀ (l : List Pk) (acc : List UInt8) (a : Nat), acc.length ≤ (formsL ch l acc a).1.length
  | [], acc, a => by simp [formsL]
  | x :: r, acc, a => by
    simp only [formsL]
    have h2 := formsL_len ch r (acc ++ (forms ch x a).1) (forms ch x a).2
    simp at h2
    omega
theorem formText_len (c : Nat) (b : Bool) (t w : Nat) (body : List UInt8) : body.length ≤ (formText c b t w body).length := by
  unfold formText
  split <;> simp <;> omega
theorem forms_drop (ch : List UInt8) (items : List Pk) (j : Nat) (hj : j < items.length) (acc : List UInt8) (a : Nat) :
    formsL ch (items.drop j) acc a = formsL ch (items.drop (j + 1)) (acc ++ (forms ch items[j] a).1) (forms ch items[j] a).2 := by
  rw [List.drop_eq_getElem_cons hj]
  simp only [formsL]
end Ber

/-- berForms of packets of less than a size. -/
def FormsHolds (w0 : World) (ch : List UInt8) (Ac : Option Addr) (cc : Nat) (n : Nat) : Prop :=
    ∀ (c : Nat) (b : Bool) (t : Nat) (data : List UInt8) (items : List Ber.Pk), SizeOf.sizeOf (Ber.Pk.mk c b t data items) < n → Ber.OK (.mk c b t data items) → ∀ (w : World) (g a : Nat) (A : Option Addr) (cp : Nat) (T : List UInt8) (a2 : Nat),
      Ber.forms ch (.mk c b t data items) a = (T, a2) → Below w0.heap.size w0 w → w0.heap.size ≤ g → w.heap[g]? = some (.cells #[.int .i64 a] 3 (0, 0)) → a2 ≤ 1000000000 → T.length ≤ 1000000000 →
      Kd.C PFnBerForms.k26 w0 A items.length (spSs items) → items.length ≤ cp →
      Calls Tryd.prog 28 #[.agg #[.int .u8 (c : Int), .bool b, .int .u64 (t : Int), .string (bs data), .slice A items.length cp], .slice Ac ch.length cc, .pointer (some ⟨g, 0, none⟩)] w fun e w' =>
        e = .returned (.string (bs T)) ∧ w'.heap[g]? = some (.cells #[.int .i64 a2] 3 (0, 0)) ∧ Keep w.heap.size g w w'

set_option maxRecDepth 100000 in
set_option maxHeartbeats 8000000 in
theorem forms_none (w0 : World) (ch : List UInt8) (hce : ch = []) (Ac : Option Addr) (cc : Nat) (hch : Kd.C (Kd.int .u8) w0 Ac ch.length (ch.map fun x => (x.toNat : Int))) (hcl : ch.length ≤ 1000000) (n : Nat) (ih : FormsHolds w0 ch Ac cc n) : FormsHolds w0 ch Ac cc (n + 1) := by
  intro c b t data items hsz hok w g a A cp T a2 hT hB hg hcell ha2 hTl hC hcp
  have hglt := blockLt hcell
  have hgne : g ≠ w.heap.size := by omega
  simp only [Ber.forms, Prod.mk.injEq] at hT
  obtain ⟨body, hbody⟩ : ∃ body, body = (Ber.formsL ch items data (Ber.next ch a)).1 := ⟨_, rfl⟩
  obtain ⟨hT1, hT2⟩ := hT
  have hL : Ber.formsL ch items data (Ber.next ch a) = (body, a2) := by rw [hbody, ← hT2]
  rw [← hbody] at hT1
  have hnx : Ber.next ch a ≤ 1000000000 := by have := Ber.formsL_at ch items data (Ber.next ch a); omega
  have hcls := hok.1
  have htag := hok.2.1
  have htag2 : t < 2 ^ 64 := by omega
  have hbl : body.length ≤ 1000000000 := by have := Ber.formText_len c b t (Ber.way ch a) body; rw [hT1] at this; omega
  obtain ⟨cA, hcA, hAlen⟩ : ∃ W1, W1 = w.alloc (.cells #[.int .u8 (c : Int), .bool b, .int .u64 (t : Int), .string (bs data), .slice A items.length cp] 26) ∧ W1.heap.size = w.heap.size + 1 := ⟨_, rfl, by simp⟩
  have hst : cA.heap[w.heap.size]? = some (.cells #[.int .u8 (c : Int), .bool b, .int .u64 (t : Int), .string (bs data), .slice A items.length cp] 26 (0, 0)) := by rw [hcA]; exact heap_alloc_new w _
  have hg1 : cA.heap[g]? = some (.cells #[.int .i64 a] 3 (0, 0)) := by rw [hcA]; exact (Below.heap_alloc w _ g hglt).trans hcell
  have hK1 : Keep w.heap.size g w cA := by rw [hcA]; exact (Keep.refl _ _ _).alloc (Nat.le_refl _) _
  have HT := Lib.hid hT1
  have HL := Lib.hid hL
  have HB := Lib.hid hB
  have HC := Lib.hid hC
  have HOK := Lib.hid hok.2.2
  have HCH := Lib.hid hch
  have HIH := Lib.hid ih
  have HNX := Lib.hid hnx
  have HBL := Lib.hid hbl
  have HTL := Lib.hid hTl
  have HTAG := Lib.hid htag2
  clear hT1 hT2 hL hB hC hch ih hok hbody hnx hcell hbl hTl htag htag2
  go_enter Tryd.func28, Tryd.ntmps28
  have hcd : ch.length < 1 := by rw [hce]; simp
  have hnx0 : Ber.next ch a = a := by unfold Ber.next; rw [if_pos hce]
  have hway : Ber.way ch a = 0 := by unfold Ber.way; rw [if_pos hce]
  have HCE := Lib.hid hce
  have HWAY := Lib.hid hway
  clear hce hway
  go_wp2_with fail
  have HST : Hid (_ = _) := Lib.hid hst
  have HG : Hid (cA.heap[g]? = some (.cells #[.int .i64 (Ber.next ch a : Nat)] 3 (0, 0))) := Lib.hid (by rw [hnx0]; exact hg1)
  have HK := Lib.hid hK1
  rw [← hcA]
  clear hst hg1 hK1 hcA
  generalize decide (0 < ch.length) = bv9
  go_loopg [8, 35] items.length (fun kq v8 v35 wr => ∃ (j a' : Nat) (acc : List UInt8), v8 = .string (bs acc) ∧ v35 = .int .i64 j ∧ Hid (j + kq = items.length) ∧ Hid (Ber.formsL ch (items.drop j) acc a' = (body, a2)) ∧
      Hid (wr.heap[w.heap.size]? = some (.cells #[.int .u8 (c : Int), .bool b, .int .u64 (t : Int), .string (bs data), .slice A items.length cp] 26 (0, 0))) ∧ Hid (wr.heap[g]? = some (.cells #[.int .i64 a'] 3 (0, 0))) ∧ Hid (Keep w.heap.size g w wr))
  case atStart => exact ⟨0, Ber.next ch a, data, rfl, by go_num, Lib.hid (by simp), Lib.hid (by rw [List.drop_zero]; exact HL.out), HST, HG, HK⟩
  case round =>
  obtain ⟨j, a', acc, rfl, rfl, HJ, HF, HST1, HG1, HK1⟩ := hrel
  have hslt : w.heap.size < wr.heap.size := blockLt HST1.out
  by_cases hj : j < items.length
  · have hacc : acc.length ≤ 1000000000 := by have := Ber.formsL_len ch (items.drop j) acc a'; rw [HF.out] at this; have := HBL.out; simp at *; omega
    have hF := HF.out
    rw [Ber.forms_drop ch items j hj] at hF
    obtain ⟨T1, a3, hf1⟩ : ∃ T1 a3, Ber.forms ch items[j] a' = (T1, a3) := ⟨_, _, rfl⟩
    rw [hf1] at hF
    simp only [] at hF
    have ha3 : a3 ≤ 1000000000 := by have := Ber.formsL_at ch (items.drop (j + 1)) (acc ++ T1) a3; rw [hF] at this; simp at this; omega
    have hT1 : acc.length + T1.length ≤ 1000000000 := by have := Ber.formsL_len ch (items.drop (j + 1)) (acc ++ T1) a3; rw [hF] at this; have := HBL.out; simp at *; omega
    have hokj := Ber.OKs.get HOK.out j hj
    have hszj : SizeOf.sizeOf items[j] < n := by
      have h1 := List.sizeOf_lt_of_mem (List.getElem_mem hj)
      have h2 : SizeOf.sizeOf (Ber.Pk.mk c b t data items) = _ := Ber.Pk.mk.sizeOf_spec c b t data items
      omega
    obtain ⟨ad, A4, c4, e4, hx0, hx1, hx2, hx3, hx4, hl4, hi4⟩ := PFnBerForms.at_T26 HC.out (j : Int) (by omega) (by omega)
    have hrd : PFnBerForms.rd_T26 (spSs items) (j : Int) = spS items[j] := by
      unfold PFnBerForms.rd_T26
      rw [List.getD_eq_getElem?_getD, Int.toNat_natCast, spSs_get items j hj]; rfl
    rw [hrd] at hx0 hx1 hx2 hx3 hx4 hl4 hi4
    obtain ⟨x, hx⟩ : ∃ x, x = items[j] := ⟨_, rfl⟩
    rw [← hx] at hx0 hx1 hx2 hx3 hx4 hl4 hi4 hszj hokj hf1
    cases x with
    | mk c1 b1 t1 d1 i1 =>
    simp only [spS, spSs_length, Int.toNat_natCast] at hx0 hx1 hx2 hx3 hx4 hl4 hi4
    subst e4
    have hBw : Below w0.heap.size w0 wr := HB.out.trans ((HK1.out.mono (by have := HB.out.size; omega)).toBelow hg)
    replace hx0 := (hBw.cell (World.block_lt_of_cell? w0 _ hx0)).trans hx0
    replace hx1 := (hBw.cell (World.block_lt_of_cell? w0 _ hx1)).trans hx1
    replace hx2 := (hBw.cell (World.block_lt_of_cell? w0 _ hx2)).trans hx2
    replace hx3 := (hBw.cell (World.block_lt_of_cell? w0 _ hx3)).trans hx3
    replace hx4 := (hBw.cell (World.block_lt_of_cell? w0 _ hx4)).trans hx4
    obtain ⟨W1, hW1⟩ : ∃ W1, W1 = wr.alloc (.cells #[.int .u8 (c1 : Int), .bool b1, .int .u64 (t1 : Int), .string (bs d1), .slice A4 i1.length c4] 26) := ⟨_, rfl⟩
    have hW1s : wr.heap.size ≤ W1.heap.size := by rw [hW1]; simp
    have hW1b : ∀ k, k < wr.heap.size → W1.heap[k]? = wr.heap[k]? := fun k hk => by rw [hW1]; exact Below.heap_alloc wr _ k hk
    have hgw : g < wr.heap.size := blockLt HG1.out
    have hcall := HIH.out c1 b1 t1 d1 i1 hszj hokj W1 g a' A4 c4 T1 a3 hf1 (by rw [hW1]; exact hBw.alloc hBw.size _) hg ((hW1b g hgw).trans HG1.out) ha3 (by omega) hi4 hl4
    have HCALL := Lib.hid hcall
    have HW1 := Lib.hid hW1
    have HW1B := Lib.hid hW1b
    have HF2 := Lib.hid hF
    have hp1 : ((j : Int) < (items.length : Int)) = True := eq_true (by omega)
    have hp0 : (0 ≤ (j : Int)) = True := eq_true (by omega)
    have hjd : decide ((j : Int) < (items.length : Int)) = true := by simp; omega
    have hadd : (bs acc).size + (bs T1).size ≤ 9223372036854775807 := by rw [bs_size, bs_size]; omega
    have HW1S := Lib.hid hW1s
    clear hcall hW1b hF hBw hf1 hi4 hrd hx hokj hszj hcls hW1s
    clear hW1
    go_wp2_with fail
    rw [← HW1.out]
    refine HCALL.out.mono ?_
    rintro e w2 ⟨rfl, hg2, hk2⟩
    have HG2 := Lib.hid hg2
    have HK2 := Lib.hid hk2
    have HJJ := Lib.hid hj
    have hjs : j < 9223372036854775807 := by have := Kd.C_max HC.out; omega
    clear hg2 hk2
    go_wp2
    have hgk : ∃ q, gk = q + 1 := ⟨gk - 1, by have := HJ.out; have := HJJ.out; omega⟩
    obtain ⟨q, rfl⟩ := hgk
    go_roundg q
    case measure => exact Nat.lt_succ_self _
    case rel => exact ⟨j + 1, a3, acc ++ T1, by rw [← bs_append], by go_num, Lib.hid (by have := HJ.out; omega), HF2, Lib.hid ((HK2.out.block w.heap.size (by have := HW1S.out; omega) (by omega)).trans ((HW1B.out _ hslt).trans HST1.out)), HG2,
      Lib.hid (HK1.out.trans ((show Keep w.heap.size g wr W1 by rw [HW1.out]; exact (Keep.refl _ _ _).alloc (by omega) _).trans (HK2.out.mono (by have := HW1S.out; omega))))⟩
  · have hje : j = items.length := by have := HJ.out; omega
    have hjd : decide ((j : Int) < (items.length : Int)) = false := by simp; omega
    have hF := HF.out
    rw [hje, List.drop_length] at hF
    simp only [Ber.formsL, Prod.mk.injEq] at hF
    obtain ⟨rfl, rfl⟩ := hF
    have e0 := blockCell HST1.out 0
    have e1 := blockCell HST1.out 1
    have e2 := blockCell HST1.out 2
    have e3 := blockCell HST1.out 3
    have e4 := blockCell HST1.out 4
    simp only [List.getElem?_toArray, List.getElem?_cons_zero, List.getElem?_cons_succ] at e0 e1 e2 e3 e4
    have hBw : Below w0.heap.size w0 wr := HB.out.trans ((HK1.out.mono (by have := HB.out.size; omega)).toBelow hg)
    have htagc := PFnBerForms.spec_BerTag.calls 20 (c : Int) b (t : Int) (bs data) A cp (spSs items) _ wr (by rw [spSs_length]; exact Kd.C_below HC.out hBw) (by rw [spSs_length]; exact hcp) (berTag_f c hcls b t HTAG.out (bs data) (spSs items))
    rw [spSs_length] at htagc
    have HTC := Lib.hid htagc
    have HBW := Lib.hid hBw
    clear htagc hBw
    have hTT := HT.out
    unfold Ber.formText at hTT
    rw [HWAY.out, if_neg (by omega)] at hTT
    have hlenc := fun W => PFnBerForms.spec_BerLength.calls 40 (acc.length : Int) 0 _ W (berLength_f acc.length 0 (by have := HBL.out; omega) (by omega))
    have hbsz := bs_size acc
    have had1 : (bs (Ber.identBytes c b t)).size + (bs (Ber.lenForm acc.length 0)).size ≤ 9223372036854775807 := by
      have := HTL.out; rw [← hTT] at this; simp only [List.length_append] at this; rw [bs_size, bs_size]; simp at this; omega
    have had2 : (bs (Ber.identBytes c b t) ++ bs (Ber.lenForm acc.length 0)).size + (bs acc).size ≤ 9223372036854775807 := by
      have := HTL.out; rw [← hTT] at this; simp only [List.length_append] at this; rw [bs_append, bs_size, bs_size]; simp at this ⊢; omega
    have HTT := Lib.hid hTT
    have HLC := Lib.hid hlenc
    clear hTT hlenc hnx0
    go_wp2_with fail
    refine HTC.out.mono ?_
    rintro e w2 ⟨rfl, hb2⟩
    have HB2 := Lib.hid hb2
    clear hb2 e0 e1 e2 e3 e4
    go_wp2_with fail
    refine (HLC.out _).mono ?_
    rintro e w3 ⟨rfl, hb3⟩
    have HB3 := Lib.hid hb3
    clear hb3
    go_wp2
    go_ret
    have hg2lt : g < wr.heap.size := blockLt HG1.out
    refine ⟨?_, (HB3.out.block g (by have := HB2.out.size; omega)).trans ((HB2.out.block g hg2lt).trans HG1.out), HK1.out.trans (Keep.ofBelow ((HB2.out.mono (by omega)).trans (HB3.out.mono (by have := HB2.out.size; omega))))⟩
    rw [← HTT.out, ← bs_append, ← bs_append]
    rfl
end Go.Proofs.YtdfehaonngccjaaDoor

/- BerForms and BerText. -/
namespace Go.Proofs.YtdfehaonngccjaaDoor
open Go Go.RowKit Go.Proofs.YtdfehaonngccjaaDoorW.PrintWords Go.Proofs.YtdfehaonngccjaaDoorW.PrintLast Go.Proofs.YtdfehaonngccjaaDoorW.PrintMore

theorem forms_nil (w0 : World) (Ac : Option Addr) (cc : Nat) (hch : Kd.C (Kd.int .u8) w0 Ac ([] : List UInt8).length (([] : List UInt8).map fun x => (x.toNat : Int))) : ∀ n, FormsHolds w0 [] Ac cc n
  | 0 => fun c b t data items h => absurd h (Nat.not_lt_zero _)
  | n + 1 => forms_none w0 [] rfl Ac cc hch (by simp) n (forms_nil w0 Ac cc hch n)

set_option maxRecDepth 100000 in
set_option maxHeartbeats 4000000 in
theorem berForms_call (w : World) (ch : List UInt8) (Ac : Option Addr) (cc : Nat) (hf : ∀ n, FormsHolds w ch Ac cc n) (c : Nat) (b : Bool) (t : Nat) (data : List UInt8) (items : List Ber.Pk) (hok : Ber.OK (.mk c b t data items)) (A : Option Addr) (cp : Nat) (T : List UInt8) (a2 : Nat)
    (hT : Ber.forms ch (.mk c b t data items) 0 = (T, a2)) (ha2 : a2 ≤ 1000000000) (hTl : T.length ≤ 1000000000) (hC : Kd.C PFnBerForms.k26 w A items.length (spSs items)) (hcp : items.length ≤ cp) :
    Calls Tryd.prog 14 #[.agg #[.int .u8 (c : Int), .bool b, .int .u64 (t : Int), .string (bs data), .slice A items.length cp], .slice Ac ch.length cc] w fun e w' => e = .returned (.string (bs T)) ∧ Below w.heap.size w w' := by
  obtain ⟨W2, hW2⟩ : ∃ W2, W2 = (w.alloc (.cells #[.int .u8 (c : Int), .bool b, .int .u64 (t : Int), .string (bs data), .slice A items.length cp] 26)).alloc (.cells #[.int .i64 0] 3) := ⟨_, rfl⟩
  have hB : Below w.heap.size w W2 := by rw [hW2]; exact ((Below.refl _ w).alloc (Nat.le_refl _) _).alloc (by simp) _
  have hs : W2.heap.size = w.heap.size + 2 := by rw [hW2]; simp
  have hg : W2.heap[w.heap.size + 1]? = some (.cells #[.int .i64 ((0 : Nat) : Int)] 3 (0, 0)) := by
    rw [hW2]
    exact alloc2_new w _ _
  have hcall := hf _ c b t data items (Nat.lt_succ_self _) hok W2 (w.heap.size + 1) 0 A cp T a2 hT hB (by omega) hg ha2 hTl hC hcp
  have HCALL := Lib.hid hcall
  have HW2 := Lib.hid hW2
  have HS := Lib.hid hs
  have HB := Lib.hid hB
  clear hcall hs hg hB hT hC hf hW2
  go_enter Tryd.func14, Tryd.ntmps14
  go_wp2_with fail
  rw [← HW2.out]
  refine HCALL.out.mono ?_
  rintro e w2 ⟨rfl, -, hk⟩
  have HK := Lib.hid hk
  clear hk
  go_wp2
  go_ret
  exact ⟨rfl, HB.out.trans ((HK.out.mono (by have := HS.out; omega)).toBelow (by omega))⟩

set_option maxRecDepth 100000 in
set_option maxHeartbeats 4000000 in
theorem berText_call (w : World) (c : Nat) (b : Bool) (t : Nat) (data : List UInt8) (items : List Ber.Pk) (hok : Ber.OK (.mk c b t data items)) (A : Option Addr) (cp : Nat) (T : List UInt8) (a2 : Nat)
    (hT : Ber.forms [] (.mk c b t data items) 0 = (T, a2)) (ha2 : a2 ≤ 1000000000) (hTl : T.length ≤ 1000000000) (hC : Kd.C PFnBerForms.k26 w A items.length (spSs items)) (hcp : items.length ≤ cp) :
    Calls Tryd.prog 17 #[.agg #[.int .u8 (c : Int), .bool b, .int .u64 (t : Int), .string (bs data), .slice A items.length cp]] w fun e w' => e = .returned (.string (bs T)) ∧ Below w.heap.size w w' := by
  obtain ⟨W2, hW2⟩ : ∃ W2, W2 = w.alloc (.cells #[.int .u8 (c : Int), .bool b, .int .u64 (t : Int), .string (bs data), .slice A items.length cp] 26) := ⟨_, rfl⟩
  have hB : Below w.heap.size w W2 := by rw [hW2]; exact (Below.refl _ w).alloc (Nat.le_refl _) _
  have hcall := berForms_call W2 [] none 0 (forms_nil W2 none 0 (Kd.C_nil _ _)) c b t data items hok A cp T a2 hT ha2 hTl (Kd.C_below hC hB) hcp
  have HCALL := Lib.hid hcall
  have HW2 := Lib.hid hW2
  have HB := Lib.hid hB
  clear hcall hB hT hC hW2
  go_enter Tryd.func17, Tryd.ntmps17
  go_wp2_with fail
  rw [← HW2.out]
  refine HCALL.out.mono ?_
  rintro e w2 ⟨rfl, hk⟩
  have HK := Lib.hid hk
  clear hk
  go_wp2
  go_ret
  exact ⟨rfl, HB.out.trans (HK.out.mono HB.out.size)⟩
end Go.Proofs.YtdfehaonngccjaaDoor

/- berAwake: an integer is read. -/
namespace Go.Proofs.YtdfehaonngccjaaDoor
open Go Go.RowKit Go.Proofs.YtdfehaonngccjaaDoorW.PrintWords Go.Proofs.YtdfehaonngccjaaDoorW.PrintLast Go.Proofs.YtdfehaonngccjaaDoorW.PrintMore

theorem awake_read : Ber.readP 5 0 (⟨#[2, 1, 7]⟩ : ByteArray).data.toList = .ok (.mk 0 false 2 [7] []) [] := by
  simp [Ber.readP, Ber.header, Ber.ident, Ber.lenOf, Ber.prim, Ber.known]

set_option maxRecDepth 100000 in
set_option maxHeartbeats 4000000 in
theorem awake (N : Nat) (w : World) (hE : Env N w) (hN : N ≤ w.heap.size) :
    Calls Tryd.prog 7 #[] w fun e w' => e = .returned (.bool true) ∧ Below w.heap.size w w' := by
  have hr := ber_read N w ⟨#[2, 1, 7]⟩ hE hN (by decide) 5 _ awake_read (by simp)
  have HR := Lib.hid hr
  clear hr hE
  go_enter Tryd.func7, Tryd.ntmps7
  go_wp2_with fail
  refine HR.out.mono ?_
  rintro e w1 ⟨⟨v4, rfl, hv4⟩, hb⟩
  simp only [toS, toSs] at hv4 ⊢
  obtain ⟨Ao, co, eo⟩ := Kd.R_slice hv4
  subst eo
  have HB := Lib.hid hb
  clear hb hv4
  go_wp2
  go_ret
  exact ⟨rfl, HB.out.alloc HB.out.size _⟩
end Go.Proofs.YtdfehaonngccjaaDoor

/- FnBerValues: the walk. -/
namespace Go.Proofs.YtdfehaonngccjaaDoor
open Go Go.RowKit Go.Proofs.YtdfehaonngccjaaDoorW.PrintWords Go.Proofs.YtdfehaonngccjaaDoorW.PrintLast Go.Proofs.YtdfehaonngccjaaDoorW.PrintMore

theorem lenForm_one (n : Nat) (h : n ≤ 200) : Ber.lenForm n 0 = if n < 128 then [UInt8.ofNat n] else [129, UInt8.ofNat n] := by
  unfold Ber.lenForm
  by_cases h1 : n < 128
  · rw [if_pos ⟨h1, rfl⟩, if_pos h1]
  · rw [if_neg (by omega), if_neg h1]
    simp only [Ber.digits]
    rw [if_pos (by omega)]
    rfl

theorem read_value (t : Nat) (ht : t = 1 ∨ t = 2 ∨ t = 10 ∨ t = 4) (data : List UInt8) (h : data.length ≤ 200) :
    Ber.forms [] (.mk 0 false t data []) 0 = (UInt8.ofNat t :: (Ber.lenForm data.length 0 ++ data), 0) ∧
    Ber.readP 5 0 (UInt8.ofNat t :: (Ber.lenForm data.length 0 ++ data)) = .ok (.mk 0 false t data []) [] := by
  constructor
  · simp only [Ber.forms, Ber.formsL, Ber.way, Ber.next, if_true, Ber.formText]
    rw [if_neg (by omega)]
    unfold Ber.identBytes
    rw [if_pos (by omega)]
    simp
  · have hk : Ber.known 0 t = true := by rcases ht with rfl | rfl | rfl | rfl <;> rfl
    have hid : ∀ s, Ber.ident (UInt8.ofNat t :: s) = some (0, false, t, s) := by
      intro s
      simp only [Ber.ident]
      have e : (UInt8.ofNat t).toNat = t := by rcases ht with rfl | rfl | rfl | rfl <;> rfl
      rw [e, if_neg (by omega), show t / 64 = 0 by omega, show t % 32 = t by omega, show t / 32 % 2 = 0 by omega]
      rfl
    have hlen : Ber.lenOf (Ber.lenForm data.length 0 ++ data) = some (some data.length, data) := by
      rw [lenForm_one _ h]
      by_cases h1 : data.length < 128
      · rw [if_pos h1]
        simp only [List.cons_append, List.nil_append, Ber.lenOf]
        have e : (UInt8.ofNat data.length).toNat = data.length := by simp; omega
        rw [e, if_neg (by omega), if_neg (by omega), if_pos h1]
      · rw [if_neg h1]
        have e : (UInt8.ofNat data.length).toNat = data.length := by simp; omega
        simp only [List.cons_append, List.nil_append, Ber.lenOf]
        have e9 : (129 : UInt8).toNat = 129 := rfl
        rw [e9, if_neg (by omega), if_neg (by omega), if_neg (by omega), if_neg (by omega), if_neg (by simp), if_neg (by simp [Ber.be]; omega)]
        simp [Ber.be]
        omega
    have hh : Ber.header (UInt8.ofNat t :: (Ber.lenForm data.length 0 ++ data)) = some (0, false, t, some data.length, data) := by
      unfold Ber.header
      rw [hid]
      simp only [hlen]
      rw [if_neg (by simp)]
    simp only [Ber.readP]
    rw [if_neg (by omega), hh]
    simp only []
    rw [if_neg (by omega)]
    simp only [Bool.false_eq_true, if_false]
    unfold Ber.prim
    by_cases h0 : data.length = 0
    · rw [if_pos h0, if_pos hk]
      have : data = [] := List.length_eq_zero_iff.1 h0
      subst this
      rfl
    · rw [if_neg h0, if_neg (by omega), if_neg (by omega), if_pos hk]
      simp


theorem parse_one (x : UInt8) : parseOf [x] = if x.toNat < 128 then (x.toNat : Int) else (x.toNat : Int) - 256 := by
  unfold parseOf
  simp [Ber.be]

set_option maxRecDepth 100000 in
set_option maxHeartbeats 8000000 in
theorem law_values (N : Nat) (w : World) (hE : Env N w) (hN : N ≤ w.heap.size) (k : Nat) (hk : k < 256) (l : List UInt8) :
    Calls Tryd.prog 5 #[.int .u8 (k : Int), .string (bs l)] w fun e w' => e = .returned (.bool true) ∧ Below w.heap.size w w' := by
  have hsz := bs_size l
  have HE := Lib.hid hE
  clear hE
  go_enter Tryd.func5, Tryd.ntmps5
  by_cases h1 : 2147483647 < l.length
  · go_wp2
    go_ret
    exact ⟨rfl, Below.refl _ _⟩
  · by_cases h2 : 200 < l.length
    · go_wp2_with fail
      refine (awake N w HE.out hN).mono ?_
      rintro e w1 ⟨rfl, hb⟩
      have HB := Lib.hid hb
      clear hb
      go_wp2
      go_ret
      exact ⟨rfl, HB.out⟩
    · have hk4 : k % 4 = 0 ∨ k % 4 = 1 ∨ k % 4 = 2 ∨ k % 4 = 3 := by omega
      rcases hk4 with h4 | h4 | h4 | h4
      · have h4i : (k : Int) % 4 = 0 := by omega
        by_cases hl1 : l.length = 1
        · go_wp2_with fail
          · obtain ⟨Wc, hWc⟩ : ∃ Wc, Wc = (w.alloc (.cells #[.int .u64 1, .int .u64 2, .int .u64 4, .int .u64 10] 23)).alloc (.cells #[.int .i64 1, .int .i64 1, .string ⟨#[]⟩] 43) := ⟨_, rfl⟩
            have hWB : Below w.heap.size w Wc := by rw [hWc]; exact ((Below.refl _ w).alloc (Nat.le_refl _) _).alloc (by simp) _
            have hWG : Wc.heap[w.heap.size + 1]? = some (.cells #[.int .i64 1, .int .i64 1, .string ⟨#[]⟩] 43 (0, 0)) := by rw [hWc]; exact alloc2_new w _ _
            rw [← hWc]
            have HWB := Lib.hid hWB
            have HWG := Lib.hid hWG
            clear hWB hWG hWc
            have hrv := read_value 1 (Or.inl rfl) l (by omega)
            have hTl : (UInt8.ofNat 1 :: (Ber.lenForm l.length 0 ++ l)).length ≤ 1000 := by
              rw [lenForm_one _ (by omega)]
              split <;> simp <;> omega
            have hv : valueOf 1 l = .agg #[.int .i64 1, .int .i64 1, .string ⟨#[]⟩] := by 
              obtain ⟨x, rfl⟩ : ∃ x, l = [x] := by
                cases l with
                | nil => simp at hl1
                | cons a r => cases r with
                  | nil => exact ⟨a, rfl⟩
                  | cons b r => simp at hl1
              unfold valueOf
              rw [if_pos rfl]
              have hx := x.toNat_lt
              have hp := parse_one x
              have h9 := ‹(((bs [x])[0].toNat : Int) != 0) = true›
              have h8 : (bs [x])[0] = x := rfl
              rw [h8] at h9
              rw [hp]
              by_cases h0 : x.toNat = 0
              · rw [h0] at h9; simp at h9
              · have hne : ((if x.toNat < 128 then (x.toNat : Int) else (x.toNat : Int) - 256) != 0) = true := by
                  rw [bne_iff_ne]; split <;> omega
                rw [hne]; rfl
            have hok : Ber.OK (.mk 0 false 1 l []) := ⟨by omega, by decide, trivial⟩
            obtain ⟨T, hT⟩ : ∃ T, T = (UInt8.ofNat 1 :: (Ber.lenForm l.length 0 ++ l)) := ⟨_, rfl⟩
            rw [← hT] at hrv hTl
            refine (berText_call Wc 0 false 1 l [] hok none 0 T 0 hrv.1 (by omega) (by omega) (Kd.C_nil _ _) (Nat.zero_le _)).mono ?_
            rintro e w2 ⟨rfl, hb2⟩
            have hbel : Below w.heap.size w w2 := HWB.out.trans (hb2.mono HWB.out.size)
            have hg2 : w2.heap[w.heap.size + 1]? = _ := (hb2.block _ (blockLt HWG.out)).trans HWG.out
            have hval := berValue_call N w2 (bs T) (HE.out.below hbel hN) (by have := hbel.size; omega) (by rw [bs_size]; omega) 5 1 l hrv.2 (Or.inl rfl)
            have HVAL := Lib.hid hval
            have HV := Lib.hid hv
            have HG2 := Lib.hid hg2
            have HBEL := Lib.hid hbel
            clear hval hg2 hbel hb2 hrv hTl hT hok hv
            go_wp2_with fail
            refine HVAL.out.mono ?_
            rintro e w3 ⟨rfl, hb3⟩
            rw [HV.out]
            have hbel3 : Below w.heap.size w w3 := HBEL.out.trans (hb3.mono HBEL.out.size)
            obtain ⟨w4, hw4⟩ : ∃ w4, w4 = w3.alloc (.cells #[.int .i64 1, .int .i64 1, .string ⟨#[]⟩] 43) := ⟨_, rfl⟩
            have hbel4 : Below w.heap.size w w4 := by rw [hw4]; exact hbel3.alloc hbel3.size _
            have hn4 : w4.heap[w3.heap.size]? = some (.cells #[.int .i64 1, .int .i64 1, .string ⟨#[]⟩] 43 (0, 0)) := by rw [hw4]; exact heap_alloc_new w3 _
            have hg4 : w4.heap[w.heap.size + 1]? = some (.cells #[.int .i64 1, .int .i64 1, .string ⟨#[]⟩] 43 (0, 0)) := by
              rw [hw4]
              exact (Below.heap_alloc w3 _ _ (by have := blockLt HG2.out; have := hb3.size; omega)).trans ((hb3.block _ (blockLt HG2.out)).trans HG2.out)
            have hsz4 : w4.heap.size = w3.heap.size + 1 := by rw [hw4]; simp
            have HBEL4 := Lib.hid hbel4
            have HN4 := Lib.hid hn4
            have HG4 := Lib.hid hg4
            have HW4 := Lib.hid hw4
            clear hbel3 hbel4 hn4 hg4 hw4 hb3 hsz4
            go_wp2_with fail
            rw [← HW4.out]
            refine (awake N w4 (HE.out.below HBEL4.out hN) (by have := HBEL4.out.size; omega)).mono ?_
            rintro e w5 ⟨rfl, hb5⟩
            have n0 := blockCell ((hb5.block _ (blockLt HN4.out)).trans HN4.out) 0
            have n1 := blockCell ((hb5.block _ (blockLt HN4.out)).trans HN4.out) 1
            have n2 := blockCell ((hb5.block _ (blockLt HN4.out)).trans HN4.out) 2
            have g0 := blockCell ((hb5.block _ (blockLt HG4.out)).trans HG4.out) 0
            have g1 := blockCell ((hb5.block _ (blockLt HG4.out)).trans HG4.out) 1
            have g2 := blockCell ((hb5.block _ (blockLt HG4.out)).trans HG4.out) 2
            simp only [List.getElem?_toArray, List.getElem?_cons_zero, List.getElem?_cons_succ] at n0 n1 n2 g0 g1 g2
            have HB5 := Lib.hid (HBEL4.out.trans (hb5.mono HBEL4.out.size))
            clear hb5
            go_wp2
            go_ret
            exact ⟨rfl, HB5.out⟩
          · obtain ⟨Wc, hWc⟩ : ∃ Wc, Wc = (w.alloc (.cells #[.int .u64 1, .int .u64 2, .int .u64 4, .int .u64 10] 23)).alloc (.cells #[.int .i64 1, .int .i64 0, .string ⟨#[]⟩] 43) := ⟨_, rfl⟩
            have hWB : Below w.heap.size w Wc := by rw [hWc]; exact ((Below.refl _ w).alloc (Nat.le_refl _) _).alloc (by simp) _
            have hWG : Wc.heap[w.heap.size + 1]? = some (.cells #[.int .i64 1, .int .i64 0, .string ⟨#[]⟩] 43 (0, 0)) := by rw [hWc]; exact alloc2_new w _ _
            rw [← hWc]
            have HWB := Lib.hid hWB
            have HWG := Lib.hid hWG
            clear hWB hWG hWc
            have hrv := read_value 1 (Or.inl rfl) l (by omega)
            have hTl : (UInt8.ofNat 1 :: (Ber.lenForm l.length 0 ++ l)).length ≤ 1000 := by
              rw [lenForm_one _ (by omega)]
              split <;> simp <;> omega
            have hv : valueOf 1 l = .agg #[.int .i64 1, .int .i64 0, .string ⟨#[]⟩] := by 
              obtain ⟨x, rfl⟩ : ∃ x, l = [x] := by
                cases l with
                | nil => simp at hl1
                | cons a r => cases r with
                  | nil => exact ⟨a, rfl⟩
                  | cons b r => simp at hl1
              unfold valueOf
              rw [if_pos rfl]
              have hx := x.toNat_lt
              have hp := parse_one x
              have h9 := ‹(((bs [x])[0].toNat : Int) != 0) = false›
              have h8 : (bs [x])[0] = x := rfl
              rw [h8] at h9
              rw [hp]
              by_cases h0 : x.toNat = 0
              · rw [h0] at h9; simp at h9; rw [h0]; rfl
              · have hne : ((if x.toNat < 128 then (x.toNat : Int) else (x.toNat : Int) - 256) != 0) = true := by
                  rw [bne_iff_ne]; split <;> omega
                exfalso; simp at h9; omega
            have hok : Ber.OK (.mk 0 false 1 l []) := ⟨by omega, by decide, trivial⟩
            obtain ⟨T, hT⟩ : ∃ T, T = (UInt8.ofNat 1 :: (Ber.lenForm l.length 0 ++ l)) := ⟨_, rfl⟩
            rw [← hT] at hrv hTl
            refine (berText_call Wc 0 false 1 l [] hok none 0 T 0 hrv.1 (by omega) (by omega) (Kd.C_nil _ _) (Nat.zero_le _)).mono ?_
            rintro e w2 ⟨rfl, hb2⟩
            have hbel : Below w.heap.size w w2 := HWB.out.trans (hb2.mono HWB.out.size)
            have hg2 : w2.heap[w.heap.size + 1]? = _ := (hb2.block _ (blockLt HWG.out)).trans HWG.out
            have hval := berValue_call N w2 (bs T) (HE.out.below hbel hN) (by have := hbel.size; omega) (by rw [bs_size]; omega) 5 1 l hrv.2 (Or.inl rfl)
            have HVAL := Lib.hid hval
            have HV := Lib.hid hv
            have HG2 := Lib.hid hg2
            have HBEL := Lib.hid hbel
            clear hval hg2 hbel hb2 hrv hTl hT hok hv
            go_wp2_with fail
            refine HVAL.out.mono ?_
            rintro e w3 ⟨rfl, hb3⟩
            rw [HV.out]
            have hbel3 : Below w.heap.size w w3 := HBEL.out.trans (hb3.mono HBEL.out.size)
            obtain ⟨w4, hw4⟩ : ∃ w4, w4 = w3.alloc (.cells #[.int .i64 1, .int .i64 0, .string ⟨#[]⟩] 43) := ⟨_, rfl⟩
            have hbel4 : Below w.heap.size w w4 := by rw [hw4]; exact hbel3.alloc hbel3.size _
            have hn4 : w4.heap[w3.heap.size]? = some (.cells #[.int .i64 1, .int .i64 0, .string ⟨#[]⟩] 43 (0, 0)) := by rw [hw4]; exact heap_alloc_new w3 _
            have hg4 : w4.heap[w.heap.size + 1]? = some (.cells #[.int .i64 1, .int .i64 0, .string ⟨#[]⟩] 43 (0, 0)) := by
              rw [hw4]
              exact (Below.heap_alloc w3 _ _ (by have := blockLt HG2.out; have := hb3.size; omega)).trans ((hb3.block _ (blockLt HG2.out)).trans HG2.out)
            have hsz4 : w4.heap.size = w3.heap.size + 1 := by rw [hw4]; simp
            have HBEL4 := Lib.hid hbel4
            have HN4 := Lib.hid hn4
            have HG4 := Lib.hid hg4
            have HW4 := Lib.hid hw4
            clear hbel3 hbel4 hn4 hg4 hw4 hb3 hsz4
            go_wp2_with fail
            rw [← HW4.out]
            refine (awake N w4 (HE.out.below HBEL4.out hN) (by have := HBEL4.out.size; omega)).mono ?_
            rintro e w5 ⟨rfl, hb5⟩
            have n0 := blockCell ((hb5.block _ (blockLt HN4.out)).trans HN4.out) 0
            have n1 := blockCell ((hb5.block _ (blockLt HN4.out)).trans HN4.out) 1
            have n2 := blockCell ((hb5.block _ (blockLt HN4.out)).trans HN4.out) 2
            have g0 := blockCell ((hb5.block _ (blockLt HG4.out)).trans HG4.out) 0
            have g1 := blockCell ((hb5.block _ (blockLt HG4.out)).trans HG4.out) 1
            have g2 := blockCell ((hb5.block _ (blockLt HG4.out)).trans HG4.out) 2
            simp only [List.getElem?_toArray, List.getElem?_cons_zero, List.getElem?_cons_succ] at n0 n1 n2 g0 g1 g2
            have HB5 := Lib.hid (HBEL4.out.trans (hb5.mono HBEL4.out.size))
            clear hb5
            go_wp2
            go_ret
            exact ⟨rfl, HB5.out⟩
        · go_wp2_with fail
          obtain ⟨Wc, hWc⟩ : ∃ Wc, Wc = (w.alloc (.cells #[.int .u64 1, .int .u64 2, .int .u64 4, .int .u64 10] 23)).alloc (.cells #[.int .i64 2, .int .i64 0, .string ⟨#[]⟩] 43) := ⟨_, rfl⟩
          have hWB : Below w.heap.size w Wc := by rw [hWc]; exact ((Below.refl _ w).alloc (Nat.le_refl _) _).alloc (by simp) _
          have hWG : Wc.heap[w.heap.size + 1]? = some (.cells #[.int .i64 2, .int .i64 0, .string ⟨#[]⟩] 43 (0, 0)) := by rw [hWc]; exact alloc2_new w _ _
          rw [← hWc]
          have HWB := Lib.hid hWB
          have HWG := Lib.hid hWG
          clear hWB hWG hWc
          refine (awake N _ (HE.out.below HWB.out hN) (by have := HWB.out.size; omega)).mono ?_
          rintro e w2 ⟨rfl, hb⟩
          have HB := Lib.hid (HWB.out.trans (hb.mono HWB.out.size))
          clear hb
          go_wp2
          go_ret
          exact ⟨rfl, HB.out⟩
      · have h4i : (k : Int) % 4 = 1 := by omega
        by_cases hl0 : l.length < 1
        · go_wp2_with fail
          obtain ⟨Wc, hWc⟩ : ∃ Wc, Wc = (w.alloc (.cells #[.int .u64 1, .int .u64 2, .int .u64 4, .int .u64 10] 23)).alloc (.cells #[.int .i64 2, .int .i64 0, .string ⟨#[]⟩] 43) := ⟨_, rfl⟩
          have hWB : Below w.heap.size w Wc := by rw [hWc]; exact ((Below.refl _ w).alloc (Nat.le_refl _) _).alloc (by simp) _
          have hWG : Wc.heap[w.heap.size + 1]? = some (.cells #[.int .i64 2, .int .i64 0, .string ⟨#[]⟩] 43 (0, 0)) := by rw [hWc]; exact alloc2_new w _ _
          rw [← hWc]
          have HWB := Lib.hid hWB
          have HWG := Lib.hid hWG
          clear hWB hWG hWc
          refine (awake N _ (HE.out.below HWB.out hN) (by have := HWB.out.size; omega)).mono ?_
          rintro e w2 ⟨rfl, hb⟩
          have HB := Lib.hid (HWB.out.trans (hb.mono HWB.out.size))
          clear hb
          go_wp2
          go_ret
          exact ⟨rfl, HB.out⟩
        · by_cases hl8 : 8 < l.length
          · go_wp2_with fail
            obtain ⟨Wc, hWc⟩ : ∃ Wc, Wc = (w.alloc (.cells #[.int .u64 1, .int .u64 2, .int .u64 4, .int .u64 10] 23)).alloc (.cells #[.int .i64 2, .int .i64 0, .string ⟨#[]⟩] 43) := ⟨_, rfl⟩
            have hWB : Below w.heap.size w Wc := by rw [hWc]; exact ((Below.refl _ w).alloc (Nat.le_refl _) _).alloc (by simp) _
            have hWG : Wc.heap[w.heap.size + 1]? = some (.cells #[.int .i64 2, .int .i64 0, .string ⟨#[]⟩] 43 (0, 0)) := by rw [hWc]; exact alloc2_new w _ _
            rw [← hWc]
            have HWB := Lib.hid hWB
            have HWG := Lib.hid hWG
            clear hWB hWG hWc
            refine (awake N _ (HE.out.below HWB.out hN) (by have := HWB.out.size; omega)).mono ?_
            rintro e w2 ⟨rfl, hb⟩
            have HB := Lib.hid (HWB.out.trans (hb.mono HWB.out.size))
            clear hb
            go_wp2
            go_ret
            exact ⟨rfl, HB.out⟩
          · go_wp2_with fail
            obtain ⟨Wc, hWc⟩ : ∃ Wc, Wc = (w.alloc (.cells #[.int .u64 1, .int .u64 2, .int .u64 4, .int .u64 10] 23)).alloc (.cells #[.int .i64 2, .int .i64 0, .string ⟨#[]⟩] 43) := ⟨_, rfl⟩
            have hWB : Below w.heap.size w Wc := by rw [hWc]; exact ((Below.refl _ w).alloc (Nat.le_refl _) _).alloc (by simp) _
            have hWG : Wc.heap[w.heap.size + 1]? = some (.cells #[.int .i64 2, .int .i64 0, .string ⟨#[]⟩] 43 (0, 0)) := by rw [hWc]; exact alloc2_new w _ _
            rw [← hWc]
            have HWB := Lib.hid hWB
            have HWG := Lib.hid hWG
            clear hWB hWG hWc
            refine (intOf_call Wc l (by omega) (by omega)).mono ?_
            rintro e w1 ⟨rfl, hs⟩
            have hw1 : w1.heap[w.heap.size + 1]? = _ := (congrArg (fun h => h[w.heap.size + 1]?) hs.heap).trans HWG.out
            have c1 := blockCell hw1 1
            have f1 := blockFrozen hw1 1
            simp only [List.getElem?_toArray, List.getElem?_cons_zero, List.getElem?_cons_succ] at c1
            obtain ⟨Wd, hWd⟩ : ∃ Wd, Wd = w1.setCell ⟨w.heap.size + 1, 1, none⟩ (.int .i64 (parseOf l)) := ⟨_, rfl⟩
            have hWBd : Below w.heap.size w Wd := by rw [hWd]; exact (HWB.out.trans ⟨hs.os, hs.tape, hs.output, by rw [hs.heap]; exact Nat.le_refl _, fun k _ => by rw [hs.heap]⟩).setCell (by simp) _
            have hWGd : Wd.heap[w.heap.size + 1]? = some (.cells #[.int .i64 2, .int .i64 (parseOf l), .string ⟨#[]⟩] 43 (0, 0)) := by rw [hWd]; have := blockSet hw1 1 (.int .i64 (parseOf l)); simpa using this
            have HWBd := Lib.hid hWBd
            have HWGd := Lib.hid hWGd
            have HWd := Lib.hid hWd
            clear hWBd hWGd hWd hw1 hs
            go_wp2_with fail
            rw [← HWd.out]
            clear c1 f1
            have hrv := read_value 2 (Or.inr (Or.inl rfl)) l (by omega)
            have hTl : (UInt8.ofNat 2 :: (Ber.lenForm l.length 0 ++ l)).length ≤ 1000 := by
              rw [lenForm_one _ (by omega)]
              split <;> simp <;> omega
            have hv : valueOf 2 l = .agg #[.int .i64 2, .int .i64 (parseOf l), .string ⟨#[]⟩] := by rfl
            have hok : Ber.OK (.mk 0 false 2 l []) := ⟨by omega, by decide, trivial⟩
            obtain ⟨T, hT⟩ : ∃ T, T = (UInt8.ofNat 2 :: (Ber.lenForm l.length 0 ++ l)) := ⟨_, rfl⟩
            rw [← hT] at hrv hTl
            refine (berText_call Wd 0 false 2 l [] hok none 0 T 0 hrv.1 (by omega) (by omega) (Kd.C_nil _ _) (Nat.zero_le _)).mono ?_
            rintro e w2 ⟨rfl, hb2⟩
            have hbel : Below w.heap.size w w2 := HWBd.out.trans (hb2.mono HWBd.out.size)
            have hg2 : w2.heap[w.heap.size + 1]? = _ := (hb2.block _ (blockLt HWGd.out)).trans HWGd.out
            have hval := berValue_call N w2 (bs T) (HE.out.below hbel hN) (by have := hbel.size; omega) (by rw [bs_size]; omega) 5 2 l hrv.2 (Or.inr (Or.inl rfl))
            have HVAL := Lib.hid hval
            have HV := Lib.hid hv
            have HG2 := Lib.hid hg2
            have HBEL := Lib.hid hbel
            clear hval hg2 hbel hb2 hrv hTl hT hok hv
            go_wp2_with fail
            refine HVAL.out.mono ?_
            rintro e w3 ⟨rfl, hb3⟩
            rw [HV.out]
            have hbel3 : Below w.heap.size w w3 := HBEL.out.trans (hb3.mono HBEL.out.size)
            obtain ⟨w4, hw4⟩ : ∃ w4, w4 = w3.alloc (.cells #[.int .i64 2, .int .i64 (parseOf l), .string ⟨#[]⟩] 43) := ⟨_, rfl⟩
            have hbel4 : Below w.heap.size w w4 := by rw [hw4]; exact hbel3.alloc hbel3.size _
            have hn4 : w4.heap[w3.heap.size]? = some (.cells #[.int .i64 2, .int .i64 (parseOf l), .string ⟨#[]⟩] 43 (0, 0)) := by rw [hw4]; exact heap_alloc_new w3 _
            have hg4 : w4.heap[w.heap.size + 1]? = some (.cells #[.int .i64 2, .int .i64 (parseOf l), .string ⟨#[]⟩] 43 (0, 0)) := by
              rw [hw4]
              exact (Below.heap_alloc w3 _ _ (by have := blockLt HG2.out; have := hb3.size; omega)).trans ((hb3.block _ (blockLt HG2.out)).trans HG2.out)
            have hsz4 : w4.heap.size = w3.heap.size + 1 := by rw [hw4]; simp
            have HBEL4 := Lib.hid hbel4
            have HN4 := Lib.hid hn4
            have HG4 := Lib.hid hg4
            have HW4 := Lib.hid hw4
            clear hbel3 hbel4 hn4 hg4 hw4 hb3 hsz4
            go_wp2_with fail
            rw [← HW4.out]
            refine (awake N w4 (HE.out.below HBEL4.out hN) (by have := HBEL4.out.size; omega)).mono ?_
            rintro e w5 ⟨rfl, hb5⟩
            have n0 := blockCell ((hb5.block _ (blockLt HN4.out)).trans HN4.out) 0
            have n1 := blockCell ((hb5.block _ (blockLt HN4.out)).trans HN4.out) 1
            have n2 := blockCell ((hb5.block _ (blockLt HN4.out)).trans HN4.out) 2
            have g0 := blockCell ((hb5.block _ (blockLt HG4.out)).trans HG4.out) 0
            have g1 := blockCell ((hb5.block _ (blockLt HG4.out)).trans HG4.out) 1
            have g2 := blockCell ((hb5.block _ (blockLt HG4.out)).trans HG4.out) 2
            simp only [List.getElem?_toArray, List.getElem?_cons_zero, List.getElem?_cons_succ] at n0 n1 n2 g0 g1 g2
            have HB5 := Lib.hid (HBEL4.out.trans (hb5.mono HBEL4.out.size))
            clear hb5
            go_wp2
            go_ret
            exact ⟨rfl, HB5.out⟩
      · have h4i : (k : Int) % 4 = 2 := by omega
        go_wp2_with fail
        obtain ⟨Wc, hWc⟩ : ∃ Wc, Wc = (w.alloc (.cells #[.int .u64 1, .int .u64 2, .int .u64 4, .int .u64 10] 23)).alloc (.cells #[.int .i64 3, .int .i64 0, .string (bs l)] 43) := ⟨_, rfl⟩
        have hWB : Below w.heap.size w Wc := by rw [hWc]; exact ((Below.refl _ w).alloc (Nat.le_refl _) _).alloc (by simp) _
        have hWG : Wc.heap[w.heap.size + 1]? = some (.cells #[.int .i64 3, .int .i64 0, .string (bs l)] 43 (0, 0)) := by rw [hWc]; exact alloc2_new w _ _
        rw [← hWc]
        have HWB := Lib.hid hWB
        have HWG := Lib.hid hWG
        clear hWB hWG hWc
        have hrv := read_value 4 (Or.inr (Or.inr (Or.inr rfl))) l (by omega)
        have hTl : (UInt8.ofNat 4 :: (Ber.lenForm l.length 0 ++ l)).length ≤ 1000 := by
          rw [lenForm_one _ (by omega)]
          split <;> simp <;> omega
        have hv : valueOf 4 l = .agg #[.int .i64 3, .int .i64 0, .string (bs l)] := by rfl
        have hok : Ber.OK (.mk 0 false 4 l []) := ⟨by omega, by decide, trivial⟩
        obtain ⟨T, hT⟩ : ∃ T, T = (UInt8.ofNat 4 :: (Ber.lenForm l.length 0 ++ l)) := ⟨_, rfl⟩
        rw [← hT] at hrv hTl
        refine (berText_call Wc 0 false 4 l [] hok none 0 T 0 hrv.1 (by omega) (by omega) (Kd.C_nil _ _) (Nat.zero_le _)).mono ?_
        rintro e w2 ⟨rfl, hb2⟩
        have hbel : Below w.heap.size w w2 := HWB.out.trans (hb2.mono HWB.out.size)
        have hg2 : w2.heap[w.heap.size + 1]? = _ := (hb2.block _ (blockLt HWG.out)).trans HWG.out
        have hval := berValue_call N w2 (bs T) (HE.out.below hbel hN) (by have := hbel.size; omega) (by rw [bs_size]; omega) 5 4 l hrv.2 (Or.inr (Or.inr (Or.inr rfl)))
        have HVAL := Lib.hid hval
        have HV := Lib.hid hv
        have HG2 := Lib.hid hg2
        have HBEL := Lib.hid hbel
        clear hval hg2 hbel hb2 hrv hTl hT hok hv
        go_wp2_with fail
        refine HVAL.out.mono ?_
        rintro e w3 ⟨rfl, hb3⟩
        rw [HV.out]
        have hbel3 : Below w.heap.size w w3 := HBEL.out.trans (hb3.mono HBEL.out.size)
        obtain ⟨w4, hw4⟩ : ∃ w4, w4 = w3.alloc (.cells #[.int .i64 3, .int .i64 0, .string (bs l)] 43) := ⟨_, rfl⟩
        have hbel4 : Below w.heap.size w w4 := by rw [hw4]; exact hbel3.alloc hbel3.size _
        have hn4 : w4.heap[w3.heap.size]? = some (.cells #[.int .i64 3, .int .i64 0, .string (bs l)] 43 (0, 0)) := by rw [hw4]; exact heap_alloc_new w3 _
        have hg4 : w4.heap[w.heap.size + 1]? = some (.cells #[.int .i64 3, .int .i64 0, .string (bs l)] 43 (0, 0)) := by
          rw [hw4]
          exact (Below.heap_alloc w3 _ _ (by have := blockLt HG2.out; have := hb3.size; omega)).trans ((hb3.block _ (blockLt HG2.out)).trans HG2.out)
        have hsz4 : w4.heap.size = w3.heap.size + 1 := by rw [hw4]; simp
        have HBEL4 := Lib.hid hbel4
        have HN4 := Lib.hid hn4
        have HG4 := Lib.hid hg4
        have HW4 := Lib.hid hw4
        clear hbel3 hbel4 hn4 hg4 hw4 hb3 hsz4
        go_wp2_with fail
        rw [← HW4.out]
        refine (awake N w4 (HE.out.below HBEL4.out hN) (by have := HBEL4.out.size; omega)).mono ?_
        rintro e w5 ⟨rfl, hb5⟩
        have n0 := blockCell ((hb5.block _ (blockLt HN4.out)).trans HN4.out) 0
        have n1 := blockCell ((hb5.block _ (blockLt HN4.out)).trans HN4.out) 1
        have n2 := blockCell ((hb5.block _ (blockLt HN4.out)).trans HN4.out) 2
        have g0 := blockCell ((hb5.block _ (blockLt HG4.out)).trans HG4.out) 0
        have g1 := blockCell ((hb5.block _ (blockLt HG4.out)).trans HG4.out) 1
        have g2 := blockCell ((hb5.block _ (blockLt HG4.out)).trans HG4.out) 2
        simp only [List.getElem?_toArray, List.getElem?_cons_zero, List.getElem?_cons_succ] at n0 n1 n2 g0 g1 g2
        have HB5 := Lib.hid (HBEL4.out.trans (hb5.mono HBEL4.out.size))
        clear hb5
        go_wp2
        go_ret
        exact ⟨rfl, HB5.out⟩
      · have h4i : (k : Int) % 4 = 3 := by omega
        by_cases hl0 : l.length < 1
        · go_wp2_with fail
          obtain ⟨Wc, hWc⟩ : ∃ Wc, Wc = (w.alloc (.cells #[.int .u64 1, .int .u64 2, .int .u64 4, .int .u64 10] 23)).alloc (.cells #[.int .i64 2, .int .i64 0, .string ⟨#[]⟩] 43) := ⟨_, rfl⟩
          have hWB : Below w.heap.size w Wc := by rw [hWc]; exact ((Below.refl _ w).alloc (Nat.le_refl _) _).alloc (by simp) _
          have hWG : Wc.heap[w.heap.size + 1]? = some (.cells #[.int .i64 2, .int .i64 0, .string ⟨#[]⟩] 43 (0, 0)) := by rw [hWc]; exact alloc2_new w _ _
          rw [← hWc]
          have HWB := Lib.hid hWB
          have HWG := Lib.hid hWG
          clear hWB hWG hWc
          refine (awake N _ (HE.out.below HWB.out hN) (by have := HWB.out.size; omega)).mono ?_
          rintro e w2 ⟨rfl, hb⟩
          have HB := Lib.hid (HWB.out.trans (hb.mono HWB.out.size))
          clear hb
          go_wp2
          go_ret
          exact ⟨rfl, HB.out⟩
        · by_cases hl8 : 8 < l.length
          · go_wp2_with fail
            obtain ⟨Wc, hWc⟩ : ∃ Wc, Wc = (w.alloc (.cells #[.int .u64 1, .int .u64 2, .int .u64 4, .int .u64 10] 23)).alloc (.cells #[.int .i64 2, .int .i64 0, .string ⟨#[]⟩] 43) := ⟨_, rfl⟩
            have hWB : Below w.heap.size w Wc := by rw [hWc]; exact ((Below.refl _ w).alloc (Nat.le_refl _) _).alloc (by simp) _
            have hWG : Wc.heap[w.heap.size + 1]? = some (.cells #[.int .i64 2, .int .i64 0, .string ⟨#[]⟩] 43 (0, 0)) := by rw [hWc]; exact alloc2_new w _ _
            rw [← hWc]
            have HWB := Lib.hid hWB
            have HWG := Lib.hid hWG
            clear hWB hWG hWc
            refine (awake N _ (HE.out.below HWB.out hN) (by have := HWB.out.size; omega)).mono ?_
            rintro e w2 ⟨rfl, hb⟩
            have HB := Lib.hid (HWB.out.trans (hb.mono HWB.out.size))
            clear hb
            go_wp2
            go_ret
            exact ⟨rfl, HB.out⟩
          · go_wp2_with fail
            obtain ⟨Wc, hWc⟩ : ∃ Wc, Wc = (w.alloc (.cells #[.int .u64 1, .int .u64 2, .int .u64 4, .int .u64 10] 23)).alloc (.cells #[.int .i64 2, .int .i64 0, .string ⟨#[]⟩] 43) := ⟨_, rfl⟩
            have hWB : Below w.heap.size w Wc := by rw [hWc]; exact ((Below.refl _ w).alloc (Nat.le_refl _) _).alloc (by simp) _
            have hWG : Wc.heap[w.heap.size + 1]? = some (.cells #[.int .i64 2, .int .i64 0, .string ⟨#[]⟩] 43 (0, 0)) := by rw [hWc]; exact alloc2_new w _ _
            rw [← hWc]
            have HWB := Lib.hid hWB
            have HWG := Lib.hid hWG
            clear hWB hWG hWc
            refine (intOf_call Wc l (by omega) (by omega)).mono ?_
            rintro e w1 ⟨rfl, hs⟩
            have hw1 : w1.heap[w.heap.size + 1]? = _ := (congrArg (fun h => h[w.heap.size + 1]?) hs.heap).trans HWG.out
            have c1 := blockCell hw1 1
            have f1 := blockFrozen hw1 1
            simp only [List.getElem?_toArray, List.getElem?_cons_zero, List.getElem?_cons_succ] at c1
            obtain ⟨Wd, hWd⟩ : ∃ Wd, Wd = w1.setCell ⟨w.heap.size + 1, 1, none⟩ (.int .i64 (parseOf l)) := ⟨_, rfl⟩
            have hWBd : Below w.heap.size w Wd := by rw [hWd]; exact (HWB.out.trans ⟨hs.os, hs.tape, hs.output, by rw [hs.heap]; exact Nat.le_refl _, fun k _ => by rw [hs.heap]⟩).setCell (by simp) _
            have hWGd : Wd.heap[w.heap.size + 1]? = some (.cells #[.int .i64 2, .int .i64 (parseOf l), .string ⟨#[]⟩] 43 (0, 0)) := by rw [hWd]; have := blockSet hw1 1 (.int .i64 (parseOf l)); simpa using this
            have HWBd := Lib.hid hWBd
            have HWGd := Lib.hid hWGd
            have HWd := Lib.hid hWd
            clear hWBd hWGd hWd hw1 hs
            go_wp2_with fail
            rw [← HWd.out]
            clear c1 f1
            have hrv := read_value 10 (Or.inr (Or.inr (Or.inl rfl))) l (by omega)
            have hTl : (UInt8.ofNat 10 :: (Ber.lenForm l.length 0 ++ l)).length ≤ 1000 := by
              rw [lenForm_one _ (by omega)]
              split <;> simp <;> omega
            have hv : valueOf 10 l = .agg #[.int .i64 2, .int .i64 (parseOf l), .string ⟨#[]⟩] := by rfl
            have hok : Ber.OK (.mk 0 false 10 l []) := ⟨by omega, by decide, trivial⟩
            obtain ⟨T, hT⟩ : ∃ T, T = (UInt8.ofNat 10 :: (Ber.lenForm l.length 0 ++ l)) := ⟨_, rfl⟩
            rw [← hT] at hrv hTl
            refine (berText_call Wd 0 false 10 l [] hok none 0 T 0 hrv.1 (by omega) (by omega) (Kd.C_nil _ _) (Nat.zero_le _)).mono ?_
            rintro e w2 ⟨rfl, hb2⟩
            have hbel : Below w.heap.size w w2 := HWBd.out.trans (hb2.mono HWBd.out.size)
            have hg2 : w2.heap[w.heap.size + 1]? = _ := (hb2.block _ (blockLt HWGd.out)).trans HWGd.out
            have hval := berValue_call N w2 (bs T) (HE.out.below hbel hN) (by have := hbel.size; omega) (by rw [bs_size]; omega) 5 10 l hrv.2 (Or.inr (Or.inr (Or.inl rfl)))
            have HVAL := Lib.hid hval
            have HV := Lib.hid hv
            have HG2 := Lib.hid hg2
            have HBEL := Lib.hid hbel
            clear hval hg2 hbel hb2 hrv hTl hT hok hv
            go_wp2_with fail
            refine HVAL.out.mono ?_
            rintro e w3 ⟨rfl, hb3⟩
            rw [HV.out]
            have hbel3 : Below w.heap.size w w3 := HBEL.out.trans (hb3.mono HBEL.out.size)
            obtain ⟨w4, hw4⟩ : ∃ w4, w4 = w3.alloc (.cells #[.int .i64 2, .int .i64 (parseOf l), .string ⟨#[]⟩] 43) := ⟨_, rfl⟩
            have hbel4 : Below w.heap.size w w4 := by rw [hw4]; exact hbel3.alloc hbel3.size _
            have hn4 : w4.heap[w3.heap.size]? = some (.cells #[.int .i64 2, .int .i64 (parseOf l), .string ⟨#[]⟩] 43 (0, 0)) := by rw [hw4]; exact heap_alloc_new w3 _
            have hg4 : w4.heap[w.heap.size + 1]? = some (.cells #[.int .i64 2, .int .i64 (parseOf l), .string ⟨#[]⟩] 43 (0, 0)) := by
              rw [hw4]
              exact (Below.heap_alloc w3 _ _ (by have := blockLt HG2.out; have := hb3.size; omega)).trans ((hb3.block _ (blockLt HG2.out)).trans HG2.out)
            have hsz4 : w4.heap.size = w3.heap.size + 1 := by rw [hw4]; simp
            have HBEL4 := Lib.hid hbel4
            have HN4 := Lib.hid hn4
            have HG4 := Lib.hid hg4
            have HW4 := Lib.hid hw4
            clear hbel3 hbel4 hn4 hg4 hw4 hb3 hsz4
            go_wp2_with fail
            rw [← HW4.out]
            refine (awake N w4 (HE.out.below HBEL4.out hN) (by have := HBEL4.out.size; omega)).mono ?_
            rintro e w5 ⟨rfl, hb5⟩
            have n0 := blockCell ((hb5.block _ (blockLt HN4.out)).trans HN4.out) 0
            have n1 := blockCell ((hb5.block _ (blockLt HN4.out)).trans HN4.out) 1
            have n2 := blockCell ((hb5.block _ (blockLt HN4.out)).trans HN4.out) 2
            have g0 := blockCell ((hb5.block _ (blockLt HG4.out)).trans HG4.out) 0
            have g1 := blockCell ((hb5.block _ (blockLt HG4.out)).trans HG4.out) 1
            have g2 := blockCell ((hb5.block _ (blockLt HG4.out)).trans HG4.out) 2
            simp only [List.getElem?_toArray, List.getElem?_cons_zero, List.getElem?_cons_succ] at n0 n1 n2 g0 g1 g2
            have HB5 := Lib.hid (HBEL4.out.trans (hb5.mono HBEL4.out.size))
            clear hb5
            go_wp2
            go_ret
            exact ⟨rfl, HB5.out⟩
end Go.Proofs.YtdfehaonngccjaaDoor

