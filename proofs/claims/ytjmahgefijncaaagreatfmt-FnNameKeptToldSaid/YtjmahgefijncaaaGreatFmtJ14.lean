/- encodeLength. -/
import Derived.Test.YtjmahgefijncaaaGreatFmtJ13
import Derived.Maps.AppendAt
import Derived.Test.YtjmahgefijncaaaGreatFmtJ11
import Derived.Deep.RegionWith
set_option linter.unusedVariables false
set_option linter.unusedSimpArgs false
namespace Go.Proofs.YtjmahgefijncaaaGreatFmt
open Go Go.RowKit

/-- x has m bytes. -/
structure Bytes8 (x m : Nat) : Prop where
  lo : 1 ≤ m
  hi : m ≤ 8
  lt : x < 256 ^ m
  ge : m = 1 ∨ 256 ^ (m - 1) ≤ x

theorem bytes8_ex (x : Nat) (h : x < 2 ^ 64) : ∃ m, Bytes8 x m := by
  have : ∀ m, m ≤ 8 → x < 256 ^ m → 1 ≤ m → ∃ m, Bytes8 x m := by
    intro m
    induction m with
    | zero => intro _ _ h; omega
    | succ m ih =>
      intro hm hx _
      by_cases h0 : m = 0
      · subst h0; exact ⟨1, by omega, by omega, hx, Or.inl rfl⟩
      · by_cases hx2 : x < 256 ^ m
        · exact ih (by omega) hx2 (by omega)
        · exact ⟨m + 1, by omega, hm, hx, Or.inr (by rw [Nat.add_sub_cancel]; omega)⟩
  exact this 8 (by omega) (by rw [show (256 : Nat) ^ 8 = 2 ^ 64 by decide]; exact h) (by omega)

theorem Bytes8.more {x m j : Nat} (h : Bytes8 x m) (hj : j + 1 < m) : 255 < x / 256 ^ j := by
  have h1 : 256 ^ (m - 1) ≤ x := h.ge.resolve_left (by omega)
  have h2 : 256 ^ (j + 1) ≤ 256 ^ (m - 1) := Nat.pow_le_pow_right (by decide) (by omega)
  have h3 : 256 ≤ x / 256 ^ j := (Nat.le_div_iff_mul_le (Nat.pow_pos (by decide))).2 (by rw [Nat.pow_succ] at h2; omega)
  omega
theorem Bytes8.last {x m j : Nat} (h : Bytes8 x m) (hj : j + 1 = m) : x / 256 ^ j < 256 := by
  apply (Nat.div_lt_iff_lt_mul (Nat.pow_pos (by decide))).2
  have := h.lt
  rw [← hj, Nat.pow_succ] at this
  omega

theorem digits_eq : ∀ (m f x : Nat), m ≤ f → Bytes8 x m → Ber.digits f x = (List.range m).map fun k => UInt8.ofNat (x / 256 ^ (m - 1 - k) % 256)
  | 0, f, x, _, h => by have := h.lo; omega
  | m + 1, 0, x, hm, _ => by omega
  | m + 1, f + 1, x, hm, h => by
    simp only [Ber.digits]
    by_cases h0 : m = 0
    · subst h0
      have := h.lt
      rw [if_pos (by simpa using this)]
      simp at this
      simp [Nat.mod_eq_of_lt this]
    · have hx : 256 ≤ x := by
        have h1 : 256 ^ (m + 1 - 1) ≤ x := h.ge.resolve_left (by omega)
        have h2 : 256 ^ 1 ≤ 256 ^ m := Nat.pow_le_pow_right (by decide) (by omega)
        simp at h1; omega
      have hb : Bytes8 (x / 256) m := ⟨by omega, by have := h.hi; omega, (Nat.div_lt_iff_lt_mul (by decide)).2 (by have := h.lt; rw [Nat.pow_succ] at this; exact this), by
        by_cases h1 : m = 1
        · exact Or.inl h1
        · refine Or.inr ?_
          have h2 : 256 ^ (m + 1 - 1) ≤ x := h.ge.resolve_left (by omega)
          rw [Nat.add_sub_cancel] at h2
          exact (Nat.le_div_iff_mul_le (by decide)).2 (by rw [← Nat.pow_succ, show (m - 1).succ = m by omega]; exact h2)⟩
      have ih := digits_eq m f (x / 256) (by omega) hb
      rw [if_neg (by omega), ih, List.range_succ, List.map_append]
      congr 1
      · apply List.map_congr_left
        intro k hk
        have hk := List.mem_range.1 hk
        rw [Nat.div_div_eq_div_mul, Nat.mul_comm, ← Nat.pow_succ]
        congr 4
        omega
      · simp

set_option maxHeartbeats 1000000 in
theorem length64_any (w : World) (x m : Nat) (h : Bytes8 x m) :
    Calls Tryz.prog 159 #[.int .u64 x] w fun e w' => e = .returned (.int .i64 m) ∧ w = w' := by
  have hlo := h.lo
  have hhi := h.hi
  go_enter Tryz.func159, Tryz.ntmps159
  go_wp2
  go_loopw [0, 2] (fun t0 t2 wr => ∃ j : Nat, j < m ∧ t0 = .int .u64 ((x / 256 ^ j : Nat) : Int) ∧ t2 = .int .i64 ((j + 1 : Nat) : Int) ∧ w = wr) (fun _ t2 _ => m + 1 - (intOf t2).toNat)
  case atStart => exact ⟨0, by omega, by simp, rfl, rfl⟩
  case round =>
    obtain ⟨j, hj, rfl, rfl, rfl⟩ := hrel
    obtain ⟨y, hy⟩ : ∃ y, y = x / 256 ^ j := ⟨_, rfl⟩
    rw [← hy]
    have hy64 : y < 2 ^ 64 := Nat.lt_of_le_of_lt (by rw [hy]; exact Nat.div_le_self _ _) (Nat.lt_of_lt_of_le h.lt (Nat.le_trans (Nat.pow_le_pow_right (by decide) hhi) (by decide)))
    by_cases hjm : j + 1 < m
    · have hb := h.more hjm
      rw [← hy] at hb
      have hn : y / 256 = x / 256 ^ (j + 1) := by rw [hy, Nat.div_div_eq_div_mul, Nat.pow_succ]
      have HN := Lib.hid hn
      clear hn hy
      go_wp2
      go_roundw
      case rel => exact ⟨j + 1, hjm, by rw [← HN.out]; go_num, by go_num, by first | rfl | trivial⟩
      case measure => simp [intOf]; omega
    · have hb := h.last (j := j) (by omega)
      rw [← hy] at hb
      have hjm1 : j + 1 = m := by omega
      have HM := Lib.hid hjm1
      clear hy hjm1
      go_wp2
      go_ret
      exact ⟨by rw [← HM.out]; simp, by first | rfl | trivial⟩

theorem digit_rows {x j : Nat} {cur : Array Value} (h : Bytes8 x j) (hs : cur.size = j) (hrow : ∀ k, k < j → cur[k]? = some (.int .u8 ((x / 256 ^ (j - 1 - k) % 256 : Nat) : Int))) : cur.toList = Lib.byteCells (Ber.digits 8 x) := by
  rw [digits_eq j 8 x h.hi h]
  apply List.ext_getElem?
  intro k
  by_cases hk : k < j
  · rw [Array.getElem?_toList, hrow k hk]
    simp [Lib.byteCells, hk]
  · rw [List.getElem?_eq_none (by simp; omega), List.getElem?_eq_none (by simp [Lib.byteCells]; omega)]

set_option maxRecDepth 100000 in
set_option maxHeartbeats 4000000 in
theorem unsigned_any (w : World) (x m : Nat) (h : Bytes8 x m) :
    Calls Tryz.prog 154 #[.int .u64 x] w fun e w' => ∃ cur : Array Value, e = .returned (.slice (some ⟨w.heap.size, 0, none⟩) m m) ∧ w'.heap[w.heap.size]? = some (.cells cur 5 (0, 0)) ∧
      cur.toList = Lib.byteCells (Ber.digits 8 x) ∧ Below w.heap.size w w' := by
  have hlo := h.lo
  have hhi := h.hi
  obtain ⟨i0, hi, hz0, hz1, hz2⟩ := info_byteB
  have hmk0 : ∃ M : Array Value, M.size = m ∧ (Instr.makeSlice 51 (.int .i64 (m : Int)) (.int .i64 (m : Int))).run Tryz.prog w = .ok (.slice (some ⟨w.heap.size, 0, none⟩) m m) (w.alloc (.cells M 5)) := by
    have h := run_makeSlice w 51 5 i0 (.int .u8 0) Tryz.underlying51 hi hz0 .i64 .i64 (m : Int) m (by omega) (by omega) (by rw [hz1]; omega) (by rw [hz2]; omega) (by omega)
    have h2 := size_madeCells (Value.int .u8 0).cells (Int.toNat m * i0.size)
    exact ⟨madeCells (Value.int .u8 0).cells (Int.toNat m * i0.size), by rw [h2, hz1]; simp, by simpa using h⟩
  obtain ⟨M, hM, hmk⟩ := hmk0
  have hx64 : x < 2 ^ 64 := Nat.lt_of_lt_of_le h.lt (Nat.le_trans (Nat.pow_le_pow_right (by decide) hhi) (by decide))
  go_enter Tryz.func154, Tryz.ntmps154
  go_wp2_with fail
  refine (length64_any _ x m h).mono ?_
  rintro e w1 ⟨rfl, rfl⟩
  go_wp2_with fail
  go_loopw [3, 5] (fun t3 t5 wr => ∃ (j : Nat) (cur : Array Value), j ≤ m ∧ t3 = .int .i64 ((m - j : Nat) : Int) ∧ t5 = .int .i64 j ∧ wr.heap[w.heap.size]? = some (.cells cur 5 (0, 0)) ∧ cur.size = m ∧ Below w.heap.size w wr ∧
      ∀ k, k < j → cur[k]? = some (.int .u8 ((x / 256 ^ (m - 1 - k) % 256 : Nat) : Int))) (fun t3 _ _ => (intOf t3).toNat)
  case atStart => exact ⟨0, M, by omega, rfl, rfl, heap_alloc_new w _, hM, (Below.refl _ w).alloc (Nat.le_refl _) _, fun k hk => by omega⟩
  case round =>
    obtain ⟨j, cur, hj, rfl, rfl, hg, hs, hnx, hrow⟩ := hrel
    by_cases hjm : j < m
    · obtain ⟨r, hr⟩ : ∃ r, m - j = r + 1 := ⟨m - j - 1, by omega⟩
      rw [hr]
      have hr8 : r < 8 := by omega
      have hcj : wr.cell? ⟨w.heap.size, j, none⟩ = some (cur[j]'(by omega)) := by rw [blockCell hg j]; exact Array.getElem?_eq_getElem (by omega)
      have fj := blockFrozen hg j
      have hpos : (0 : Int) < ((r + 1 : Nat) : Int) := by omega
      have hp : (2 : Nat) ^ (r * 8) = 256 ^ r := by rw [Nat.mul_comm, Nat.pow_mul]
      have HR := Lib.hid hrow
      have HJ := Lib.hid hr
      clear hrow
      go_wp2_with fail
      refine ⟨⟨j + 1, _, by omega, by congr 2; omega, by go_num, blockSet hg j _, by simp [hs], hnx.setCell (p := ⟨w.heap.size, j, none⟩) (Nat.le_refl _) _, ?_⟩, by simp [intOf]⟩
      intro k hk
      by_cases hkj : k = j
      · subst hkj
        rw [Array.getElem?_setIfInBounds_self_of_lt (by omega), show m - 1 - k = r by omega, ← hp]
        simp
      · rw [Array.getElem?_setIfInBounds_ne (by omega)]
        exact HR.out k (by omega)
    · obtain rfl : j = m := by omega
      go_wp2_with fail
      go_ret
      exact ⟨cur, rfl, hg, digit_rows h hs hrow, hnx⟩

set_option maxRecDepth 100000 in
set_option maxHeartbeats 4000000 in
theorem lenOf_any (w : World) (n : Nat) (hn : n < 2 ^ 63) :
    Calls Tryz.prog 146 #[.int .i64 n] w fun e w' => ∃ v, e = .returned v ∧ Reads w' (Lib.byteCells (Ber.lenBytes n)) v ∧ Below w.heap.size w w' := by
  obtain ⟨m, hm⟩ := bytes8_ex n (by omega)
  have hlo := hm.lo
  have hhi := hm.hi
  have hwu : IntKind.u64.wrap (n : Int) = (n : Int) := wraps_u64 _ (by omega) (by omega)
  have hdl : (Ber.digits 8 n).length = m := by rw [digits_eq m 8 n hm.hi hm]; simp
  have hun := fun w => unsigned_any w n m hm
  by_cases h127 : n < 128
  · have hm1 : m = 1 := by
      rcases hm.ge with h | h
      · exact h
      · have h1 : 256 ^ 1 ≤ 256 ^ (m - 1) ∨ m = 1 := by
          rcases Nat.lt_or_ge (m - 1) 1 with h2 | h2
          · exact Or.inr (by omega)
          · exact Or.inl (Nat.pow_le_pow_right (by decide) h2)
        rcases h1 with h1 | h1
        · omega
        · exact h1
    subst hm1
    have t1 : decide ((n : Int) > 127) = false := by simp; omega
    have HM := Lib.hid hm
    have HD := Lib.hid hdl
    clear hm hdl
    go_enter Tryz.func146, Tryz.ntmps146
    go_wp2_with fail
    refine (hun _).mono ?_
    rintro e w1 ⟨cur, rfl, hg, hcur, hb⟩
    have hcl : cur.size = 1 := by rw [← Array.length_toList, hcur]; simpa [Lib.byteCells] using HD.out
    go_wp2_with fail
    go_ret
    refine ⟨_, rfl, ?_, hb⟩
    have e1 : Ber.lenBytes n = Ber.digits 8 n := by simp [Ber.lenBytes, Ber.digits, h127, show n < 256 by omega]
    rw [e1, ← hcur]
    refine ⟨some ⟨w.heap.size, 0, none⟩, 1, by show Value.slice (some ⟨w.heap.size, 0, none⟩) 1 1 = _; rw [Array.length_toList, hcl], Or.inr ⟨_, rfl, ⟨cur, hg⟩, fun j v hj => (blockCell hg j).trans (by simpa using hj)⟩⟩
  · obtain ⟨i0, hi, hz0, hz1, hz2⟩ := info_byteB
    have t1 : decide ((n : Int) > 127) = true := by simp; omega
    have hor : bits .or .u8 128 (m : Int) = ((128 + m : Nat) : Int) := by
      have := or_u8 (x := 128) (y := m) (by omega) (by omega)
      have k : ∀ y, y ≤ 8 → (128 ||| y) = 128 + y := by decide +kernel
      rw [k m hhi] at this
      exact this
    have hwm : IntKind.u8.wrap (m : Int) = (m : Int) := by rw [IntKind.wrap_u8]; omega
    have HM := Lib.hid hm
    have HD := Lib.hid hdl
    clear hm hdl
    go_enter Tryz.func146, Tryz.ntmps146
    go_wp2_with fail
    refine (hun _).mono ?_
    rintro e w1 ⟨cur, rfl, hg, hcur, hb⟩
    have hcl : cur.size = m := by rw [← Array.length_toList, hcur]; simpa [Lib.byteCells] using HD.out
    have hsz := hb.size
    obtain ⟨cs, hcs⟩ : ∃ cs, cs = Lib.byteCells (Ber.digits 8 n) := ⟨_, rfl⟩
    have hcm : cs.length = m := by rw [hcs]; simpa [Lib.byteCells] using HD.out
    have h1c : ∀ v ∈ cs, v.oneCell' = true := by intro v hv; rw [hcs] at hv; simp [Lib.byteCells] at hv; obtain ⟨_, _, rfl⟩ := hv; rfl
    have hgw : w.heap.size < w1.heap.size := blockLt hg
    have hsrc2 : ∀ j u, cs[j]? = some u → (w1.alloc (.cells #[.int .u8 (128 + (m : Int))] 5)).cell? ((⟨w.heap.size, 0, none⟩ : Addr).add j) = some u := by
      intro j u hj
      have hadd : (⟨w.heap.size, 0, none⟩ : Addr).add j = ⟨w.heap.size, j, none⟩ := by unfold Addr.add; split <;> simp_all
      rw [hadd]
      refine (World.cell?_of_block (w := w1) (Below.heap_alloc w1 _ _ hgw)).trans ((blockCell hg j).trans ?_)
      rw [← Array.getElem?_toList, hcur, ← hcs]; exact hj
    have hown : (w1.alloc (.cells #[.int .u8 (128 + (m : Int))] 5)).ownsRow w.heap.size 5 1 (.slice (some ⟨w1.heap.size, 0, none⟩) 1 1) 1 [.int .u8 (128 + (m : Int))] := ⟨by simp, Or.inr ⟨_, 1, _, rfl, hsz, heap_alloc_new w1 _, by omega, by decide, by simp, by simp⟩⟩
    have hmx : 1 + cs.length ≤ maxLen := by simp only [maxLen]; omega
    have HCS := Lib.hid hcs
    have HB := Lib.hid hb
    clear hcs hb hg hcur
    go_wp2_with (first
      | (at_builtin; refine wpList_append_own _ rfl _ _ 51 rfl w.heap.size 5 i0 (.int .u8 0) 1 1 Tryz.underlying51 hi hz0 hz1 hz2 rfl (by decide) _ _ _ rfl hown ⟨w.heap.size, 0, none⟩ m m cs rfl (by omega) hsrc2 h1c (by omega) (by omega) (by simp; omega) ?_))
    intro v' w2 hown' hgrow _
    have hb2 : Below w.heap.size w w2 := HB.out.trans (((Below.refl w.heap.size w1).alloc hsz _).trans ⟨hgrow.os, hgrow.tape, hgrow.output, hgrow.size, fun k hk => hgrow.block k (by simp; omega) (by simp [Value.ownBlock]; omega)⟩)
    have hrd := reads_of_owned hown'
    have HRD := Lib.hid hrd
    have HB2 := Lib.hid hb2
    clear hrd hb2 hgrow hown' hown hsrc2
    go_wp2
    go_ret
    refine ⟨_, rfl, ?_, HB2.out⟩
    have e1 : Lib.byteCells (Ber.lenBytes n) = .int .u8 (128 + (m : Int)) :: cs := by
      rw [HCS.out]
      simp [Ber.lenBytes, h127, Lib.byteCells, HD.out]
      omega
    rw [e1]
    exact HRD.out
end Go.Proofs.YtjmahgefijncaaaGreatFmt

/- (*Packet).Bytes. -/
namespace Go.Proofs.YtjmahgefijncaaaGreatFmt
open Go Go.RowKit

theorem BufAt.ltD {w : World} {D : Nat} {row : Option Nat} {bs : List Value} (h : BufAt w D row bs) : D < w.heap.size := by
  cases row with
  | none => obtain ⟨_, lr, hD⟩ := h; exact blockLt hD
  | some g => obtain ⟨_, lr, cap, cur, hD, _⟩ := h; exact blockLt hD
theorem BufAt.ltG {w : World} {D g : Nat} {bs : List Value} (h : BufAt w D (some g) bs) : g < w.heap.size := by
  obtain ⟨_, lr, cap, cur, hD, hg, _⟩ := h; exact blockLt hg
theorem BufAt.ty {w : World} {D : Nat} {row : Option Nat} {bs : List Value} (h : BufAt w D row bs) : ∃ cs fr, w.heap[D]? = some (.cells cs 183 fr) := by
  cases row with
  | none => obtain ⟨_, lr, hD⟩ := h; exact ⟨_, _, hD⟩
  | some g => obtain ⟨_, lr, cap, cur, hD, _⟩ := h; exact ⟨_, _, hD⟩
theorem BufAt.only {S : Nat → Prop} {w w' : World} {D : Nat} {row : Option Nat} {bs : List Value} (h : BufAt w D row bs) (k : Only S w w') (hD : ¬ S D) (hg : ∀ g, row = some g → ¬ S g) : BufAt w' D row bs :=
  h.kept (k.block D h.ltD hD) (fun g e => k.block g (by subst e; exact h.ltG) (hg g e))
theorem BufAt.same {w w' : World} {D : Nat} {row : Option Nat} {bs : List Value} (h : BufAt w D row bs) (k : Same w w') : BufAt w' D row bs := h.kept (by rw [k.heap]) (fun g _ => by rw [k.heap])
theorem BufAt.below {w w' : World} {D : Nat} {row : Option Nat} {bs : List Value} (h : BufAt w D row bs) (k : Below w.heap.size w w') : BufAt w' D row bs :=
  h.kept (k.block D h.ltD) (fun g e => k.block g (by subst e; exact h.ltG))
theorem Only.ofBelow {S : Nat → Prop} {w w' : World} (h : Below w.heap.size w w') : Only S w w' := ⟨h.os, h.tape, h.output, h.size, fun k hk _ => h.block k hk⟩

theorem Reads.src {w : World} {bs : List Value} {v : Value} {D : Nat} (h : Reads w bs v) (hD : ∃ cs fr, w.heap[D]? = some (.cells cs 183 fr)) : Src w D bs v := by
  obtain ⟨ao, c, rfl, h⟩ := h
  refine ⟨ao, c, rfl, h.imp id ?_⟩
  rintro ⟨g, rfl, ⟨cur, hg⟩, hs⟩
  refine ⟨_, rfl, ?_, fun j v hj => ?_⟩
  · rintro rfl
    obtain ⟨cs, fr, hD⟩ := hD
    rw [hg] at hD
    injection hD with hD
    injection hD with _ h2 _
    exact absurd h2 (by decide)
  · have hadd : (⟨g, 0, none⟩ : Addr).add j = ⟨g, j, none⟩ := by unfold Addr.add; split <;> simp_all
    rw [hadd]; exact hs j v hj

theorem cells1 (l : List UInt8) : ∀ v ∈ Lib.byteCells l, v.oneCell' = true := by
  intro v hv
  simp only [Lib.byteCells, List.mem_map] at hv
  obtain ⟨_, _, rfl⟩ := hv
  rfl
theorem cells_length (l : List UInt8) : (Lib.byteCells l).length = l.length := by simp [Lib.byteCells]

/-- Write of bytes to a buffer of bytes. -/
theorem write_bytes (w : World) (D : Nat) (row : Option Nat) (l m : List UInt8) (v : Value) (h : BufAt w D row (Lib.byteCells l)) (hs : Reads w (Lib.byteCells m) v) (hlim : l.length + m.length ≤ 140737488355328) :
    Calls Tryz.prog 123 #[.pointer (some ⟨D, 0, none⟩), v] w fun e w' => e = .returned (.tuple #[.int .i64 m.length, .nilIface]) ∧ Wrote D row (Lib.byteCells (l ++ m)) w w' := by
  rw [byteCells_append]
  exact write_any w D row _ _ v _ h (hs.src h.ty) (by rw [cells_length]) (cells1 l) (cells1 m) (by rw [cells_length, cells_length]; exact hlim)

theorem Only.toBelow {S : Nat → Prop} {B : Nat} {a w w' : World} (h : Below B a w) (hB : B ≤ a.heap.size) (k : Only S w w') (hS : ∀ i, S i → B ≤ i) : Below B a w' :=
  ⟨k.os.trans h.os, k.tape.trans h.tape, k.output.trans h.output, Nat.le_trans h.size k.size, fun i hi =>
    (k.block i (by have := h.size; omega) (fun e => by have := hS i e; omega)).trans (h.block i hi)⟩
theorem Same.toBelow {w w' : World} (h : Same w w') (B : Nat) : Below B w w' := ⟨h.os, h.tape, h.output, by rw [h.heap]; exact Nat.le_refl _, fun k _ => by rw [h.heap]⟩

theorem identBytes_len (c : Nat) (b : Bool) (t : Nat) : (Ber.identBytes c b t).length ≤ 13 := by
  unfold Ber.identBytes
  split
  · simp
  · rename_i h
    have := tagBytes_len t (by omega)
    simp; omega
theorem digits_len : ∀ f n, (Ber.digits f n).length ≤ f
  | 0, n => by simp [Ber.digits]
  | f + 1, n => by simp only [Ber.digits]; split; simp; have := digits_len f (n / 256); simp; omega
theorem lenBytes_len (n : Nat) : (Ber.lenBytes n).length ≤ 9 := by
  unfold Ber.lenBytes
  split
  · simp
  · have := digits_len 8 n; simp; omega

set_option maxRecDepth 100000 in
set_option maxHeartbeats 4000000 in
theorem bytes_any (w : World) (p D : Nat) (row : Option Nat) (c t : Nat) (b : Bool) (l : List UInt8) (v3 v4 v6 v7 : Value) (hc : c < 4) (ht : t < 2 ^ 64) (hl : l.length ≤ 100000000000)
    (hp : w.heap[p]? = some (.cells #[.int .u8 ((c * 64 : Nat) : Int), .int .u8 (if b then 32 else 0), .int .u64 t, v3, v4, .pointer (some ⟨D, 0, none⟩), v6, v7] 171 (0, 0)))
    (hb : BufAt w D row (Lib.byteCells l)) :
    Calls Tryz.prog 136 #[.pointer (some ⟨p, 0, none⟩)] w fun e w' => ∃ v, e = .returned v ∧ Reads w' (Lib.byteCells (Ber.identBytes c b t ++ (Ber.lenBytes l.length ++ l))) v ∧ Below w.heap.size w w' := by
  have hplt := blockLt hp
  obtain ⟨y, hy⟩ : ∃ y : Int, y = (if b then 32 else 0) := ⟨_, rfl⟩
  have hidt : ∀ W, Calls Tryz.prog 145 #[.agg #[.int .u8 ((c * 64 : Nat) : Int), .int .u8 y, .int .u64 t]] W fun e w' => ∃ v, e = .returned v ∧ Reads w' (Lib.byteCells (Ber.identBytes c b t)) v ∧ Below W.heap.size W w' := by
    intro W; rw [hy]; exact identOf_any W c hc b t ht
  rw [← hy] at hp
  have h0 : (w.alloc (.cells #[.slice none 0 0, .int .i64 0, .int .i8 0] 183)).heap[p]? = some (.cells #[.int .u8 ((c * 64 : Nat) : Int), .int .u8 y, .int .u64 t, v3, v4, .pointer (some ⟨D, 0, none⟩), v6, v7] 171 (0, 0)) := (Below.heap_alloc w _ p hplt).trans hp
  have c0 := blockCell h0 0
  have c1 := blockCell h0 1
  have c2 := blockCell h0 2
  have hb0 : BufAt (w.alloc (.cells #[.slice none 0 0, .int .i64 0, .int .i8 0] 183)) D row (Lib.byteCells l) := hb.below ((Below.refl _ w).alloc (Nat.le_refl _) _)
  have hout0 : BufAt (w.alloc (.cells #[.slice none 0 0, .int .i64 0, .int .i8 0] 183)) w.heap.size none (Lib.byteCells []) := ⟨rfl, 0, heap_alloc_new w _⟩
  have HY := Lib.hid hy
  have HP := Lib.hid h0
  have HB0 := Lib.hid hb0
  have HO0 := Lib.hid hout0
  have HDNE := Lib.hid (show D ≠ w.heap.size from Nat.ne_of_lt hb.ltD)
  have HGNE := Lib.hid (show row ≠ some w.heap.size from fun e => by subst e; exact Nat.lt_irrefl _ hb.ltG)
  clear hp h0 hb0 hout0 hy hb
  go_enter Tryz.func136, Tryz.ntmps136
  go_wp2_with fail
  refine (hidt _).mono ?_
  rintro e w1 ⟨v1, rfl, hv1, hbel1⟩
  have hsz1 : w.heap.size + 1 ≤ w1.heap.size := by have := hbel1.size; simpa using this
  have hout1 := HO0.out.below hbel1
  have hbd1 := HB0.out.below hbel1
  have hp1 := (hbel1.block p (by simp; omega)).trans HP.out
  have hDlt := hbd1.ltD
  have hD0 : D < w.heap.size + 1 := by have := HB0.out.ltD; simpa using this
  have hDne : D ≠ w.heap.size := HDNE.out
  have hGne : row ≠ some w.heap.size := HGNE.out
  have hG0 : ∀ g, row = some g → g < w.heap.size + 1 := fun g e => by subst e; have := HB0.out.ltG; simpa using this
  go_wp2_with fail
  refine (write_bytes w1 w.heap.size none [] _ v1 hout1 hv1 (by have := identBytes_len c b t; simp; omega)).mono ?_
  rintro e w2 ⟨rfl, row2, hout2, hr2, hf2⟩
  have hbd2 := hbd1.only hf2 (by rintro (h | h); exact hDne h; cases h) (fun g e => by rintro (h | h); exact hGne (by rw [e, h]); cases h)
  have hp2 := (hf2.block p (by omega) (by rintro (h | h); omega; cases h)).trans hp1
  have hsz2 := hf2.size
  have d2 := blockCell hp2 3
  have d5 := blockCell hp2 5
  go_wp2_with fail
  refine (buf_len w2 D row _ hbd2).mono ?_
  rintro e w3 ⟨rfl, hs3⟩
  rw [cells_length]
  go_wp2_with fail
  refine (lenOf_any w3 l.length (by omega)).mono ?_
  rintro e w4 ⟨v4', rfl, hv4, hbel4⟩
  rw [List.nil_append] at hout2
  have hout4 := (hout2.same hs3).below hbel4
  have hbd4 := (hbd2.same hs3).below hbel4
  have hp4 := (hbel4.block p (by rw [hs3.heap]; omega)).trans ((congrArg (fun h => h[p]?) hs3.heap).trans hp2)
  have hsz4 : w2.heap.size ≤ w4.heap.size := by have := hbel4.size; rw [hs3.heap] at this; exact this
  have hilen := identBytes_len c b t
  have hllen := lenBytes_len l.length
  have hr2G : ∀ g, row2 = some g → w.heap.size < g ∧ row ≠ some g := fun g e => by
    rcases hr2 with h | ⟨g', h, hg'⟩
    · rw [h] at e; cases e
    · rw [h] at e; obtain rfl := Option.some.inj e
      exact ⟨by omega, fun e2 => by have := hG0 _ e2; omega⟩
  have hr2D : ∀ g, row2 = some g → g ≠ D := fun g e => by have := (hr2G g e).1; omega
  have hr2p : ∀ g, row2 = some g → g ≠ p := fun g e => by have := (hr2G g e).1; omega
  go_wp2_with fail
  refine (write_bytes w4 w.heap.size row2 _ _ v4' hout4 hv4 (by omega)).mono ?_
  rintro e w5 ⟨rfl, row5, hout5, hr5, hf5⟩
  have hbd5 := hbd4.only hf5 (by rintro (h | h); exact hDne h; exact hr2D _ h rfl) (fun g e => by rintro (h | h); exact hGne (by rw [e, h]); exact (hr2G _ h).2 e)
  have hp5 := (hf5.block p (by omega) (by rintro (h | h); omega; exact hr2p _ h rfl)).trans hp4
  have hsz5 := hf5.size
  have e5 := blockCell hp5 5
  go_wp2_with fail
  refine (buf_bytes w5 D row _ hbd5).mono ?_
  rintro e w6 ⟨v6', rfl, hv6, hs6⟩
  have hr5G : ∀ g, row5 = some g → w.heap.size < g := fun g e => by
    rcases hr5 with h | ⟨g', h, hg'⟩
    · exact (hr2G g (by rw [← h]; exact e)).1
    · rw [h] at e; obtain rfl := Option.some.inj e; omega
  go_wp2_with fail
  refine (write_bytes w6 w.heap.size row5 _ l v6' (hout5.same hs6) hv6 (by simp; omega)).mono ?_
  rintro e w7 ⟨rfl, row7, hout7, hr7, hf7⟩
  go_wp2_with fail
  refine (buf_bytes w7 _ row7 _ hout7).mono ?_
  rintro e w8 ⟨v8, rfl, hv8, hs8⟩
  have hfin : Below w.heap.size w w8 := by
    have k1 : Below w.heap.size w w1 := ((Below.refl _ w).alloc (Nat.le_refl _) _).trans (hbel1.mono (by simp))
    have k2 := Only.toBelow k1 (Nat.le_refl _) hf2 (by rintro k (h | h); omega; cases h)
    have k3 := k2.trans (Same.toBelow hs3 w.heap.size)
    have k4 := k3.trans (hbel4.mono (by rw [hs3.heap]; omega))
    have k5 := Only.toBelow k4 (Nat.le_refl _) hf5 (by rintro k (h | h); omega; have := (hr2G _ h).1; omega)
    have k6 := k5.trans (Same.toBelow hs6 w.heap.size)
    have k7 := Only.toBelow k6 (Nat.le_refl _) hf7 (by rintro k (h | h); omega; have := hr5G _ h; omega)
    exact k7.trans (Same.toBelow hs8 w.heap.size)
  have HV8 := Lib.hid hv8
  have HFIN := Lib.hid hfin
  clear hv8 hfin hout7 hout5 hout4 hout2 hout1
  go_wp2
  go_ret
  exact ⟨_, rfl, by have := HV8.out; rwa [List.append_assoc] at this, HFIN.out⟩
end Go.Proofs.YtjmahgefijncaaaGreatFmt

/- (*Packet).AppendChild. -/
namespace Go.Proofs.YtjmahgefijncaaaGreatFmt
open Go Go.RowKit

/-- A row of pointers to packets. -/
def KidRow (w : World) (C cap : Nat) (xs : List Value) : Prop :=
  ∃ cur : Array Value, w.heap[C]? = some (.cells cur 159 (0, 0)) ∧ xs.length ≤ cap ∧ cap ≤ maxLen ∧ cur.size = cap ∧ cur.toList.take xs.length = xs
theorem KidRow.lt {w : World} {C cap : Nat} {xs : List Value} (h : KidRow w C cap xs) : C < w.heap.size := by obtain ⟨cur, h1, _⟩ := h; exact blockLt h1
theorem KidRow.stays {w w' : World} {C cap : Nat} {xs : List Value} (h : KidRow w C cap xs) (k : w'.heap[C]? = w.heap[C]?) : KidRow w' C cap xs := by
  obtain ⟨cur, h1, h2⟩ := h; exact ⟨cur, k.trans h1, h2⟩
theorem KidRow.own {w : World} {C cap : Nat} {xs : List Value} (h : KidRow w C cap xs) : w.ownsRow 0 159 1 (.slice (some ⟨C, 0, none⟩) xs.length cap) xs.length xs := by
  obtain ⟨cur, h1, h2, h3, h4, h5⟩ := h
  exact ⟨by simp, Or.inr ⟨C, cap, cur, rfl, Nat.zero_le _, h1, h2, h3, by simpa using h4, by simpa using h5⟩⟩
theorem KidRow.of {w : World} {v : Value} {n : Nat} {xs : List Value} (h : w.ownsRow 0 159 1 v n xs) (hn : 0 < n) : ∃ C cap, v = .slice (some ⟨C, 0, none⟩) n cap ∧ n = xs.length ∧ KidRow w C cap xs := by
  have hl : xs.length = n := by simpa using h.1
  rcases h.2 with ⟨_, h0⟩ | ⟨C, cap, cur, hv, _, hg, h2, h3, h4, h5⟩
  · omega
  · exact ⟨C, cap, hv, hl.symm, cur, hg, by omega, h3, by simpa using h4, by rw [Nat.mul_one] at h5; rw [hl]; exact h5⟩
theorem KidRow.cell {w : World} {C cap : Nat} {xs : List Value} (h : KidRow w C cap xs) {j : Nat} {v : Value} (hj : xs[j]? = some v) : w.cell? ⟨C, j, none⟩ = some v := by
  obtain ⟨cur, h1, h2, h3, h4, h5⟩ := h
  rw [blockCell h1 j]
  rw [← h5] at hj
  simp only [List.getElem?_take] at hj
  split at hj
  · simpa using hj
  · cases hj

theorem info_ptr : ∃ i, Tryz.prog.info? 159 = some i ∧ i.zero = some (.pointer none) ∧ i.size = 1 ∧ i.bytes = 8 := info_parts (by kernel_rfl)

/-- Blocks of other types are other blocks. -/
theorem ne_of_typesB {w : World} {a b : Nat} {x y : Array Value} {t u : TypeId} {f g : Nat × Nat} (ha : w.heap[a]? = some (.cells x t f)) (hb : w.heap[b]? = some (.cells y u g)) (h : t ≠ u) : a ≠ b := by
  rintro rfl
  rw [ha] at hb
  injection hb with hb
  injection hb with _ h2 _
  exact h h2

/-- The block of a packet. -/
def PkCells (a0 a1 a2 : Int) (val bv : Value) (D : Nat) (kv ds : Value) : Array Value := #[.int .u8 a0, .int .u8 a1, .int .u64 a2, val, bv, .pointer (some ⟨D, 0, none⟩), kv, ds]

theorem app_end {w w1 w2 w3 w4 : World} {P D C cap q : Nat} {row row2 : Option Nat} {a0 a1 a2 : Int} {val bv ds : Value} {xs : List Value} {bs : List Value} {v' : Value}
    (hP : w.heap[P]? = some (.cells (PkCells a0 a1 a2 val bv D (.slice (some ⟨C, 0, none⟩) xs.length cap) ds) 171 (0, 0)))
    (hk : KidRow w C cap xs) (hDt : ∃ cs fr, w.heap[D]? = some (.cells cs 183 fr)) (hrt : ∀ g, row = some g → ∃ cs, w.heap[g]? = some (.cells cs 5 (0, 0)))
    (hbel : Below w.heap.size w w1) (hb2 : BufAt w2 D row2 bs) (hr2 : row2 = row ∨ ∃ g, row2 = some g ∧ w1.heap.size ≤ g) (hf2 : Only (fun k => k = D ∨ row = some k) w1 w2)
    (hw3 : w3 = w2.alloc (.cells #[.pointer (some ⟨q, 0, none⟩)] 159)) (hown : w4.ownsRow 0 159 1 v' (xs.length + 1) (xs ++ [.pointer (some ⟨q, 0, none⟩)]))
    (hgr : w3.grownBy w4 (some C)) (hat : v'.ownBlock = some C ∨ v'.ownBlock = some w3.heap.size) :
    ∃ row' C' cap', v' = .slice (some ⟨C', 0, none⟩) (xs.length + 1) cap' ∧
      (w4.setCell ⟨P, 6, none⟩ v').heap[P]? = some (.cells (PkCells a0 a1 a2 val bv D v' ds) 171 (0, 0)) ∧ BufAt (w4.setCell ⟨P, 6, none⟩ v') D row' bs ∧
      KidRow (w4.setCell ⟨P, 6, none⟩ v') C' cap' (xs ++ [.pointer (some ⟨q, 0, none⟩)]) ∧ (row' = row ∨ ∃ g, row' = some g ∧ w.heap.size ≤ g) ∧ (C' = C ∨ w.heap.size ≤ C') ∧
      Only (fun k => k = P ∨ k = D ∨ row = some k ∨ k = C) w (w4.setCell ⟨P, 6, none⟩ v') := by
  have hPlt := blockLt hP
  obtain ⟨dcs, dfr, hDt⟩ := hDt
  have hDlt := blockLt hDt
  have hClt := hk.lt
  obtain ⟨cur, hC, hk2⟩ := id hk
  have hPD : P ≠ D := ne_of_typesB hP hDt (by decide)
  have hPC : P ≠ C := ne_of_typesB hP hC (by decide)
  have hCD : C ≠ D := ne_of_typesB hC hDt (by decide)
  have hrC : row ≠ some C := fun e => by obtain ⟨cs, h⟩ := hrt _ e; exact ne_of_typesB h hC (by decide) rfl
  have hrP : row ≠ some P := fun e => by obtain ⟨cs, h⟩ := hrt _ e; exact ne_of_typesB h hP (by decide) rfl
  have hrlt : ∀ g, row = some g → g < w.heap.size := fun g e => by obtain ⟨cs, h⟩ := hrt _ e; exact blockLt h
  have hsz1 := hbel.size
  have hsz2 := hf2.size
  have hsz3 : w3.heap.size = w2.heap.size + 1 := by rw [hw3]; simp
  have hsz4 := hgr.size
  have h12 : Only (fun k => k = P ∨ k = D ∨ row = some k ∨ k = C) w w2 := (Only.ofBelow hbel).trans2 hf2 (fun i _ h => by rcases h with h | h; exact Or.inr (Or.inl h); exact Or.inr (Or.inr (Or.inl h)))
  have h3 : Only (fun k => k = P ∨ k = D ∨ row = some k ∨ k = C) w w3 := by rw [hw3]; exact h12.alloc _
  have h4 : Only (fun k => k = P ∨ k = D ∨ row = some k ∨ k = C) w w4 := h3.trans2 ⟨hgr.os, hgr.tape, hgr.output, hgr.size, fun k hk hs => hgr.block k hk (fun e => hs (Option.some.inj e))⟩ (T := fun k => k = C) (fun i _ h => Or.inr (Or.inr (Or.inr h)))
  have hP2 : w2.heap[P]? = w.heap[P]? := (hf2.block P (by omega) (by rintro (h | h); exact hPD h; exact hrP h)).trans (hbel.block P hPlt)
  have hP4 : w4.heap[P]? = w.heap[P]? := (hgr.block P (by omega) (fun h => hPC (Option.some.inj h))).trans ((by rw [hw3]; exact Below.heap_alloc w2 _ P (by omega) : w3.heap[P]? = w2.heap[P]?).trans hP2)
  have hD2lt := hb2.ltD
  have hr2lt : ∀ g, row2 = some g → g < w2.heap.size ∧ g ≠ C ∧ g ≠ P := fun g e => by
    have h1 : g < w2.heap.size := by subst e; exact hb2.ltG
    refine ⟨h1, ?_, ?_⟩
    · rintro rfl
      rcases hr2 with h | ⟨g', h, h'⟩
      · exact hrC (by rw [← h]; exact e)
      · rw [h] at e; injection e with e; omega
    · rintro rfl
      rcases hr2 with h | ⟨g', h, h'⟩
      · exact hrP (by rw [← h]; exact e)
      · rw [h] at e; injection e with e; omega
  have hstay : ∀ k, k < w2.heap.size → k ≠ C → k ≠ P → (w4.setCell ⟨P, 6, none⟩ v').heap[k]? = w2.heap[k]? := fun k hk h1 h2 => by
    rw [Below.heap_setCell _ _ _ _ (by show k ≠ P; exact h2), hgr.block k (by omega) (fun h => h1 (Option.some.inj h)), hw3, Below.heap_alloc w2 _ k hk]
  obtain ⟨C', cap', hv', hn', hk'⟩ := KidRow.of hown (by omega)
  have hC' : C' = C ∨ C' = w3.heap.size := by
    rw [hv'] at hat
    simp only [Value.ownBlock, Option.some.injEq] at hat
    exact hat
  have hC'P : C' ≠ P := by rcases hC' with h | h <;> omega
  refine ⟨row2, C', cap', hv', ?_, ?_, ?_, ?_, ?_, ?_⟩
  · have := blockSet (hP4.trans hP) 6 v'
    simpa [PkCells] using this
  · exact hb2.kept (hstay D hD2lt (fun e => hCD e.symm) (fun e => hPD e.symm)) (fun g e => hstay g (hr2lt g e).1 (hr2lt g e).2.1 (hr2lt g e).2.2)
  · exact hk'.stays (Below.heap_setCell _ _ _ _ hC'P)
  · rcases hr2 with h | ⟨g, h, h'⟩
    · exact Or.inl h
    · exact Or.inr ⟨g, h, by omega⟩
  · rcases hC' with h | h
    · exact Or.inl h
    · exact Or.inr (by omega)
  · exact h4.setCell (Or.inr (Or.inl rfl)) _

set_option maxRecDepth 100000 in
set_option maxHeartbeats 4000000 in
theorem append_any (w : World) (P D C cap q D2 : Nat) (row rowq : Option Nat) (a0 a1 a2 : Int) (val bv ds : Value) (xs : List Value) (l m : List UInt8) (c t : Nat) (b : Bool) (u3 u4 u6 u7 : Value) (hc : c < 4) (ht : t < 2 ^ 64)
    (hP : w.heap[P]? = some (.cells (PkCells a0 a1 a2 val bv D (.slice (some ⟨C, 0, none⟩) xs.length cap) ds) 171 (0, 0))) (hk : KidRow w C cap xs) (hx : xs.length ≤ 100000000000)
    (hb : BufAt w D row (Lib.byteCells l)) (hl : l.length ≤ 100000000000) (hm : m.length ≤ 100000000000)
    (hq : w.heap[q]? = some (.cells #[.int .u8 ((c * 64 : Nat) : Int), .int .u8 (if b then 32 else 0), .int .u64 t, u3, u4, .pointer (some ⟨D2, 0, none⟩), u6, u7] 171 (0, 0)))
    (hbq : BufAt w D2 rowq (Lib.byteCells m)) :
    Calls Tryz.prog 120 #[.pointer (some ⟨P, 0, none⟩), .pointer (some ⟨q, 0, none⟩)] w fun e w' => (∃ v, e = .returned v) ∧ ∃ row' C' cap',
      w'.heap[P]? = some (.cells (PkCells a0 a1 a2 val bv D (.slice (some ⟨C', 0, none⟩) (xs.length + 1) cap') ds) 171 (0, 0)) ∧ BufAt w' D row' (Lib.byteCells (l ++ (Ber.identBytes c b t ++ (Ber.lenBytes m.length ++ m)))) ∧
      KidRow w' C' cap' (xs ++ [.pointer (some ⟨q, 0, none⟩)]) ∧ (row' = row ∨ ∃ g, row' = some g ∧ w.heap.size ≤ g) ∧ (C' = C ∨ w.heap.size ≤ C') ∧ Only (fun k => k = P ∨ k = D ∨ row = some k ∨ k = C) w w' := by
  obtain ⟨i0, hi, hz0, hz1, hz2⟩ := info_ptr
  have hPlt := blockLt hP
  have c5 : w.drew.cell? ⟨P, 5, none⟩ = some (.pointer (some ⟨D, 0, none⟩)) := blockCell hP 5
  have hq' : w.drew.heap[q]? = _ := hq
  have hbq' : BufAt w.drew D2 rowq (Lib.byteCells m) := hbq
  have hDt := hb.ty
  have hrt : ∀ g, row = some g → ∃ cs, w.heap[g]? = some (.cells cs 5 (0, 0)) := fun g e => by subst e; obtain ⟨_, lr, cap, cur, hD, hg, _⟩ := hb; exact ⟨_, hg⟩
  have hby : Calls Tryz.prog 136 #[.pointer (some ⟨q, 0, none⟩)] w.drew fun e w' => ∃ v, e = .returned v ∧ Reads w' (Lib.byteCells (Ber.identBytes c b t ++ (Ber.lenBytes m.length ++ m))) v ∧ Below w.heap.size w w' :=
    (bytes_any w.drew q D2 rowq c t b m u3 u4 u6 u7 hc ht hm hq' hbq').mono fun e w' ⟨v, h1, h2, h3⟩ => ⟨v, h1, h2, ⟨h3.os, h3.tape, h3.output, h3.size, h3.block⟩⟩
  have HBY := Lib.hid hby
  have HP := Lib.hid hP
  have HK := Lib.hid hk
  have HB := Lib.hid hb
  clear hby hP hk hb hq hq' hbq hbq'
  have hPD : P ≠ D := by obtain ⟨_, _, hD⟩ := hDt; exact ne_of_typesB HP.out hD (by decide)
  have hPrt : ∀ g, row = some g → P ≠ g := fun g e => by obtain ⟨cs, h⟩ := hrt g e; exact ne_of_typesB HP.out h (by decide)
  have HDT := Lib.hid hDt
  have HRT := Lib.hid hrt
  have HPRT := Lib.hid hPrt
  clear hDt hrt hPrt
  go_enter Tryz.func120, Tryz.ntmps120
  go_wp2_with fail
  go_region_with (first
    | (go_at_call 136; go_loud (refine HBY.out.mono ?_; rintro e w1 ⟨v1, rfl, hv1, hbel1⟩; have hP1 := (hbel1.block P hPlt).trans HP.out; have c51 : w1.cell? ⟨P, 5, none⟩ = some (.pointer (some ⟨D, 0, none⟩)) := blockCell hP1 5; have hb1 := HB.out.below (w' := w1) hbel1))
    | (go_at_call 123; refine (write_bytes w1 D row _ _ v1 hb1 hv1 (by have := identBytes_len c b t; have := lenBytes_len m.length; simp; omega)).mono ?_; rintro e w2 ⟨rfl, row2, hout2, hr2, hf2⟩))
  all_goals
    have hP2 := (hf2.block P (by have := hbel1.size; omega) (by rintro (h | h); exact hPD h; exact HPRT.out _ h rfl)).trans hP1
    have c26 : w2.cell? ⟨P, 6, none⟩ = some (.slice (some ⟨C, 0, none⟩) xs.length cap) := blockCell hP2 6
    have hk2 : KidRow w2 C cap xs := by
      obtain ⟨cur, hC, _⟩ := id HK.out
      obtain ⟨_, _, hD⟩ := HDT.out
      refine (HK.out.stays (hbel1.block C HK.out.lt)).stays (hf2.block C (by have := hbel1.size; have := HK.out.lt; omega) ?_)
      rintro (h | h)
      · exact ne_of_typesB hC hD (by decide) h
      · obtain ⟨cs, h2⟩ := HRT.out _ h
        exact ne_of_typesB h2 hC (by decide) rfl
    have hown2 : (w2.alloc (.cells #[.pointer (some ⟨q, 0, none⟩)] 159)).ownsRow 0 159 1 (.slice (some ⟨C, 0, none⟩) xs.length cap) xs.length xs := (hk2.stays (Below.heap_alloc w2 _ C hk2.lt)).own
    have hmx : xs.length + 1 ≤ maxLen := by simp only [maxLen]; omega
    have HP2 := Lib.hid hP2
    have HK2 := Lib.hid hk2
    clear hP2 hk2 hv1 hP1 hb1
    go_wp2_with (first
      | (at_builtin; refine wpList_append_own_at _ rfl _ _ 169 rfl 0 159 i0 (.pointer none) 1 8 Tryz.underlying169 hi hz0 hz1 hz2 rfl (by decide) _ _ _ rfl hown2 ⟨w2.heap.size, 0, none⟩ 1 1 [.pointer (some ⟨q, 0, none⟩)] rfl rfl (cell_one_new w2 _ _) (by intro u hu; simp at hu; subst hu; rfl) hmx (by omega) (Nat.zero_le _) ?_))
    intro v' w4 hown' hgrow _ hat
    have hP4 : w4.heap[P]? = _ := (hgrow.block P (by have := blockLt HP2.out; simp; omega) (by
      obtain ⟨cur, hC, _⟩ := id HK2.out
      simp only [Value.ownBlock, ne_eq, Option.some.injEq]
      exact ne_of_typesB HP2.out hC (by decide))).trans ((Below.heap_alloc w2 _ P (blockLt HP2.out)).trans HP2.out)
    have c46 : w4.cell? ⟨P, 6, none⟩ = some (.slice (some ⟨C, 0, none⟩) xs.length cap) := blockCell hP4 6
    have f46 := blockFrozen hP4 6
    obtain ⟨row', C', cap', rfl, hE⟩ := app_end HP.out HK.out HDT.out HRT.out hbel1 hout2 hr2 hf2 rfl hown' hgrow (hat.imp id (fun h => by rw [h]; simp))
    have HE := Lib.hid hE
    clear hE hown' hgrow hat hP4 hown2 hout2 hr2 hf2 hbel1
    go_wp2
    exact bodyPost_end (results_none (by rfl) _ _ _) rfl ⟨⟨_, rfl⟩, row', C', cap', HE.out⟩
end Go.Proofs.YtjmahgefijncaaaGreatFmt

/- io.LimitedReader's Read. -/
namespace Go.Proofs.YtjmahgefijncaaaGreatFmt
open Go Go.RowKit

theorem nil_ahead_lim (a : Addr) (w : World) : (nilAhead 371 213 (.pointer (some a)) "Read").run Tryz.prog w = .ok (some false) w := by kernel_rfl
theorem method_lim (a : Addr) (w : World) : (method 371 213 (.pointer (some a)) "Read").run Tryz.prog w = .ok (193, .pointer (some a)) w := by kernel_rfl

theorem lim_zero (w : World) (L : Nat) (rv : Value) (n : Int) (hL : w.heap[L]? = some (.cells #[rv, .int .i64 n] 215 (0, 0))) (hn : n ≤ 0) (ev : Value) (hE : w.cell? ⟨2, 0, none⟩ = some ev) (dp : Option Addr) (m c : Nat) :
    Calls Tryz.prog 193 #[.pointer (some ⟨L, 0, none⟩), .slice dp m c] w fun e w' => e = .returned (.tuple #[.int .i64 0, ev]) ∧ Same w w' := by
  have c1 : w.cell? ⟨L, 1, none⟩ = some (.int .i64 n) := blockCell hL 1
  clear hL
  go_enter Tryz.func193, Tryz.ntmps193
  go_wp2
  go_quiet (fail)
  go_wp2
  go_ret2
  exact ⟨rfl, (Same.refl w).drewN _⟩

theorem lim_end (w : World) (L R A : Nat) (l : List UInt8) (h : Rd w R A l l.length) (n : Nat) (hL : w.heap[L]? = some (.cells #[.iface 157 (.pointer (some ⟨R, 0, none⟩)), .int .i64 n] 215 (0, 0))) (hn : 0 < n) (hn2 : n < 1000000000000)
    (te : TypeId) (pe : Addr) (hE : w.cell? ⟨2, 0, none⟩ = some (.iface te (.pointer (some pe)))) (g off m c : Nat) (hmc : m ≤ c) (_hc : c < 1000000000000) (hm0 : 0 < m) (hRE : 2 < R) (hLR : L ≠ R) (hLA : L ≠ A) :
    Calls Tryz.prog 193 #[.pointer (some ⟨L, 0, none⟩), .slice (some ⟨g, off, none⟩) m c] w fun e w' => e = .returned (.tuple #[.int .i64 0, .iface te (.pointer (some pe))]) ∧ Rd w' R A l l.length ∧ (∀ B, B ≤ L → Keep B R w w') ∧ (∀ k, k < w.heap.size → k ≠ L → k ≠ R → w'.heap[k]? = w.heap[k]?) := by
  have c0 : w.cell? ⟨L, 0, none⟩ = some (.iface 157 (.pointer (some ⟨R, 0, none⟩))) := blockCell hL 0
  have c1 : w.cell? ⟨L, 1, none⟩ = some (.int .i64 n) := blockCell hL 1
  have f1 := blockFrozen hL 1
  have hLlt := blockLt hL
  have hne : R ≠ 2 := by omega
  have hlt : 2 < w.heap.size := by have := h.lt; omega
  have hme := method_reader
  have HL := Lib.hid hL
  clear hL
  by_cases hmn : n < m
  all_goals
    go_enter Tryz.func193, Tryz.ntmps193
    go_wp2_with fail
    refine (reader_end _ R A l h _ hE hne hlt _ _ _ (by omega)).mono ?_
    rintro e w1 ⟨rfl, hs, hr⟩
    have d1 : w1.cell? ⟨L, 1, none⟩ = some (.int .i64 n) := (hs.cell hLlt hLR).trans c1
    have g1 : w1.frozen? ⟨L, 1, none⟩ = false := (hs.frozen hLlt hLR).trans f1
    have HF := Lib.hid (And.intro hs hr)
    clear hs hr
    go_wp2
    go_ret2
    exact ⟨rfl, HF.out.2.stays (Below.heap_setCell _ _ _ _ (by simp; omega)) (Below.heap_setCell _ _ _ _ (by simp; omega)), fun B hB => (HF.out.1.mono (by omega)).setCell (p := ⟨L, 1, none⟩) (Or.inl hB) _,
      fun k hk h1 h2 => (Below.heap_setCell _ _ _ _ (by simpa using h1)).trans (HF.out.1.block k hk h2)⟩

theorem lim_some (w : World) (L R A : Nat) (l : List UInt8) (i : Nat) (h : Rd w R A l i) (hi : i < l.length) (n : Nat) (hL : w.heap[L]? = some (.cells #[.iface 157 (.pointer (some ⟨R, 0, none⟩)), .int .i64 n] 215 (0, 0))) (hn : 0 < n) (hn2 : n < 1000000000000)
    (g off m c : Nat) (hmc : m ≤ c) (hc : c < 1000000000000) (cur : List Value) (hg : w.heap[g]? = some (.cells cur.toArray 5 (0, 0))) (hgR : g ≠ R) (hgA : g ≠ A) (hLR : L ≠ R) (hLA : L ≠ A) (hLg : L < g) (hfit : off + m ≤ cur.length) (B : Nat) (hBL : B ≤ L) :
    Calls Tryz.prog 193 #[.pointer (some ⟨L, 0, none⟩), .slice (some ⟨g, off, none⟩) m c] w fun e w' =>
      e = .returned (.tuple #[.int .i64 (min (min m n) (l.length - i) : Nat), .nilIface]) ∧ Keep B R w w' ∧ Rd w' R A l (i + min (min m n) (l.length - i)) ∧
      w'.heap[L]? = some (.cells #[.iface 157 (.pointer (some ⟨R, 0, none⟩)), .int .i64 (n - min (min m n) (l.length - i) : Nat)] 215 (0, 0)) ∧
      w'.heap[g]? = some (.cells (splice cur off (Lib.byteCells ((l.drop i).take (min m n)))).toArray 5 (0, 0)) ∧ w'.heap.size = w.heap.size := by
  have c0 : w.cell? ⟨L, 0, none⟩ = some (.iface 157 (.pointer (some ⟨R, 0, none⟩))) := blockCell hL 0
  have c1 : w.cell? ⟨L, 1, none⟩ = some (.int .i64 n) := blockCell hL 1
  have hme := method_reader
  have HL := Lib.hid hL
  have hlen := h.len
  have hLlt := blockLt hL
  have hglt := blockLt hg
  clear hL
  obtain ⟨mm, hmm⟩ : ∃ mm, mm = min m n := ⟨_, rfl⟩
  have hq : ∃ q, q = min mm (l.length - i) := ⟨_, rfl⟩
  obtain ⟨q, hq⟩ := hq
  rw [← hmm, ← hq]
  have hqn : q ≤ n := by omega
  have hql : q ≤ l.length := by omega
  have HMM := Lib.hid hmm
  have HQ := Lib.hid hq
  clear hmm hq
  have fin : ∀ w1 : World, Keep g R w w1 → Rd w1 R A l (i + q) → w1.heap[g]? = some (.cells (splice cur off (Lib.byteCells ((l.drop i).take mm))).toArray 5 (0, 0)) → w1.heap.size = w.heap.size →
      Keep B R w (w1.setCell ⟨L, 1, none⟩ (.int .i64 ((n : Int) - q))) ∧ Rd (w1.setCell ⟨L, 1, none⟩ (.int .i64 ((n : Int) - q))) R A l (i + q) ∧
      (w1.setCell ⟨L, 1, none⟩ (.int .i64 ((n : Int) - q))).heap[L]? = some (.cells #[.iface 157 (.pointer (some ⟨R, 0, none⟩)), .int .i64 (n - q : Nat)] 215 (0, 0)) ∧
      (w1.setCell ⟨L, 1, none⟩ (.int .i64 ((n : Int) - q))).heap[g]? = some (.cells (splice cur off (Lib.byteCells ((l.drop i).take mm))).toArray 5 (0, 0)) ∧ (w1.setCell ⟨L, 1, none⟩ (.int .i64 ((n : Int) - q))).heap.size = w.heap.size := by
    intro w1 hkg hr hg1 hz
    have hk : Keep B R w w1 := hkg.mono (by omega)
    have hL1 := hkg.block L hLg hLR
    refine ⟨hk.setCell (Or.inl hBL) _, hr.stays (Below.heap_setCell _ _ _ _ (by simp; omega)) (Below.heap_setCell _ _ _ _ (by simp; omega)), ?_, ?_, ?_⟩
    · have := blockSet (hL1.trans HL.out) 1 (.int .i64 ((n : Int) - q))
      rw [this]; simp; omega
    · rw [Below.heap_setCell _ _ _ _ (by simp; omega)]; exact hg1
    · simpa [World.setCell] using hz
  have FIN := Lib.hid fin
  clear fin
  by_cases hmn : n < m
  · have hmm2 : mm = n := by have := HMM.out; omega
    subst hmm2
    go_enter Tryz.func193, Tryz.ntmps193
    go_wp2_with fail
    refine (reader_some g _ R A l i h hi (by omega) g off mm c cur hg (by omega) hgR hgA (by omega)).mono ?_
    rw [← HQ.out]
    rintro e w1 ⟨rfl, hk, hr, hg1, hz⟩
    have d1 : w1.cell? ⟨L, 1, none⟩ = some (.int .i64 mm) := (hk.cell hLg hLR).trans c1
    have g1 : w1.frozen? ⟨L, 1, none⟩ = false := (hk.frozen hLg hLR).trans (blockFrozen HL.out 1)
    have F := Lib.hid (FIN.out w1 hk hr hg1 hz)
    clear hk hr hg1 hz
    go_wp2
    go_ret2
    exact ⟨rfl, F.out⟩
  · have hmm2 : mm = m := by have := HMM.out; omega
    subst hmm2
    go_enter Tryz.func193, Tryz.ntmps193
    go_wp2_with fail
    refine (reader_some g _ R A l i h hi (by omega) g off mm c cur hg (by omega) hgR hgA (by omega)).mono ?_
    rw [← HQ.out]
    rintro e w1 ⟨rfl, hk, hr, hg1, hz⟩
    have d1 : w1.cell? ⟨L, 1, none⟩ = some (.int .i64 n) := (hk.cell hLg hLR).trans c1
    have g1 : w1.frozen? ⟨L, 1, none⟩ = false := (hk.frozen hLg hLR).trans (blockFrozen HL.out 1)
    have F := Lib.hid (FIN.out w1 hk hr hg1 hz)
    clear hk hr hg1 hz
    go_wp2
    go_ret2
    exact ⟨rfl, F.out⟩
end Go.Proofs.YtjmahgefijncaaaGreatFmt

/- io.ReadAll over an io.LimitedReader over a bytes.Reader, for contents of at most 480 bytes. -/
namespace Go.Proofs.YtjmahgefijncaaaGreatFmt
open Go Go.RowKit

def zeros512 : List Value := List.replicate 512 (.int .u8 0)
def nils4 : List Value := List.replicate 4 (.slice none 0 0)
theorem zeros512_length : zeros512.length = 512 := List.length_replicate

theorem make512 (w : World) : (Instr.makeSlice 51 (.int .i64 0) (.int .i64 512)).run Tryz.prog w = .ok (.slice (some ⟨w.heap.size, 0, none⟩) 0 512) (w.alloc (.cells zeros512.toArray 5)) := by kernel_rfl
theorem make4 (w : World) : (Instr.makeSlice 123 (.int .i64 0) (.int .i64 4)).run Tryz.prog w = .ok (.slice (some ⟨w.heap.size, 0, none⟩) 0 4) (w.alloc (.cells nils4.toArray 51)) := by kernel_rfl

theorem alloc2_block {w : World} {k : Nat} (h : k < w.heap.size) (a b : Obj) : (((w.alloc a).alloc b).drew).heap[k]? = w.heap[k]? := by
  show ((w.alloc a).alloc b).heap[k]? = _
  rw [Below.heap_alloc _ _ _ (by simp; omega), Below.heap_alloc _ _ _ h]
theorem alloc2_cell {w : World} {p : Addr} {v : Value} (h : w.cell? p = some v) (a b : Obj) : (((w.alloc a).alloc b).drew).cell? p = some v := cell_alloc (cell_alloc h a) b

end Go.Proofs.YtjmahgefijncaaaGreatFmt

/- io.ReadAll at the reader's end. -/
namespace Go.Proofs.YtjmahgefijncaaaGreatFmt
open Go Go.RowKit

set_option maxRecDepth 100000 in
set_option maxHeartbeats 1000000 in
theorem all_end (N : Nat) (w : World) (L R A : Nat) (l : List UInt8) (h : Rd w R A l l.length) (n : Nat) (hL : w.heap[L]? = some (.cells #[.iface 157 (.pointer (some ⟨R, 0, none⟩)), .int .i64 n] 215 (0, 0))) (hn : 0 < n) (hn2 : n < 1000000000000)
    (hE : Env N w) (hNL : N ≤ R) (hRL : R < L) (hLA : L ≠ A) :
    Calls Tryz.prog 121 #[.iface 213 (.pointer (some ⟨L, 0, none⟩))] w fun e w' =>
      e = .returned (.tuple #[.slice (some ⟨w.heap.size, 0, none⟩) 0 512, .nilIface]) ∧ Keep L R w w' ∧ Rd w' R A l l.length ∧ w'.heap[w.heap.size]? = some (.cells zeros512.toArray 5 (0, 0)) := by
  obtain ⟨a, ha, hae⟩ := hE.eofErr 0
  have hm1 := make512
  have hm2 := make4
  have hna := nil_ahead_lim
  have hme := method_lim
  have heq := fun w => eql_same w a
  have hLlt := blockLt hL
  have hRE : 2 < R := by have := hE.few; omega
  go_enter Tryz.func121, Tryz.ntmps121
  go_wp2
  refine wp_loop_rounds 1 ?_
  rw [rounds_succ]
  go_wp2
  go_region_with ((go_at_call 193; refine (lim_end _ L R A l ((h.alloc _).alloc _).drew n ((alloc2_block hLlt _ _).trans hL) hn hn2 _ a (alloc2_cell ha _ _) w.heap.size 0 512 512 (by omega) (by omega) (by omega) hRE (by omega) hLA).mono ?_; rintro e w1 ⟨rfl, hr, hk, hb⟩))
  have hE1 : w1.cell? ⟨2, 0, none⟩ = some (.iface 144 (.pointer (some a))) := ((hk L (Nat.le_refl _)).cell (show 2 < L by omega) (show 2 ≠ R by omega)).trans (alloc2_cell ha _ _)
  have hz : w1.heap[w.heap.size]? = some (.cells zeros512.toArray 5 (0, 0)) := (hb _ (by simp <;> omega) (by omega) (by omega)).trans ((Below.heap_alloc _ _ _ (by simp)).trans (heap_alloc_new w _))
  have hkk : Keep L R w w1 := ((((Keep.refl L R w).alloc (by omega) _).alloc (by simp <;> omega) _).drew).trans (hk L (Nat.le_refl _))
  have HR := Lib.hid hr
  have HZ := Lib.hid hz
  clear hz hk hb hr
  go_wp2
  go_ret2
  exact ⟨rfl, hkk, HR.out, HZ.out⟩
end Go.Proofs.YtjmahgefijncaaaGreatFmt

/- io.ReadAll of some contents. -/
namespace Go.Proofs.YtjmahgefijncaaaGreatFmt
open Go Go.RowKit

set_option maxRecDepth 100000 in
set_option maxHeartbeats 4000000 in
theorem all_some (N : Nat) (w : World) (L R A : Nat) (l : List UInt8) (i : Nat) (h : Rd w R A l i) (hi : i < l.length) (n : Nat) (hL : w.heap[L]? = some (.cells #[.iface 157 (.pointer (some ⟨R, 0, none⟩)), .int .i64 n] 215 (0, 0))) (hn : 0 < n) (hn2 : n < 1000000000000)
    (hE : Env N w) (hNL : N ≤ R) (hRL : R < L) (hLA : L ≠ A) (m : Nat) (hm : m = min n (l.length - i)) (hm480 : m ≤ 480) :
    Calls Tryz.prog 121 #[.iface 213 (.pointer (some ⟨L, 0, none⟩))] w fun e w' =>
      e = .returned (.tuple #[.slice (some ⟨w.heap.size, 0, none⟩) m 512, .nilIface]) ∧ Keep L R w w' ∧ Rd w' R A l (i + m) ∧ w'.heap[w.heap.size]? = some (.cells (splice zeros512 0 (Lib.byteCells ((l.drop i).take m))).toArray 5 (0, 0)) := by
  obtain ⟨a, ha, hae⟩ := hE.eofErr 0
  have hm1 := make512
  have hm2 := make4
  have hna := nil_ahead_lim
  have hme := method_lim
  have heq := fun w => eql_same w a
  have hLlt := blockLt hL
  have hRE : 2 < R := by have := hE.few; omega
  have hAlt := h.ltA (by omega)
  have hlen := h.len
  have hmin : min (min 512 n) (l.length - i) = m := by omega
  have htake : Lib.byteCells ((l.drop i).take (min 512 n)) = Lib.byteCells ((l.drop i).take m) := by
    congr 1
    rw [show m = min (min 512 n) (l.length - i) from hmin.symm, ← List.length_drop, List.take_eq_take_min]
  have HMIN := Lib.hid hmin
  have HT := Lib.hid htake
  have HM := Lib.hid hm
  have hm0 : 0 < m := by omega
  have hm512 : m ≤ 512 := by omega
  have hn512 : ¬ 512 = m := by omega
  have hmn : m ≤ n := by omega
  have hml : m ≤ l.length - i := by omega
  clear hmin htake hm
  go_enter Tryz.func121, Tryz.ntmps121
  go_wp2
  refine wp_loop_rounds 2 ?_
  rw [rounds_succ]
  go_wp2
  go_region_with ((go_at_call 193; refine (lim_some _ L R A l i ((h.alloc _).alloc _).drew hi n ((alloc2_block hLlt _ _).trans hL) hn hn2 w.heap.size 0 512 512 (by omega) (by omega) zeros512 ((Below.heap_alloc _ _ _ (by simp)).trans (heap_alloc_new w _)) (by omega) (by omega) (by omega) hLA (by omega) (by rw [zeros512_length]; omega) L (Nat.le_refl _)).mono ?_; rw [HMIN.out]; rintro e w1 ⟨rfl, hk, hr, hL1, hg1, hz1⟩))
  rw [HT.out] at hg1
  have hr0 : Rd w1 R A l (i + m) := hr
  have hE1 : w1.cell? ⟨2, 0, none⟩ = some (.iface 144 (.pointer (some a))) := (hk.cell (by have := hE.few; show 2 < L; omega) (by have := hE.few; show 2 ≠ R; omega)).trans (alloc2_cell ha _ _)
  have hkk : Keep L R w w1 := ((((Keep.refl L R w).alloc (by omega) _).alloc (by simp <;> omega) _).drew).trans hk
  have HG1 := Lib.hid hg1
  have HL1 := Lib.hid hL1
  have hz2 : w.heap.size + 2 ≤ w1.heap.size := by rw [hz1]; simp
  clear hk hg1 hL1 hz1
  by_cases hrem : n ≤ l.length - i
  · have hnm : n - m = 0 := by have := HM.out; omega
    go_wp2
    try rw [rounds_succ]
    go_wp2
    have hL2 : w1.drew.heap[L]? = _ := HL1.out
    have hE2 : w1.drew.cell? ⟨2, 0, none⟩ = _ := hE1
    have HL2 := Lib.hid hL2
    have HE2 := Lib.hid hE2
    clear hL2 hE2
    go_region_with ((go_at_call 193; refine (lim_zero w1.drew L _ _ HL2.out (by omega) _ HE2.out _ _ _).mono ?_; rintro e w2 ⟨rfl, hs⟩))
    have hE3 : w2.cell? ⟨2, 0, none⟩ = some (.iface 144 (.pointer (some a))) := (hs.cell _).trans hE1
    go_wp2
    go_ret2
    have hs1 : Same w1 w2 := ((Same.refl w1).drew).trans hs
    exact ⟨rfl, hkk.trans (hs1.keep _ _), hr0.heap hs1.heap, (by rw [hs1.heap]; exact HG1.out)⟩
  · have hend : i + m = l.length := by have := HM.out; omega
    have hr1 : Rd w1 R A l l.length := hend ▸ hr0
    have hnm : 0 < n - m := by have := HM.out; omega
    go_wp2
    try rw [rounds_succ]
    go_wp2
    have hL2 : w1.drew.heap[L]? = _ := HL1.out
    have hE2 : w1.drew.cell? ⟨2, 0, none⟩ = _ := hE1
    have HL2 := Lib.hid hL2
    have HE2 := Lib.hid hE2
    have HR2 := Lib.hid hr1.drew
    clear hL2 hE2
    go_region_with ((go_at_call 193; refine (lim_end w1.drew L R A l HR2.out (n - m) HL2.out hnm (by omega) _ a HE2.out _ _ _ _ (Nat.le_refl _) (by omega) (by omega) hRE (by omega) hLA).mono ?_; rintro e w2 ⟨rfl, hr2, hs, hb⟩))
    have hE3 : w2.cell? ⟨2, 0, none⟩ = some (.iface 144 (.pointer (some a))) := ((hs L (Nat.le_refl _)).cell (show 2 < L by omega) (show 2 ≠ R by omega)).trans hE1
    go_wp2
    go_ret2
    have hs1 : Keep L R w1 w2 := ((Keep.refl L R w1).drew).trans (hs L (Nat.le_refl _))
    have hRlt := hr1.lt
    refine ⟨rfl, ?_, ?_, ?_⟩
    · exact hkk.trans hs1
    · rw [hend]; exact hr2
    · exact (hb _ (show _ < w1.heap.size by omega) (by omega) (by omega)).trans HG1.out
end Go.Proofs.YtjmahgefijncaaaGreatFmt

