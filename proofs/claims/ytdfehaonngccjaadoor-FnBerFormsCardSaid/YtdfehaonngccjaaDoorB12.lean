/- back: a packet in memory as a value of the thin package. -/
import Derived.Test.YtdfehaonngccjaaDoorB11
import Derived.Test.YtdfehaonngccjaaDoorPFnBerFormsx0
import Derived.BigRegion
set_option linter.unusedVariables false
set_option linter.unusedSimpArgs false
namespace Go.Proofs.YtdfehaonngccjaaDoor
open Go Go.RowKit Go.Proofs.YtdfehaonngccjaaDoorW.PrintWords Go.Proofs.YtdfehaonngccjaaDoorW.PrintLast Go.Proofs.YtdfehaonngccjaaDoorW.PrintMore

mutual
def toS : Ber.Pk → PFnBerForms.S31
  | .mk c b t data items => ⟨(c : Int), b, (t : Int), ⟨data.toArray⟩, toSs items⟩
def toSs : List Ber.Pk → List PFnBerForms.S31
  | [] => []
  | x :: r => toS x :: toSs r
end
theorem toSs_append : ∀ (l m : List Ber.Pk), toSs (l ++ m) = toSs l ++ toSs m
  | [], m => by simp [toSs]
  | x :: l, m => by simp [toSs, toSs_append l m]
theorem toSs_length : ∀ (l : List Ber.Pk), (toSs l).length = l.length
  | [] => rfl
  | x :: l => by simp [toSs, toSs_length l]

theorem Kids.at_ : ∀ {w : World} {xs : List Value} {items : List Ber.Pk}, Kids w xs items → ∀ j (hj : j < items.length), ∃ q, xs[j]? = some (.pointer (some ⟨q, 0, none⟩)) ∧ Tree w q items[j]
  | w, xs, [], h, j, hj => absurd hj (Nat.not_lt_zero _)
  | w, xs, x :: r, h, j, hj => by
    unfold Kids at h
    obtain ⟨q, vs, rfl, h1, h2⟩ := h
    cases j with
    | zero => exact ⟨q, rfl, h1⟩
    | succ j =>
      obtain ⟨q', e, ht⟩ := Kids.at_ h2 j (by simpa using hj)
      exact ⟨q', by simpa using e, by simpa using ht⟩

theorem enc_le_bodies : ∀ {items : List Ber.Pk} (j : Nat) (hj : j < items.length), (Ber.enc items[j]).length ≤ (Ber.bodies items).length
  | [], j, hj => absurd hj (Nat.not_lt_zero _)
  | .mk c b t d i :: r, 0, hj => by simp only [List.getElem_cons_zero, Ber.bodies, Ber.enc, List.length_append]; omega
  | .mk c b t d i :: r, j + 1, hj => by
    have := enc_le_bodies (items := r) j (by simpa using hj)
    simp only [List.getElem_cons_succ, Ber.bodies, List.length_append]; omega
theorem ident_pos (c : Nat) (b : Bool) (t : Nat) : 1 ≤ (Ber.identBytes c b t).length := by
  unfold Ber.identBytes; split <;> simp
theorem count_le_bodies : ∀ (items : List Ber.Pk), items.length ≤ (Ber.bodies items).length
  | [] => Nat.zero_le _
  | .mk c b t d i :: r => by
    have := count_le_bodies r
    have := ident_pos c b t
    simp only [Ber.bodies, List.length_append, List.length_cons]; omega

/-- Every heap that agrees on what stood bears the packet. -/
def TreeKept (w : World) (q : Nat) (p : Ber.Pk) : Prop := ∀ w2 : World, (∀ k, k < w.heap.size → w2.heap[k]? = w.heap[k]?) → Tree w2 q p
theorem TreeKept.of {B : Nat} {w : World} {q : Nat} {p : Ber.Pk} (h : Stable B w (fun _ => False) (fun w2 => Tree w2 q p)) : TreeKept w q p := fun w2 h2 => h w2 fun k _ hk _ => h2 k hk
theorem TreeKept.below {w w' : World} {q : Nat} {p : Ber.Pk} (h : TreeKept w q p) (hb : Below w.heap.size w w') : TreeKept w' q p :=
  fun w2 h2 => h w2 fun k hk => (h2 k (Nat.lt_of_lt_of_le hk hb.size)).trans (hb.block k hk)
theorem TreeKept.now {w : World} {q : Nat} {p : Ber.Pk} (h : TreeKept w q p) : Tree w q p := h w fun _ _ => rfl

theorem conv_nil (w : World) (c : Nat) : (convert 37 9 (.slice none 0 c)).run Tryd.prog w = .ok (.string ⟨#[]⟩) w := by kernel_rfl
theorem reads_string (w : World) (l : List UInt8) (v : Value) (h : Reads w (Lib.byteCells l) v) :
    (convert 37 9 v).run Tryd.prog w = .ok (.string ⟨l.toArray⟩) w := by
  obtain ⟨ao, c, rfl, h⟩ := h
  have hlen : (Lib.byteCells l).length = l.length := by simp [Lib.byteCells]
  rw [hlen]
  rcases h with h | ⟨g, rfl, -, hs⟩
  · have h0 : l = [] := by cases l with | nil => rfl | cons a b => simp [Lib.byteCells] at h
    subst h0
    cases ao with
    | none => exact conv_nil w c
    | some a => exact run_convert_bytes_back (P := Tryd.prog) w 37 9 5 a c [] Tryd.underlying37 Tryd.underlying5 Tryd.underlying9 (fun j hj => absurd hj (Nat.not_lt_zero _))
  · exact run_convert_bytes_back (P := Tryd.prog) w 37 9 5 ⟨g, 0, none⟩ c l Tryd.underlying37 Tryd.underlying5 Tryd.underlying9 (fun j hj => by
      have := hs j (.int .u8 (l[j]).toNat) (by simp [Lib.byteCells, List.getElem?_eq_getElem hj])
      have hadd : (⟨g, 0, none⟩ : Addr).add j = ⟨g, j, none⟩ := by unfold Addr.add; split <;> simp_all
      rw [hadd]; exact this)

theorem five_set {w : World} {g : Nat} {x0 x1 x2 x3 x4 : Value} {t : TypeId} {fr : Nat × Nat} (h : w.heap[g]? = some (.cells #[x0, x1, x2, x3, x4] t fr)) (a b c d e : Value) :
    (((((w.setCell ⟨g, 0, none⟩ a).setCell ⟨g, 1, none⟩ b).setCell ⟨g, 2, none⟩ c).setCell ⟨g, 3, none⟩ d).setCell ⟨g, 4, none⟩ e).heap[g]? = some (.cells #[a, b, c, d, e] t fr) := by
  have := blockSet (blockSet (blockSet (blockSet (blockSet h 0 a) 1 b) 2 c) 3 d) 4 e
  simpa using this

theorem TreeKept.kid {w : World} {q c t : Nat} {b : Bool} {data : List UInt8} {items : List Ber.Pk} (h : TreeKept w q (.mk c b t data items)) {a0 a2 D C cap : Nat} {y : Int} {v3 v4 v7 : Value} {xs : List Value}
    (hp : w.heap[q]? = some (.cells (PkCells (a0 : Int) y (a2 : Int) v3 v4 D (.slice (some ⟨C, 0, none⟩) xs.length cap) v7) 78 (0, 0))) (hk : KidRow w C cap xs) (j : Nat) (hj : j < items.length) :
    ∃ q', xs[j]? = some (.pointer (some ⟨q', 0, none⟩)) ∧ TreeKept w q' items[j] := by
  have hq := blockLt hp
  have hCl := hk.lt
  have key : ∀ w2 : World, (∀ k, k < w.heap.size → w2.heap[k]? = w.heap[k]?) → Kids w2 xs items := by
    intro w2 h2
    have ht := h w2 h2
    unfold Tree at ht
    obtain ⟨D', row', C', cap', bv', xs', _, _, hp', _, hk', _, _, _, hkids⟩ := ht
    rw [h2 q hq, hp] at hp'
    simp only [PkCells, Option.some.injEq, Obj.cells.injEq, Array.mk.injEq, List.cons.injEq, Value.slice.injEq, Addr.mk.injEq, and_true] at hp'
    obtain ⟨cur, e1, e2, e3, e4, e5⟩ := hk
    obtain ⟨cur', g1, g2, g3, g4, g5⟩ := hk'
    have hC : C' = C := by have := hp'; simp at this; first | done | omega
    have hl : xs'.length = xs.length := by have := hp'; simp at this; first | done | omega
    subst hC
    rw [h2 _ hCl, e1] at g1
    simp only [Option.some.injEq, Obj.cells.injEq] at g1
    obtain ⟨rfl, -⟩ := g1
    have : xs' = xs := by rw [← g5, ← e5, hl]
    subst this
    exact hkids
  obtain ⟨q', hq', _⟩ := (key w (fun _ _ => rfl)).at_ j hj
  refine ⟨q', hq', fun w2 h2 => ?_⟩
  obtain ⟨q2, h3, h4⟩ := (key w2 h2).at_ j hj
  rw [hq'] at h3
  simp only [Option.some.injEq, Value.pointer.injEq, Addr.mk.injEq, and_true] at h3
  subst h3
  exact h4

def backT : Bool × List (List Nat × List Nat) := (true, [([], []), ([0], [0]), ([], []), ([2], [2]), ([3], [3]), ([1, 4, 3], [1, 4]), ([0, 1, 2, 3, 4, 5], []), ([6, 5, 5, 0, 1, 2, 3, 4, 5], [5, 6])])
def backB : List Nat := [0, 1, 0, 4, 12, 31, 63, 127]
theorem back_tab : rtab .any (opsOf Tryd.f24 7) = backT := by kernel_rfl
theorem back_bits : waitsOk backT.2 backB = true := by kernel_rfl
theorem info31 : (Tryd.prog.info? 31).map (fun i => (i.zero, i.size, i.bytes)) = some (some (.agg #[(.int .u8 0), (.bool false), (.int .u64 0), (.string ⟨#[]⟩), (.slice none 0 0)]), 5, 56) := by kernel_rfl

set_option maxRecDepth 100000 in
set_option maxHeartbeats 8000000 in
theorem back_any (n : Nat) : ∀ (p : Ber.Pk), SizeOf.sizeOf p < n → ∀ (w : World) (q : Nat), TreeKept w q p → (Ber.enc p).length ≤ 100000000000 →
    Calls Tryd.prog 24 #[.pointer (some ⟨q, 0, none⟩)] w fun e w' => ∃ v4 : Value, e = .returned (.agg #[.int .u8 (toS p).f0, .bool (toS p).f1, .int .u64 (toS p).f2, .string (toS p).f3, v4]) ∧ Kd.R PFnBerForms.k31 31 w' w.heap.size (fun _ => True) v4 (toS p).f4 ∧ Below w.heap.size w w' := by
  induction n with
  | zero => intro p h; omega
  | succ n ih =>
  rintro ⟨c, b, t, data, items⟩ hsz w q hT hlen
  have hnow := hT.now
  unfold Tree at hnow
  obtain ⟨D, row, C, cap, bv, xs, hc, ht, hp, hb, hk, hbv, hi, hd, hkids⟩ := hnow
  obtain ⟨y, hy⟩ : ∃ y : Int, y = (if b then 32 else 0) := ⟨_, rfl⟩
  rw [← hy] at hp
  obtain ⟨x, hx⟩ : ∃ x : Nat, x = c * 64 := ⟨_, rfl⟩
  rw [← hx] at hp
  have hqlt := blockLt hp
  have hu31 := Tryd.underlying31
  have H1 := Lib.hid hy
  have H2 := Lib.hid hx
  have HT := Lib.hid hT
  have HB := Lib.hid hb
  have HK := Lib.hid hk
  have HKIDS := Lib.hid hkids
  have hkl := Lib.hid hkids.length
  have HI := Lib.hid hi
  have HD := Lib.hid hd
  have hp1 := (Below.heap_alloc w (.cells #[.int .u8 0, .bool false, .int .u64 0, .string ⟨#[]⟩, .slice none 0 0] 31) q hqlt).trans hp
  have c0 := blockCell hp1 0
  have c1 := blockCell hp1 1
  have c2 := blockCell hp1 2
  simp only [PkCells, List.getElem?_toArray, List.getElem?_cons_zero, List.getElem?_cons_succ] at c0 c1 c2
  clear hy hx hT hb hk hkids hi hd hbv
  go_enter Tryd.func24, Tryd.ntmps24
  go_wp2
  go_region
  obtain ⟨w1, hw1⟩ : ∃ w1, w1 = ((w.alloc (.cells #[.int .u8 0, .bool false, .int .u64 0, .string ⟨#[]⟩, .slice none 0 0] 31)).alloc (.cells #[.int .u8 ((x : Int) / 64), .bool (y == 32), .int .u64 (t : Int), .string ⟨#[]⟩, .slice none 0 0] 31)).drew := ⟨_, rfl⟩
  have hB1 : Below w.heap.size w w1 := by
    rw [hw1]
    exact (((Below.refl _ w).alloc (Nat.le_refl _) _).alloc (by simp) _).drew
  have hb2 : w1.heap[w.heap.size]? = some (.cells #[.int .u8 0, .bool false, .int .u64 0, .string ⟨#[]⟩, .slice none 0 0] 31 (0, 0)) := by
    rw [hw1]
    exact (Below.heap_alloc _ _ _ (by simp)).trans (heap_alloc_new w _)
  have hb3 : w1.heap[w.heap.size + 1]? = some (.cells #[.int .u8 (c : Int), .bool b, .int .u64 (t : Int), .string ⟨#[]⟩, .slice none 0 0] 31 (0, 0)) := by
    have h1 : ((x : Int) / 64) = c := by rw [H2.out]; omega
    have h2 : (y == 32) = b := by rw [H1.out]; cases b <;> rfl
    rw [hw1, h1, h2]
    have := heap_alloc_new (w.alloc (.cells #[.int .u8 0, .bool false, .int .u64 0, .string ⟨#[]⟩, .slice none 0 0] 31)) (.cells #[.int .u8 (c : Int), .bool b, .int .u64 (t : Int), .string ⟨#[]⟩, .slice none 0 0] 31)
    rw [show (w.alloc (.cells #[.int .u8 0, .bool false, .int .u64 0, .string ⟨#[]⟩, .slice none 0 0] 31)).heap.size = w.heap.size + 1 by simp] at this
    exact this
  have hp2 := (hB1.block q hqlt).trans hp
  have d1 := blockCell hb3 1
  have d3 := blockCell hp2 3
  have d4 := blockCell hp2 4
  have d5 := blockCell hp2 5
  have d6 := blockCell hp2 6
  simp only [PkCells, List.getElem?_toArray, List.getElem?_cons_zero, List.getElem?_cons_succ] at d1 d3 d4 d5 d6
  rw [← hw1]
  have HB1 := Lib.hid hB1
  have HB2 := Lib.hid hb2
  have HB3 := Lib.hid hb3
  have HW1 := Lib.hid hw1
  clear hw1 hB1 hb2 hb3 c0 c1 c2 hp1
  cases b with
  | false =>
    obtain rfl : items = [] := HI.out rfl
    obtain rfl : xs = [] := by have := HKIDS.out; unfold Kids at this; exact this
    have hbuf : BufAt w1 D row (Lib.byteCells data) := by
      have := HB.out.below HB1.out
      simpa [Ber.body] using this
    have HBUF := Lib.hid hbuf
    clear hbuf
    go_wp2_with fail
    refine (buf_bytes w1 D row _ HBUF.out).mono ?_
    rintro e w2 ⟨v, rfl, hre, hs⟩
    have hconv := reads_string w2 data v hre
    have hb3' : w2.heap[w.heap.size + 1]? = _ := (congrArg (fun h => h[w.heap.size + 1]?) hs.heap).trans HB3.out
    have hp3 : w2.heap[q]? = _ := (congrArg (fun h => h[q]?) hs.heap).trans hp2
    have f3 := blockFrozen hb3' 3
    have d33 := blockCell hb3' 3
    have g6 := blockCell hp3 6
    simp only [PkCells, List.getElem?_toArray, List.getElem?_cons_zero, List.getElem?_cons_succ] at d33 g6
    have hb4 := blockSet hb3' 3 (.string ⟨data.toArray⟩)
    simp only [List.setIfInBounds_toArray, List.set_cons_zero, List.set_cons_succ] at hb4
    have HB4 := Lib.hid hb4
    have hne : q ≠ w.heap.size + 1 := by omega
    have HRE := Lib.hid hre
    have HS := Lib.hid hs
    clear hb3' hp3 hb4 hre hs d1 d3 d4 d5 d6
    go_wp2
    refine wp_loop_rounds 1 ?_
    rw [rounds_succ]
    obtain ⟨w3, hw3⟩ : ∃ w3, w3 = w2.setCell ⟨w.heap.size + 1, 3, none⟩ (.string ⟨data.toArray⟩) := ⟨_, rfl⟩
    rw [← hw3]
    have K3 : Hid (w3.heap[w.heap.size + 1]? = some (.cells #[.int .u8 (c : Int), .bool false, .int .u64 (t : Int), .string ⟨data.toArray⟩, .slice none 0 0] 31 (0, 0))) := Lib.hid (by rw [hw3]; exact HB4.out)
    have K2 : Hid (w3.heap[w.heap.size]? = some (.cells #[.int .u8 0, .bool false, .int .u64 0, .string ⟨#[]⟩, .slice none 0 0] 31 (0, 0))) := Lib.hid (by rw [hw3, Below.heap_setCell _ _ _ _ (by simp)]; exact (congrArg (fun h => h[w.heap.size]?) HS.out.heap).trans HB2.out)
    have KB : Hid (Below w.heap.size w w3) := Lib.hid (by rw [hw3]; exact (HB1.out.trans ⟨HS.out.os, HS.out.tape, HS.out.output, by rw [HS.out.heap]; exact Nat.le_refl _, fun k _ => by rw [HS.out.heap]⟩).setCell (by simp) _)
    clear hw3 f3 d33 g6
    have e0 := blockCell K3.out 0
    have e1 := blockCell K3.out 1
    have e2 := blockCell K3.out 2
    have e3 := blockCell K3.out 3
    have e4 := blockCell K3.out 4
    have k0 := blockCell K2.out 0
    have k1 := blockCell K2.out 1
    have k2 := blockCell K2.out 2
    have k3 := blockCell K2.out 3
    have k4 := blockCell K2.out 4
    have f0 := blockFrozen K2.out 0
    have f1 := blockFrozen K2.out 1
    have f2 := blockFrozen K2.out 2
    have f3 := blockFrozen K2.out 3
    have f4 := blockFrozen K2.out 4
    simp only [List.getElem?_toArray, List.getElem?_cons_zero, List.getElem?_cons_succ] at e0 e1 e2 e3 e4 k0 k1 k2 k3 k4
    go_wp2
    refine bodyPost_ret (results_cell_row rfl _ _ w.heap.size 31 #[.int .u8 (c : Int), .bool false, .int .u64 (t : Int), .string ⟨data.toArray⟩, .slice none 0 0] (0, 0) _ rfl (five_set K2.out _ _ _ _ _) Tryd.underlying31 rfl (by kernel_rfl)) rfl ?_
    refine ⟨_, by simp only [toS]; rfl, ?_, ?_⟩
    · simp only [toS, toSs]; exact Kd.R_nil _ _ _ _ _
    · exact (((((KB.out.setCell (Nat.le_refl _) _).setCell (Nat.le_refl _) _).setCell (Nat.le_refl _) _).setCell (Nat.le_refl _) _).setCell (Nat.le_refl _) _)
  | true =>
    obtain rfl : data = [] := HD.out rfl
    have HP := Lib.hid hp
    have hxl := hkl.out
    clear hp
    go_wp2_with fail
    go_loopg [39] items.length (fun kq v39 w' => ∃ (j : Nat) (u : Value), v39 = .int .i64 j ∧ Hid (j + kq = items.length) ∧ Hid (Kd.R PFnBerForms.k31 31 w' w.heap.size (fun k => k ≠ w.heap.size ∧ k ≠ w.heap.size + 1) u (toSs (items.take j))) ∧
      Hid (w'.heap[w.heap.size]? = some (.cells #[.int .u8 0, .bool false, .int .u64 0, .string ⟨#[]⟩, .slice none 0 0] 31 (0, 0))) ∧
      Hid (w'.heap[w.heap.size + 1]? = some (.cells #[.int .u8 (c : Int), .bool true, .int .u64 (t : Int), .string ⟨#[]⟩, u] 31 (0, 0))) ∧ Hid (Below w.heap.size w w'))
    case atStart => exact ⟨0, _, by go_num, Lib.hid (by simp), Lib.hid (by simp only [List.take_zero, toSs]; exact Kd.R_nil _ _ _ _ _), HB2, HB3, HB1⟩
    case round =>
    obtain ⟨j, u, rfl, HJ, HU, K2, K3, KB⟩ := hrel
    clear d1 d3 d4 d5 d6 hp2
    by_cases hj : j < items.length
    · have hjb : decide ((j : Int) < (xs.length : Int)) = true := by simp; omega
      have hjlt : j < xs.length := by omega
      obtain ⟨q', hxj, hT'⟩ := HT.out.kid HP.out HK.out j hj
      have hcell : wr.cell? ⟨C, j, none⟩ = some (.pointer (some ⟨q', 0, none⟩)) := by
        have h0 := HK.out.cell hxj
        exact (KB.out.cell (World.block_lt_of_cell? w _ h0)).trans h0
      have hlen' : (Ber.enc items[j]).length ≤ 100000000000 := by
        have h1 := enc_le_bodies j hj
        have h2 : (Ber.bodies items).length ≤ (Ber.enc (.mk c true t [] items)).length := by simp only [Ber.enc, Ber.body, List.length_append]; simp; omega
        omega
      have hfew : items.length ≤ 100000000000 := by
        have h1 := count_le_bodies items
        have h2 : (Ber.bodies items).length ≤ (Ber.enc (.mk c true t [] items)).length := by simp only [Ber.enc, Ber.body, List.length_append]; simp; omega
        omega
      have hszj : SizeOf.sizeOf items[j] < n := by
        have h1 := List.sizeOf_lt_of_mem (List.getElem_mem hj)
        have h2 : SizeOf.sizeOf (Ber.Pk.mk c true t [] items) = _ := Ber.Pk.mk.sizeOf_spec c true t [] items
        omega
      have HCALL := Lib.hid (ih items[j] hszj)
      have HTK := Lib.hid (hT'.below KB.out)
      have HLEN := Lib.hid hlen'
      have HFEW := Lib.hid hfew
      have htk1 : toSs (items.take (j + 1)) = toSs (items.take j) ++ [toS items[j]] := by
        rw [List.take_succ_eq_append_getElem hj, toSs_append]; simp [toSs]
      have HTK1 := Lib.hid htk1
      have hgk : ∃ g, gk = g + 1 := ⟨gk - 1, by have := HJ.out; omega⟩
      obtain ⟨g, rfl⟩ := hgk
      clear hT' hlen' hfew hszj htk1
      go_wp2
      have HU1 := Aside0.mk (Kd.R_drew HU.out)
      have K21 := Aside0.mk (blk_drew K2.out)
      have K31 := Aside0.mk (blk_drew K3.out)
      have KB1 := Aside0.mk (below_drew1 KB.out)
      have HTK2 : Hid (TreeKept wr.drew q' items[j]) := Lib.hid (fun w2 h2 => HTK.out w2 h2)
      refine start_ (n := 8) (S := fun w' => w'.cell? ⟨w.heap.size + 1, 4, none⟩ = some u) (ds := [7]) #[false, false, false, false, false, false, false, false] (by kernel_rfl) rfl rfl ((blk_cell K31.out 4).trans rfl) (fun hHeld => ?_)
      refine with_tabW back_tab back_bits (fun HT_ HW_ => ?_)
      clear HU K2 K3 KB HTK
      generalize wr.drew = w22 at HU1 K21 K31 KB1 HTK2 hHeld ⊢
      refine pure_ (i := 0) (N := some 43) (v := ?_) (a' := ?_) #[true, false, false, false, false, false, false, false] rfl rfl (any_of HT_.out (by kernel_rfl)) (fun _ _ _ h => h) (Or.inl ⟨by rfl, ?_⟩) ?_ ?_
      rotate_left
      · intro w'
        go_simp
        with_reducible rfl
      rotate_left
      · simp only [Act.put, List.setIfInBounds_toArray, List.set_cons_zero, List.set_cons_succ]
        rfl
      refine take_ (i := 1) (N := some 44) (v := ?_) (a' := ?_) #[true, true, false, false, false, false, false, false] rfl rfl (take_ofW HT_.out HW_.out (by kernel_rfl)) (fun _ _ _ h => h) (Or.inl ⟨by rfl, ?_⟩) hHeld ?_ ?_
      rotate_left
      · intro w' s0
        go_simp
        with_reducible rfl
      rotate_left
      · simp only [Act.put, List.setIfInBounds_toArray, List.set_cons_zero, List.set_cons_succ]
        rfl
      refine pure_ (i := 2) (N := some 45) (v := ?_) (a' := ?_) #[true, true, true, false, false, false, false, false] rfl rfl (any_of HT_.out (by kernel_rfl)) (fun _ _ _ h => h) (Or.inl ⟨by rfl, ?_⟩) ?_ ?_
      rotate_left
      · intro w'
        go_simp
        with_reducible rfl
      rotate_left
      · simp only [Act.put, List.setIfInBounds_toArray, List.set_cons_zero, List.set_cons_succ]
        rfl
      refine one_ (i := 3) (N := some 46) #[true, true, true, true, false, false, false, false] rfl rfl (one_of HT_.out (by kernel_rfl)) (by decide) (fun K hK => ?_)
      refine goes_ Tryd.func24 (by kernel_rfl) rfl #[.pointer (some ⟨q', 0, none⟩)] (by rfl) rfl rfl (by (try simp only [List.map_toArray, List.map_cons, List.map_nil]); first | done | rfl | (simp only [List.length_drop, List.length_take]; rfl)) ?_
      refine (HCALL.out w22 q' HTK2.out HLEN.out).mono ?_
      rintro e w23 ⟨v192, rfl, ho0, hb⟩
      refine ⟨_, rfl, ?_⟩
      have n0_ := Aside0.mk (Kd.R_elder' HU1.out (Kd.R_base ho0) hb)
      have n1_ := Aside0.mk (Kd.R_lower (Kd.R_newB (Kd.R_newB (Kd.R_new' ho0 (Kd.R_lt HU1.out)) K21.out) K31.out) (below_size KB1.out))
      have n2_ := Aside0.mk (blk_below K21.out hb)
      have n3_ := Aside0.mk (blk_below K31.out hb)
      have n4_ := Aside0.mk (below_step KB1.out hb)
      clear HU1 K21 K31 KB1 ho0 hb
      obtain ⟨Ao25, co25, eo25⟩ := Kd.R_slice n1_.out
      subst eo25
      refine hK.out _ _ ((blk_cell n3_.out 4).trans rfl) (fun hHeld => ?_)
      clear hK K
      refine norm_ (a' := ?_) ?_ ?_
      rotate_left
      · show Act.put _ (some 46) _ = _
        simp only [Act.put, List.setIfInBounds_toArray, List.set_cons_zero, List.set_cons_succ]
        rfl
      refine one_ (i := 4) (N := some 47) #[true, true, true, true, true, false, false, false] rfl rfl (one_of HT_.out (by kernel_rfl)) (by decide) (fun K hK => ?_)
      refine value_ (w1 := ?_) (v := ?_) (by rfl) rfl ?_ ?_
      rotate_left 2
      · go_simp
        constructor
        · rfl
        · rfl
      refine hK.out _ _ ((blk_cell (blk_alloc n3_.out _) 4).trans rfl) (fun hHeld => ?_)
      clear hK K
      refine norm_ (a' := ?_) ?_ ?_
      rotate_left
      · show Act.put _ (some 47) _ = _
        simp only [Act.put, List.setIfInBounds_toArray, List.set_cons_zero, List.set_cons_succ]
        rfl
      refine one_ (i := 5) (N := some 48) #[true, true, true, true, true, true, false, false] rfl rfl (one_of HT_.out (by kernel_rfl)) (by decide) (fun K hK => ?_)
      refine Kd.R_append_step PFnBerForms.k31 (w0 := w) w.heap.size (by rfl) (.tmp 44) (.tmp 47) 29 31 (.agg #[(.int .u8 0), (.bool false), (.int .u64 0), (.string ⟨#[]⟩), (.slice none 0 0)]) 56 rfl Tryd.underlying29 info31 rfl (by decide) (by omega) u (toSs (items.take j)) (toS items[j]) [.int .u8 (toS items[j]).f0, .bool (toS items[j]).f1, .int .u64 (toS items[j]).f2, .string (toS items[j]).f3, .slice Ao25 (toS items[j]).f4.length co25] (fun k_ => k_ ≠ w.heap.size ∧ k_ ≠ w.heap.size + 1) (fun k_ => ((fun k_ => k_ ≠ w.heap.size ∧ k_ ≠ w.heap.size + 1)) k_ ∧ some k_ ≠ (u : Value).ownBlock) rfl rfl ?aP (fun _ hk => hk) ?aF ?aO ?aB ?aS ?aL ?_
      (case aP => exact PFnBerForms.k31_mkM _ _ _ (toS items[j]) (Kd.R_mono (n1_.out) (fun k_ hk => ⟨⟨hk.1.2, hk.2⟩, hk.1.1.2⟩)))
      (case aB => exact (by repeat (first | (with_reducible first | exact n4_.out | apply below_alloc | apply pw_below_drewN | apply below_drew1) | exact n4_.out)))
      (case aF => exact (fun k_ hk => ⟨Kd.freshB n2_.out k_ hk, Kd.freshB n3_.out k_ hk⟩))
      (case aO => exact (by (with_reducible repeat (first | apply Kd.R_alloc | apply Kd.R_drewN | apply Kd.R_drew)); exact Kd.R_mono n0_.out (fun _ hk => ⟨hk.1.1, hk.1.2⟩)))
      (case aS => exact (below_size (by repeat (first | (with_reducible first | exact n4_.out | apply below_alloc | apply pw_below_drewN | apply below_drew1) | exact n4_.out))))
      (case aL => have h1 := HFEW.out; rw [toSs_length, List.length_take]; omega)
      intro v195 w24 ho hb hg hat
      rw [← HTK1.out] at ho
      have m2_ := Aside0.mk (blk_grown n2_.out hg (Kd.R_away n0_.out (fun _ hk => hk.1.1)))
      have m3_ := Aside0.mk (blk_grown n3_.out hg (Kd.R_away n0_.out (fun _ hk => hk.1.2)))
      have m4_ := Aside0.mk hb
      have m5_ := Aside0.mk ho
      clear n0_ n1_ n2_ n3_ n4_ ho hb hg hat
      obtain ⟨Ao26, co26, eo26⟩ := Kd.R_slice m5_.out
      subst eo26
      refine hK.out _ _ ((blk_cell m3_.out 4).trans rfl) (fun hHeld => ?_)
      clear hK K
      refine norm_ (a' := ?_) ?_ ?_
      rotate_left
      · show Act.put _ (some 48) _ = _
        simp only [Act.put, List.setIfInBounds_toArray, List.set_cons_zero, List.set_cons_succ]
        rfl
      refine pure_ (i := 6) (N := some 49) (v := ?_) (a' := ?_) #[true, true, true, true, true, true, true, false] rfl rfl (any_of HT_.out (by kernel_rfl)) (fun _ _ _ h => h) (Or.inl ⟨by rfl, ?_⟩) ?_ ?_
      rotate_left
      · intro w'
        go_simp
        with_reducible rfl
      rotate_left
      · simp only [Act.put, List.setIfInBounds_toArray, List.set_cons_zero, List.set_cons_succ]
        rfl
      refine last_ (i := 7) (N := none) #[true, true, true, true, true, true, true, true] rfl rfl (one_of HT_.out (by kernel_rfl)) (by decide) (fun K hK => ?_)
      have hs27 : w24.cell? ⟨w.heap.size + 1, 4, none⟩ = some u := (blk_cell m3_.out 4).trans rfl
      have hfs27 := blk_frozen m3_.out 4
      refine skip_ (w1 := ?_) (by rfl) rfl ?_ ?_
      rotate_left
      · go_simp
        rfl
      refine hK.out _ _ ?_
      clear hK K
      refine done_ (done_of HT_.out (by kernel_rfl)) ?_
      have hjsm : j < 1000000000000 := by have := HFEW.out; omega
      go_wp2
      go_roundg g
      case measure => exact Nat.lt_succ_self _
      case rel => exact ⟨j + 1, _, by go_num, Lib.hid (by have := HJ.out; omega), Lib.hid (Kd.R_mono (Kd.R_far (p := ⟨w.heap.size + 1, 4, none⟩) m5_.out (fun k_ hk => hk.2) _) (fun _ hk => hk)), Lib.hid (by rw [Below.heap_setCell _ _ _ _ (by simp)]; exact m2_.out), Lib.hid (by have := blockSet m3_.out 4 (.slice Ao26 (toSs (items.take (j + 1))).length co26); simpa using this), Lib.hid (m4_.out.setCell (by simp) _)⟩
    · have hje : j = items.length := by have := HJ.out; omega
      have hjb : decide ((j : Int) < (xs.length : Int)) = false := by simp; omega
      obtain ⟨Ao, co, eo⟩ := Kd.R_slice HU.out
      subst eo
      have hto : toSs (items.take j) = toSs items := by rw [hje, List.take_length]
      have HTO := Lib.hid hto
      clear hje hto
      have e0 := blockCell K3.out 0
      have e1 := blockCell K3.out 1
      have e2 := blockCell K3.out 2
      have e3 := blockCell K3.out 3
      have e4 := blockCell K3.out 4
      have k0 := blockCell K2.out 0
      have k1 := blockCell K2.out 1
      have k2 := blockCell K2.out 2
      have k3 := blockCell K2.out 3
      have k4 := blockCell K2.out 4
      have f0 := blockFrozen K2.out 0
      have f1 := blockFrozen K2.out 1
      have f2 := blockFrozen K2.out 2
      have f3 := blockFrozen K2.out 3
      have f4 := blockFrozen K2.out 4
      simp only [List.getElem?_toArray, List.getElem?_cons_zero, List.getElem?_cons_succ] at e0 e1 e2 e3 e4 k0 k1 k2 k3 k4
      go_wp2
      refine bodyPost_ret (results_cell_row rfl _ _ w.heap.size 31 #[.int .u8 (c : Int), .bool true, .int .u64 (t : Int), .string ⟨#[]⟩, .slice Ao (toSs (items.take j)).length co] (0, 0) _ rfl (five_set K2.out _ _ _ _ _) Tryd.underlying31 rfl (by kernel_rfl)) rfl ?_
      refine ⟨_, by simp only [toS]; rfl, ?_, ?_⟩
      · simp only [toS]
        rw [← HTO.out]
        exact Kd.R_mono (Kd.R_far (p := ⟨w.heap.size, 4, none⟩) (Kd.R_far (p := ⟨w.heap.size, 3, none⟩) (Kd.R_far (p := ⟨w.heap.size, 2, none⟩) (Kd.R_far (p := ⟨w.heap.size, 1, none⟩) (Kd.R_far (p := ⟨w.heap.size, 0, none⟩) HU.out (fun _ hk => hk.1) _) (fun _ hk => hk.1) _) (fun _ hk => hk.1) _) (fun _ hk => hk.1) _) (fun _ hk => hk.1) _) (fun _ _ => trivial)
      · exact (((((KB.out.setCell (Nat.le_refl _) _).setCell (Nat.le_refl _) _).setCell (Nat.le_refl _) _).setCell (Nat.le_refl _) _).setCell (Nat.le_refl _) _)
end Go.Proofs.YtdfehaonngccjaaDoor

