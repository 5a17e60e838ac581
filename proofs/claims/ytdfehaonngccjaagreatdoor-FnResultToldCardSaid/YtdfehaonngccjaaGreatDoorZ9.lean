/- The words of the thin package's values, as the print writes them for the reference's. -/
import Derived.Test.YtdfehaonngccjaaGreatDoorZ8
import Derived.Test.YtdfehaonngccjaaGreatDoorPFnResultToldx0
import Derived.BigRegion
set_option linter.unusedVariables false
set_option linter.unusedSimpArgs false
namespace Go.Proofs.YtdfehaonngccjaaGreatDoor.PImpl
open Go.RowKit Go.Proofs.YtdfehaonngccjaaGreatDoorW.PrintWords Go.Proofs.YtdfehaonngccjaaGreatDoorW.PrintLast Go.Proofs.YtdfehaonngccjaaGreatDoorW.PrintMore

theorem info46 : (Tryz.prog.info? 46).map (fun i => (i.zero, i.size, i.bytes)) = some (some (.agg #[(.int .u8 0), (.bool false), (.int .u64 0), (.string ⟨#[]⟩), (.slice none 0 0)]), 5, 56) := by kernel_rfl
structure S46 where
  f0 : Int
  f1 : Bool
  f2 : Int
  f3 : ByteArray
  f4 : (List S46)
def z46 : S46 := ⟨(0 : Int), false, (0 : Int), (⟨#[]⟩ : ByteArray), ([] : List S46)⟩
def F46 (d : Kd S46) : Kd S46 := Kd.iso (Kd.pair (Kd.int .u8) (Kd.pair Kd.bool (Kd.pair (Kd.int .u64) (Kd.pair Kd.string (Kd.slice 46 d))))) (fun x : S46 => (x.f0, x.f1, x.f2, x.f3, x.f4))
theorem mono46 : Kd.Mono F46 := Kd.mono_iso _ (Kd.mono_pair (Kd.mono_const _) (Kd.mono_pair (Kd.mono_const _) (Kd.mono_pair (Kd.mono_const _) (Kd.mono_pair (Kd.mono_const _) (Kd.mono_slice 46 Kd.mono_id)))))
theorem sub46 : Kd.Sub F46 [46] := Kd.sub_iso _ (Kd.sub_pair (Kd.sub_const _ (by decide)) (Kd.sub_pair (Kd.sub_const _ (by decide)) (Kd.sub_pair (Kd.sub_const _ (by decide)) (Kd.sub_pair (Kd.sub_const _ (by decide)) (Kd.sub_slice 46 (by decide) Kd.sub_id)))))
theorem sz46 : ∀ n, (Kd.upto F46 5 [46] n).sz = 5 := Kd.upto_sz (fun _ => rfl)
def k46 : Kd S46 := Kd.fix F46 5 [46] sz46 (Kd.upto_E sub46)
theorem k46_open {w : World} {x : S46} {cs : List Value} (h : k46.K w x cs) : ∃ A4 c4, cs = [.int .u8 x.f0, .bool x.f1, .int .u64 x.f2, .string x.f3, .slice A4 x.f4.length c4] ∧ x.f4.length ≤ c4 ∧ k46.C w A4 x.f4.length x.f4 := by
  obtain ⟨n, h⟩ := h
  cases n with
  | zero => exact h.elim
  | succ n =>
    obtain ⟨_, _, rfl, rfl, ⟨_, _, rfl, rfl, ⟨_, _, rfl, rfl, ⟨_, _, rfl, rfl, ⟨A4, c4, rfl, l4, g4⟩⟩⟩⟩⟩ := h
    exact ⟨A4, c4, rfl, l4, Kd.fix_C g4⟩
theorem k46_openM {w : World} {base : Nat} {ok : Nat → Prop} {x : S46} {cs : List Value} (h : k46.M w base ok x cs) : ∃ v4, cs = [.int .u8 x.f0, .bool x.f1, .int .u64 x.f2, .string x.f3, v4] ∧ k46.R 46 w base ok v4 x.f4 := by
  obtain ⟨n, h⟩ := h
  cases n with
  | zero => exact h.elim
  | succ n =>
    obtain ⟨_, _, rfl, rfl, ⟨_, _, rfl, rfl, ⟨_, _, rfl, rfl, ⟨_, _, rfl, rfl, ⟨v4, rfl, g4⟩⟩⟩⟩⟩ := h
    exact ⟨v4, rfl, Kd.fix_R g4⟩
theorem k46_mk (w : World) (x : S46) {A4 : Option Addr} {c4 : Nat} (l4 : x.f4.length ≤ c4) (g4 : k46.C w A4 x.f4.length x.f4) : k46.K w x [.int .u8 x.f0, .bool x.f1, .int .u64 x.f2, .string x.f3, .slice A4 x.f4.length c4] := by
  obtain ⟨n4, q4⟩ := Kd.fix_C_back mono46 g4
  have r4 := Kd.upto_C_le mono46 sz46 (show n4 ≤ n4 by omega) q4
  exact ⟨n4 + 1, ⟨[.int .u8 x.f0], [.bool x.f1, .int .u64 x.f2, .string x.f3, .slice A4 x.f4.length c4], rfl, rfl, ⟨[.bool x.f1], [.int .u64 x.f2, .string x.f3, .slice A4 x.f4.length c4], rfl, rfl, ⟨[.int .u64 x.f2], [.string x.f3, .slice A4 x.f4.length c4], rfl, rfl, ⟨[.string x.f3], [.slice A4 x.f4.length c4], rfl, rfl, ⟨A4, c4, rfl, l4, r4⟩⟩⟩⟩⟩⟩
theorem k46_mkM (w : World) (base : Nat) (ok : Nat → Prop) (x : S46) {v4 : Value} (g4 : k46.R 46 w base ok v4 x.f4) : k46.M w base ok x [.int .u8 x.f0, .bool x.f1, .int .u64 x.f2, .string x.f3, v4] := by
  obtain ⟨n4, q4⟩ := Kd.fix_R_back mono46 g4
  have r4 := Kd.upto_R_le mono46 sz46 (show n4 ≤ n4 by omega) q4
  exact ⟨n4 + 1, ⟨[.int .u8 x.f0], [.bool x.f1, .int .u64 x.f2, .string x.f3, v4], rfl, rfl, ⟨[.bool x.f1], [.int .u64 x.f2, .string x.f3, v4], rfl, rfl, ⟨[.int .u64 x.f2], [.string x.f3, v4], rfl, rfl, ⟨[.string x.f3], [v4], rfl, rfl, ⟨v4, rfl, r4⟩⟩⟩⟩⟩⟩
def rd_T46 (xs : List S46) (i : Int) : S46 := xs.getD i.toNat z46
theorem at_T46 {w : World} {A : Option Addr} {n : Nat} {xs : List S46} (h : Kd.C k46 w A n xs) (i : Int) (h0 : 0 ≤ i) (h1 : i < n) : ∃ ad A4 c4, A = some ad ∧ w.cell? (ad.add (i.toNat * 5)) = some (.int .u8 (rd_T46 xs i).f0) ∧ w.cell? ⟨(ad.add (i.toNat * 5)).block, (ad.add (i.toNat * 5)).off + 1, none⟩ = some (.bool (rd_T46 xs i).f1) ∧ w.cell? ⟨(ad.add (i.toNat * 5)).block, (ad.add (i.toNat * 5)).off + 2, none⟩ = some (.int .u64 (rd_T46 xs i).f2) ∧ w.cell? ⟨(ad.add (i.toNat * 5)).block, (ad.add (i.toNat * 5)).off + 3, none⟩ = some (.string (rd_T46 xs i).f3) ∧ w.cell? ⟨(ad.add (i.toNat * 5)).block, (ad.add (i.toNat * 5)).off + 4, none⟩ = some (.slice A4 (rd_T46 xs i).f4.length c4) ∧ (rd_T46 xs i).f4.length ≤ c4 ∧ k46.C w A4 (rd_T46 xs i).f4.length (rd_T46 xs i).f4 := by
  obtain ⟨ad, c, e, _, hK, hc0⟩ := Kd.C_get h z46 i h0 h1
  have hc : ∀ j u, c[j]? = some u → w.cell? (ad.add (i.toNat * 5 + j)) = some u := hc0
  obtain ⟨A4, c4, rfl, l4, g4⟩ := k46_open hK
  exact ⟨ad, A4, c4, e, hc 0 _ rfl, by rw [← add_field _ _ 1 (by omega)]; exact hc 1 _ rfl, by rw [← add_field _ _ 2 (by omega)]; exact hc 2 _ rfl, by rw [← add_field _ _ 3 (by omega)]; exact hc 3 _ rfl, by rw [← add_field _ _ 4 (by omega)]; exact hc 4 _ rfl, l4, g4⟩
end Go.Proofs.YtdfehaonngccjaaGreatDoor.PImpl

/- back: a packet in memory as a value of the thin package. -/
namespace Go.Proofs.YtdfehaonngccjaaGreatDoor
open Go Go.RowKit Go.Proofs.YtdfehaonngccjaaGreatDoorW.PrintWords Go.Proofs.YtdfehaonngccjaaGreatDoorW.PrintLast Go.Proofs.YtdfehaonngccjaaGreatDoorW.PrintMore

mutual
def toS : Ber.Pk → PImpl.S46
  | .mk c b t data items => ⟨(c : Int), b, (t : Int), ⟨data.toArray⟩, toSs items⟩
def toSs : List Ber.Pk → List PImpl.S46
  | [] => []
  | x :: r => toS x :: toSs r
end
theorem toSs_append : ∀ (l m : List Ber.Pk), toSs (l ++ m) = toSs l ++ toSs m
  | [], m => by simp [toSs]
  | x :: l, m => by simp [toSs, toSs_append l m]
theorem toSs_length : ∀ (l : List Ber.Pk), (toSs l).length = l.length
  | [] => rfl
  | x :: l => by simp [toSs, toSs_length l]

theorem Kids.at_ : ∀ {w : World} {xs : List Value} {items : List Ber.Pk}, Kids w xs items → ∀ j (hj : j < items.length), ∃ q, xs[j]? = some (.pointer (some ⟨q, 0, none⟩)) ∧ Tree w q items[j]
  | w, xs, [], h, j, hj => absurd hj (Nat.not_lt_zero _)
  | w, xs, x :: r, h, j, hj => by
    unfold Kids at h
    obtain ⟨q, vs, rfl, h1, h2⟩ := h
    cases j with
    | zero => exact ⟨q, rfl, h1⟩
    | succ j =>
      obtain ⟨q', e, ht⟩ := Kids.at_ h2 j (by simpa using hj)
      exact ⟨q', by simpa using e, by simpa using ht⟩

theorem enc_le_bodies : ∀ {items : List Ber.Pk} (j : Nat) (hj : j < items.length), (Ber.enc items[j]).length ≤ (Ber.bodies items).length
  | [], j, hj => absurd hj (Nat.not_lt_zero _)
  | .mk c b t d i :: r, 0, hj => by simp only [List.getElem_cons_zero, Ber.bodies, Ber.enc, List.length_append]; omega
  | .mk c b t d i :: r, j + 1, hj => by
    have := enc_le_bodies (items := r) j (by simpa using hj)
    simp only [List.getElem_cons_succ, Ber.bodies, List.length_append]; omega
theorem ident_pos (c : Nat) (b : Bool) (t : Nat) : 1 ≤ (Ber.identBytes c b t).length := by
  unfold Ber.identBytes; split <;> simp
theorem count_le_bodies : ∀ (items : List Ber.Pk), items.length ≤ (Ber.bodies items).length
  | [] => Nat.zero_le _
  | .mk c b t d i :: r => by
    have := count_le_bodies r
    have := ident_pos c b t
    simp only [Ber.bodies, List.length_append, List.length_cons]; omega

/-- Every heap that agrees on what stood bears the packet. -/
def TreeKept (w : World) (q : Nat) (p : Ber.Pk) : Prop := ∀ w2 : World, (∀ k, k < w.heap.size → w2.heap[k]? = w.heap[k]?) → Tree w2 q p
theorem TreeKept.of {B : Nat} {w : World} {q : Nat} {p : Ber.Pk} (h : Stable B w (fun _ => False) (fun w2 => Tree w2 q p)) : TreeKept w q p := fun w2 h2 => h w2 fun k _ hk _ => h2 k hk
theorem TreeKept.below {w w' : World} {q : Nat} {p : Ber.Pk} (h : TreeKept w q p) (hb : Below w.heap.size w w') : TreeKept w' q p :=
  fun w2 h2 => h w2 fun k hk => (h2 k (Nat.lt_of_lt_of_le hk hb.size)).trans (hb.block k hk)
theorem TreeKept.now {w : World} {q : Nat} {p : Ber.Pk} (h : TreeKept w q p) : Tree w q p := h w fun _ _ => rfl

theorem conv_nil (w : World) (c : Nat) : (convert 25 9 (.slice none 0 c)).run Tryz.prog w = .ok (.string ⟨#[]⟩) w := by kernel_rfl
theorem reads_string (w : World) (l : List UInt8) (v : Value) (h : Reads w (Lib.byteCells l) v) :
    (convert 25 9 v).run Tryz.prog w = .ok (.string ⟨l.toArray⟩) w := by
  obtain ⟨ao, c, rfl, h⟩ := h
  have hlen : (Lib.byteCells l).length = l.length := by simp [Lib.byteCells]
  rw [hlen]
  rcases h with h | ⟨g, rfl, -, hs⟩
  · have h0 : l = [] := by cases l with | nil => rfl | cons a b => simp [Lib.byteCells] at h
    subst h0
    cases ao with
    | none => exact conv_nil w c
    | some a => exact run_convert_bytes_back (P := Tryz.prog) w 25 9 5 a c [] Tryz.underlying25 Tryz.underlying5 Tryz.underlying9 (fun j hj => absurd hj (Nat.not_lt_zero _))
  · exact run_convert_bytes_back (P := Tryz.prog) w 25 9 5 ⟨g, 0, none⟩ c l Tryz.underlying25 Tryz.underlying5 Tryz.underlying9 (fun j hj => by
      have := hs j (.int .u8 (l[j]).toNat) (by simp [Lib.byteCells, List.getElem?_eq_getElem hj])
      have hadd : (⟨g, 0, none⟩ : Addr).add j = ⟨g, j, none⟩ := by unfold Addr.add; split <;> simp_all
      rw [hadd]; exact this)

theorem five_set {w : World} {g : Nat} {x0 x1 x2 x3 x4 : Value} {t : TypeId} {fr : Nat × Nat} (h : w.heap[g]? = some (.cells #[x0, x1, x2, x3, x4] t fr)) (a b c d e : Value) :
    (((((w.setCell ⟨g, 0, none⟩ a).setCell ⟨g, 1, none⟩ b).setCell ⟨g, 2, none⟩ c).setCell ⟨g, 3, none⟩ d).setCell ⟨g, 4, none⟩ e).heap[g]? = some (.cells #[a, b, c, d, e] t fr) := by
  have := blockSet (blockSet (blockSet (blockSet (blockSet h 0 a) 1 b) 2 c) 3 d) 4 e
  simpa using this

theorem TreeKept.kid {w : World} {q c t : Nat} {b : Bool} {data : List UInt8} {items : List Ber.Pk} (h : TreeKept w q (.mk c b t data items)) {a0 a2 D C cap : Nat} {y : Int} {v3 v4 v7 : Value} {xs : List Value}
    (hp : w.heap[q]? = some (.cells (PkCells (a0 : Int) y (a2 : Int) v3 v4 D (.slice (some ⟨C, 0, none⟩) xs.length cap) v7) 92 (0, 0))) (hk : KidRow w C cap xs) (j : Nat) (hj : j < items.length) :
    ∃ q', xs[j]? = some (.pointer (some ⟨q', 0, none⟩)) ∧ TreeKept w q' items[j] := by
  have hq := blockLt hp
  have hCl := hk.lt
  have key : ∀ w2 : World, (∀ k, k < w.heap.size → w2.heap[k]? = w.heap[k]?) → Kids w2 xs items := by
    intro w2 h2
    have ht := h w2 h2
    unfold Tree at ht
    obtain ⟨D', row', C', cap', bv', xs', _, _, hp', _, hk', _, _, _, hkids⟩ := ht
    rw [h2 q hq, hp] at hp'
    simp only [PkCells, Option.some.injEq, Obj.cells.injEq, Array.mk.injEq, List.cons.injEq, Value.slice.injEq, Addr.mk.injEq, and_true] at hp'
    obtain ⟨cur, e1, e2, e3, e4, e5⟩ := hk
    obtain ⟨cur', g1, g2, g3, g4, g5⟩ := hk'
    have hC : C' = C := by have := hp'; simp at this; first | done | omega
    have hl : xs'.length = xs.length := by have := hp'; simp at this; first | done | omega
    subst hC
    rw [h2 _ hCl, e1] at g1
    simp only [Option.some.injEq, Obj.cells.injEq] at g1
    obtain ⟨rfl, -⟩ := g1
    have : xs' = xs := by rw [← g5, ← e5, hl]
    subst this
    exact hkids
  obtain ⟨q', hq', _⟩ := (key w (fun _ _ => rfl)).at_ j hj
  refine ⟨q', hq', fun w2 h2 => ?_⟩
  obtain ⟨q2, h3, h4⟩ := (key w2 h2).at_ j hj
  rw [hq'] at h3
  simp only [Option.some.injEq, Value.pointer.injEq, Addr.mk.injEq, and_true] at h3
  subst h3
  exact h4

def backT : Bool × List (List Nat × List Nat) := (true, [([], []), ([0], [0]), ([], []), ([2], [2]), ([3], [3]), ([1, 4, 3], [1, 4]), ([0, 1, 2, 3, 4, 5], []), ([6, 5, 5, 0, 1, 2, 3, 4, 5], [5, 6])])
def backB : List Nat := [0, 1, 0, 4, 12, 31, 63, 127]
theorem back_tab : rtab .any (opsOf Tryz.f24 7) = backT := by kernel_rfl
theorem back_bits : waitsOk backT.2 backB = true := by kernel_rfl
theorem info31 : (Tryz.prog.info? 46).map (fun i => (i.zero, i.size, i.bytes)) = some (some (.agg #[(.int .u8 0), (.bool false), (.int .u64 0), (.string ⟨#[]⟩), (.slice none 0 0)]), 5, 56) := by kernel_rfl

set_option maxRecDepth 100000 in
set_option maxHeartbeats 8000000 in
theorem back_any (n : Nat) : ∀ (p : Ber.Pk), SizeOf.sizeOf p < n → ∀ (w : World) (q : Nat), TreeKept w q p → (Ber.enc p).length ≤ 100000000000 →
    Calls Tryz.prog 24 #[.pointer (some ⟨q, 0, none⟩)] w fun e w' => ∃ v4 : Value, e = .returned (.agg #[.int .u8 (toS p).f0, .bool (toS p).f1, .int .u64 (toS p).f2, .string (toS p).f3, v4]) ∧ Kd.R PImpl.k46 46 w' w.heap.size (fun _ => True) v4 (toS p).f4 ∧ Below w.heap.size w w' := by
  induction n with
  | zero => intro p h; omega
  | succ n ih =>
  rintro ⟨c, b, t, data, items⟩ hsz w q hT hlen
  have hnow := hT.now
  unfold Tree at hnow
  obtain ⟨D, row, C, cap, bv, xs, hc, ht, hp, hb, hk, hbv, hi, hd, hkids⟩ := hnow
  obtain ⟨y, hy⟩ : ∃ y : Int, y = (if b then 32 else 0) := ⟨_, rfl⟩
  rw [← hy] at hp
  obtain ⟨x, hx⟩ : ∃ x : Nat, x = c * 64 := ⟨_, rfl⟩
  rw [← hx] at hp
  have hqlt := blockLt hp
  have hu31 := Tryz.underlying46
  have H1 := Lib.hid hy
  have H2 := Lib.hid hx
  have HT := Lib.hid hT
  have HB := Lib.hid hb
  have HK := Lib.hid hk
  have HKIDS := Lib.hid hkids
  have hkl := Lib.hid hkids.length
  have HI := Lib.hid hi
  have HD := Lib.hid hd
  have hp1 := (Below.heap_alloc w (.cells #[.int .u8 0, .bool false, .int .u64 0, .string ⟨#[]⟩, .slice none 0 0] 46) q hqlt).trans hp
  have c0 := blockCell hp1 0
  have c1 := blockCell hp1 1
  have c2 := blockCell hp1 2
  simp only [PkCells, List.getElem?_toArray, List.getElem?_cons_zero, List.getElem?_cons_succ] at c0 c1 c2
  clear hy hx hT hb hk hkids hi hd hbv
  go_enter Tryz.func24, Tryz.ntmps24
  go_wp2
  go_region
  obtain ⟨w1, hw1⟩ : ∃ w1, w1 = ((w.alloc (.cells #[.int .u8 0, .bool false, .int .u64 0, .string ⟨#[]⟩, .slice none 0 0] 46)).alloc (.cells #[.int .u8 ((x : Int) / 64), .bool (y == 32), .int .u64 (t : Int), .string ⟨#[]⟩, .slice none 0 0] 46)).drew := ⟨_, rfl⟩
  have hB1 : Below w.heap.size w w1 := by
    rw [hw1]
    exact (((Below.refl _ w).alloc (Nat.le_refl _) _).alloc (by simp) _).drew
  have hb2 : w1.heap[w.heap.size]? = some (.cells #[.int .u8 0, .bool false, .int .u64 0, .string ⟨#[]⟩, .slice none 0 0] 46 (0, 0)) := by
    rw [hw1]
    exact (Below.heap_alloc _ _ _ (by simp)).trans (heap_alloc_new w _)
  have hb3 : w1.heap[w.heap.size + 1]? = some (.cells #[.int .u8 (c : Int), .bool b, .int .u64 (t : Int), .string ⟨#[]⟩, .slice none 0 0] 46 (0, 0)) := by
    have h1 : ((x : Int) / 64) = c := by rw [H2.out]; omega
    have h2 : (y == 32) = b := by rw [H1.out]; cases b <;> rfl
    rw [hw1, h1, h2]
    have := heap_alloc_new (w.alloc (.cells #[.int .u8 0, .bool false, .int .u64 0, .string ⟨#[]⟩, .slice none 0 0] 46)) (.cells #[.int .u8 (c : Int), .bool b, .int .u64 (t : Int), .string ⟨#[]⟩, .slice none 0 0] 46)
    rw [show (w.alloc (.cells #[.int .u8 0, .bool false, .int .u64 0, .string ⟨#[]⟩, .slice none 0 0] 46)).heap.size = w.heap.size + 1 by simp] at this
    exact this
  have hp2 := (hB1.block q hqlt).trans hp
  have d1 := blockCell hb3 1
  have d3 := blockCell hp2 3
  have d4 := blockCell hp2 4
  have d5 := blockCell hp2 5
  have d6 := blockCell hp2 6
  simp only [PkCells, List.getElem?_toArray, List.getElem?_cons_zero, List.getElem?_cons_succ] at d1 d3 d4 d5 d6
  rw [← hw1]
  have HB1 := Lib.hid hB1
  have HB2 := Lib.hid hb2
  have HB3 := Lib.hid hb3
  have HW1 := Lib.hid hw1
  clear hw1 hB1 hb2 hb3 c0 c1 c2 hp1
  cases b with
  | false =>
    obtain rfl : items = [] := HI.out rfl
    obtain rfl : xs = [] := by have := HKIDS.out; unfold Kids at this; exact this
    have hbuf : BufAt w1 D row (Lib.byteCells data) := by
      have := HB.out.below HB1.out
      simpa [Ber.body] using this
    have HBUF := Lib.hid hbuf
    clear hbuf
    go_wp2_with fail
    refine (buf_bytes w1 D row _ HBUF.out).mono ?_
    rintro e w2 ⟨v, rfl, hre, hs⟩
    have hconv := reads_string w2 data v hre
    have hb3' : w2.heap[w.heap.size + 1]? = _ := (congrArg (fun h => h[w.heap.size + 1]?) hs.heap).trans HB3.out
    have hp3 : w2.heap[q]? = _ := (congrArg (fun h => h[q]?) hs.heap).trans hp2
    have f3 := blockFrozen hb3' 3
    have d33 := blockCell hb3' 3
    have g6 := blockCell hp3 6
    simp only [PkCells, List.getElem?_toArray, List.getElem?_cons_zero, List.getElem?_cons_succ] at d33 g6
    have hb4 := blockSet hb3' 3 (.string ⟨data.toArray⟩)
    simp only [List.setIfInBounds_toArray, List.set_cons_zero, List.set_cons_succ] at hb4
    have HB4 := Lib.hid hb4
    have hne : q ≠ w.heap.size + 1 := by omega
    have HRE := Lib.hid hre
    have HS := Lib.hid hs
    clear hb3' hp3 hb4 hre hs d1 d3 d4 d5 d6
    go_wp2
    refine wp_loop_rounds 1 ?_
    rw [rounds_succ]
    obtain ⟨w3, hw3⟩ : ∃ w3, w3 = w2.setCell ⟨w.heap.size + 1, 3, none⟩ (.string ⟨data.toArray⟩) := ⟨_, rfl⟩
    rw [← hw3]
    have K3 : Hid (w3.heap[w.heap.size + 1]? = some (.cells #[.int .u8 (c : Int), .bool false, .int .u64 (t : Int), .string ⟨data.toArray⟩, .slice none 0 0] 46 (0, 0))) := Lib.hid (by rw [hw3]; exact HB4.out)
    have K2 : Hid (w3.heap[w.heap.size]? = some (.cells #[.int .u8 0, .bool false, .int .u64 0, .string ⟨#[]⟩, .slice none 0 0] 46 (0, 0))) := Lib.hid (by rw [hw3, Below.heap_setCell _ _ _ _ (by simp)]; exact (congrArg (fun h => h[w.heap.size]?) HS.out.heap).trans HB2.out)
    have KB : Hid (Below w.heap.size w w3) := Lib.hid (by rw [hw3]; exact (HB1.out.trans ⟨HS.out.os, HS.out.tape, HS.out.output, by rw [HS.out.heap]; exact Nat.le_refl _, fun k _ => by rw [HS.out.heap]⟩).setCell (by simp) _)
    clear hw3 f3 d33 g6
    have e0 := blockCell K3.out 0
    have e1 := blockCell K3.out 1
    have e2 := blockCell K3.out 2
    have e3 := blockCell K3.out 3
    have e4 := blockCell K3.out 4
    have k0 := blockCell K2.out 0
    have k1 := blockCell K2.out 1
    have k2 := blockCell K2.out 2
    have k3 := blockCell K2.out 3
    have k4 := blockCell K2.out 4
    have f0 := blockFrozen K2.out 0
    have f1 := blockFrozen K2.out 1
    have f2 := blockFrozen K2.out 2
    have f3 := blockFrozen K2.out 3
    have f4 := blockFrozen K2.out 4
    simp only [List.getElem?_toArray, List.getElem?_cons_zero, List.getElem?_cons_succ] at e0 e1 e2 e3 e4 k0 k1 k2 k3 k4
    go_wp2
    refine bodyPost_ret (results_cell_row rfl _ _ w.heap.size 46 #[.int .u8 (c : Int), .bool false, .int .u64 (t : Int), .string ⟨data.toArray⟩, .slice none 0 0] (0, 0) _ rfl (five_set K2.out _ _ _ _ _) Tryz.underlying46 rfl (by kernel_rfl)) rfl ?_
    refine ⟨_, by simp only [toS]; rfl, ?_, ?_⟩
    · simp only [toS, toSs]; exact Kd.R_nil _ _ _ _ _
    · exact (((((KB.out.setCell (Nat.le_refl _) _).setCell (Nat.le_refl _) _).setCell (Nat.le_refl _) _).setCell (Nat.le_refl _) _).setCell (Nat.le_refl _) _)
  | true =>
    obtain rfl : data = [] := HD.out rfl
    have HP := Lib.hid hp
    have hxl := hkl.out
    clear hp
    go_wp2_with fail
    go_loopg [39] items.length (fun kq v39 w' => ∃ (j : Nat) (u : Value), v39 = .int .i64 j ∧ Hid (j + kq = items.length) ∧ Hid (Kd.R PImpl.k46 46 w' w.heap.size (fun k => k ≠ w.heap.size ∧ k ≠ w.heap.size + 1) u (toSs (items.take j))) ∧
      Hid (w'.heap[w.heap.size]? = some (.cells #[.int .u8 0, .bool false, .int .u64 0, .string ⟨#[]⟩, .slice none 0 0] 46 (0, 0))) ∧
      Hid (w'.heap[w.heap.size + 1]? = some (.cells #[.int .u8 (c : Int), .bool true, .int .u64 (t : Int), .string ⟨#[]⟩, u] 46 (0, 0))) ∧ Hid (Below w.heap.size w w'))
    case atStart => exact ⟨0, _, by go_num, Lib.hid (by simp), Lib.hid (by simp only [List.take_zero, toSs]; exact Kd.R_nil _ _ _ _ _), HB2, HB3, HB1⟩
    case round =>
    obtain ⟨j, u, rfl, HJ, HU, K2, K3, KB⟩ := hrel
    clear d1 d3 d4 d5 d6 hp2
    by_cases hj : j < items.length
    · have hjb : decide ((j : Int) < (xs.length : Int)) = true := by simp; omega
      have hjlt : j < xs.length := by omega
      obtain ⟨q', hxj, hT'⟩ := HT.out.kid HP.out HK.out j hj
      have hcell : wr.cell? ⟨C, j, none⟩ = some (.pointer (some ⟨q', 0, none⟩)) := by
        have h0 := HK.out.cell hxj
        exact (KB.out.cell (World.block_lt_of_cell? w _ h0)).trans h0
      have hlen' : (Ber.enc items[j]).length ≤ 100000000000 := by
        have h1 := enc_le_bodies j hj
        have h2 : (Ber.bodies items).length ≤ (Ber.enc (.mk c true t [] items)).length := by simp only [Ber.enc, Ber.body, List.length_append]; simp; omega
        omega
      have hfew : items.length ≤ 100000000000 := by
        have h1 := count_le_bodies items
        have h2 : (Ber.bodies items).length ≤ (Ber.enc (.mk c true t [] items)).length := by simp only [Ber.enc, Ber.body, List.length_append]; simp; omega
        omega
      have hszj : SizeOf.sizeOf items[j] < n := by
        have h1 := List.sizeOf_lt_of_mem (List.getElem_mem hj)
        have h2 : SizeOf.sizeOf (Ber.Pk.mk c true t [] items) = _ := Ber.Pk.mk.sizeOf_spec c true t [] items
        omega
      have HCALL := Lib.hid (ih items[j] hszj)
      have HTK := Lib.hid (hT'.below KB.out)
      have HLEN := Lib.hid hlen'
      have HFEW := Lib.hid hfew
      have htk1 : toSs (items.take (j + 1)) = toSs (items.take j) ++ [toS items[j]] := by
        rw [List.take_succ_eq_append_getElem hj, toSs_append]; simp [toSs]
      have HTK1 := Lib.hid htk1
      have hgk : ∃ g, gk = g + 1 := ⟨gk - 1, by have := HJ.out; omega⟩
      obtain ⟨g, rfl⟩ := hgk
      clear hT' hlen' hfew hszj htk1
      go_wp2
      have HU1 := Aside0.mk (Kd.R_drew HU.out)
      have K21 := Aside0.mk (blk_drew K2.out)
      have K31 := Aside0.mk (blk_drew K3.out)
      have KB1 := Aside0.mk (below_drew1 KB.out)
      have HTK2 : Hid (TreeKept wr.drew q' items[j]) := Lib.hid (fun w2 h2 => HTK.out w2 h2)
      refine start_ (n := 8) (S := fun w' => w'.cell? ⟨w.heap.size + 1, 4, none⟩ = some u) (ds := [7]) #[false, false, false, false, false, false, false, false] (by kernel_rfl) rfl rfl ((blk_cell K31.out 4).trans rfl) (fun hHeld => ?_)
      refine with_tabW back_tab back_bits (fun HT_ HW_ => ?_)
      clear HU K2 K3 KB HTK
      generalize wr.drew = w22 at HU1 K21 K31 KB1 HTK2 hHeld ⊢
      refine pure_ (i := 0) (N := some 43) (v := ?_) (a' := ?_) #[true, false, false, false, false, false, false, false] rfl rfl (any_of HT_.out (by kernel_rfl)) (fun _ _ _ h => h) (Or.inl ⟨by rfl, ?_⟩) ?_ ?_
      rotate_left
      · intro w'
        go_simp
        with_reducible rfl
      rotate_left
      · simp only [Act.put, List.setIfInBounds_toArray, List.set_cons_zero, List.set_cons_succ]
        rfl
      refine take_ (i := 1) (N := some 44) (v := ?_) (a' := ?_) #[true, true, false, false, false, false, false, false] rfl rfl (take_ofW HT_.out HW_.out (by kernel_rfl)) (fun _ _ _ h => h) (Or.inl ⟨by rfl, ?_⟩) hHeld ?_ ?_
      rotate_left
      · intro w' s0
        go_simp
        with_reducible rfl
      rotate_left
      · simp only [Act.put, List.setIfInBounds_toArray, List.set_cons_zero, List.set_cons_succ]
        rfl
      refine pure_ (i := 2) (N := some 45) (v := ?_) (a' := ?_) #[true, true, true, false, false, false, false, false] rfl rfl (any_of HT_.out (by kernel_rfl)) (fun _ _ _ h => h) (Or.inl ⟨by rfl, ?_⟩) ?_ ?_
      rotate_left
      · intro w'
        go_simp
        with_reducible rfl
      rotate_left
      · simp only [Act.put, List.setIfInBounds_toArray, List.set_cons_zero, List.set_cons_succ]
        rfl
      refine one_ (i := 3) (N := some 46) #[true, true, true, true, false, false, false, false] rfl rfl (one_of HT_.out (by kernel_rfl)) (by decide) (fun K hK => ?_)
      refine goes_ Tryz.func24 (by kernel_rfl) rfl #[.pointer (some ⟨q', 0, none⟩)] (by rfl) rfl rfl (by (try simp only [List.map_toArray, List.map_cons, List.map_nil]); first | done | rfl | (simp only [List.length_drop, List.length_take]; rfl)) ?_
      refine (HCALL.out w22 q' HTK2.out HLEN.out).mono ?_
      rintro e w23 ⟨v192, rfl, ho0, hb⟩
      refine ⟨_, rfl, ?_⟩
      have n0_ := Aside0.mk (Kd.R_elder' HU1.out (Kd.R_base ho0) hb)
      have n1_ := Aside0.mk (Kd.R_lower (Kd.R_newB (Kd.R_newB (Kd.R_new' ho0 (Kd.R_lt HU1.out)) K21.out) K31.out) (below_size KB1.out))
      have n2_ := Aside0.mk (blk_below K21.out hb)
      have n3_ := Aside0.mk (blk_below K31.out hb)
      have n4_ := Aside0.mk (below_step KB1.out hb)
      clear HU1 K21 K31 KB1 ho0 hb
      obtain ⟨Ao25, co25, eo25⟩ := Kd.R_slice n1_.out
      subst eo25
      refine hK.out _ _ ((blk_cell n3_.out 4).trans rfl) (fun hHeld => ?_)
      clear hK K
      refine norm_ (a' := ?_) ?_ ?_
      rotate_left
      · show Act.put _ (some 46) _ = _
        simp only [Act.put, List.setIfInBounds_toArray, List.set_cons_zero, List.set_cons_succ]
        rfl
      refine one_ (i := 4) (N := some 47) #[true, true, true, true, true, false, false, false] rfl rfl (one_of HT_.out (by kernel_rfl)) (by decide) (fun K hK => ?_)
      refine value_ (w1 := ?_) (v := ?_) (by rfl) rfl ?_ ?_
      rotate_left 2
      · go_simp
        constructor
        · rfl
        · rfl
      refine hK.out _ _ ((blk_cell (blk_alloc n3_.out _) 4).trans rfl) (fun hHeld => ?_)
      clear hK K
      refine norm_ (a' := ?_) ?_ ?_
      rotate_left
      · show Act.put _ (some 47) _ = _
        simp only [Act.put, List.setIfInBounds_toArray, List.set_cons_zero, List.set_cons_succ]
        rfl
      refine one_ (i := 5) (N := some 48) #[true, true, true, true, true, true, false, false] rfl rfl (one_of HT_.out (by kernel_rfl)) (by decide) (fun K hK => ?_)
      refine Kd.R_append_step PImpl.k46 (w0 := w) w.heap.size (by rfl) (.tmp 44) (.tmp 47) 44 46 (.agg #[(.int .u8 0), (.bool false), (.int .u64 0), (.string ⟨#[]⟩), (.slice none 0 0)]) 56 rfl Tryz.underlying44 info31 rfl (by decide) (by omega) u (toSs (items.take j)) (toS items[j]) [.int .u8 (toS items[j]).f0, .bool (toS items[j]).f1, .int .u64 (toS items[j]).f2, .string (toS items[j]).f3, .slice Ao25 (toS items[j]).f4.length co25] (fun k_ => k_ ≠ w.heap.size ∧ k_ ≠ w.heap.size + 1) (fun k_ => ((fun k_ => k_ ≠ w.heap.size ∧ k_ ≠ w.heap.size + 1)) k_ ∧ some k_ ≠ (u : Value).ownBlock) rfl rfl ?aP (fun _ hk => hk) ?aF ?aO ?aB ?aS ?aL ?_
      (case aP => exact PImpl.k46_mkM _ _ _ (toS items[j]) (Kd.R_mono (n1_.out) (fun k_ hk => ⟨⟨hk.1.2, hk.2⟩, hk.1.1.2⟩)))
      (case aB => exact (by repeat (first | (with_reducible first | exact n4_.out | apply below_alloc | apply pw_below_drewN | apply below_drew1) | exact n4_.out)))
      (case aF => exact (fun k_ hk => ⟨Kd.freshB n2_.out k_ hk, Kd.freshB n3_.out k_ hk⟩))
      (case aO => exact (by (with_reducible repeat (first | apply Kd.R_alloc | apply Kd.R_drewN | apply Kd.R_drew)); exact Kd.R_mono n0_.out (fun _ hk => ⟨hk.1.1, hk.1.2⟩)))
      (case aS => exact (below_size (by repeat (first | (with_reducible first | exact n4_.out | apply below_alloc | apply pw_below_drewN | apply below_drew1) | exact n4_.out))))
      (case aL => have h1 := HFEW.out; rw [toSs_length, List.length_take]; omega)
      intro v195 w24 ho hb hg hat
      rw [← HTK1.out] at ho
      have m2_ := Aside0.mk (blk_grown n2_.out hg (Kd.R_away n0_.out (fun _ hk => hk.1.1)))
      have m3_ := Aside0.mk (blk_grown n3_.out hg (Kd.R_away n0_.out (fun _ hk => hk.1.2)))
      have m4_ := Aside0.mk hb
      have m5_ := Aside0.mk ho
      clear n0_ n1_ n2_ n3_ n4_ ho hb hg hat
      obtain ⟨Ao26, co26, eo26⟩ := Kd.R_slice m5_.out
      subst eo26
      refine hK.out _ _ ((blk_cell m3_.out 4).trans rfl) (fun hHeld => ?_)
      clear hK K
      refine norm_ (a' := ?_) ?_ ?_
      rotate_left
      · show Act.put _ (some 48) _ = _
        simp only [Act.put, List.setIfInBounds_toArray, List.set_cons_zero, List.set_cons_succ]
        rfl
      refine pure_ (i := 6) (N := some 49) (v := ?_) (a' := ?_) #[true, true, true, true, true, true, true, false] rfl rfl (any_of HT_.out (by kernel_rfl)) (fun _ _ _ h => h) (Or.inl ⟨by rfl, ?_⟩) ?_ ?_
      rotate_left
      · intro w'
        go_simp
        with_reducible rfl
      rotate_left
      · simp only [Act.put, List.setIfInBounds_toArray, List.set_cons_zero, List.set_cons_succ]
        rfl
      refine last_ (i := 7) (N := none) #[true, true, true, true, true, true, true, true] rfl rfl (one_of HT_.out (by kernel_rfl)) (by decide) (fun K hK => ?_)
      have hs27 : w24.cell? ⟨w.heap.size + 1, 4, none⟩ = some u := (blk_cell m3_.out 4).trans rfl
      have hfs27 := blk_frozen m3_.out 4
      refine skip_ (w1 := ?_) (by rfl) rfl ?_ ?_
      rotate_left
      · go_simp
        rfl
      refine hK.out _ _ ?_
      clear hK K
      refine done_ (done_of HT_.out (by kernel_rfl)) ?_
      have hjsm : j < 1000000000000 := by have := HFEW.out; omega
      go_wp2
      go_roundg g
      case measure => exact Nat.lt_succ_self _
      case rel => exact ⟨j + 1, _, by go_num, Lib.hid (by have := HJ.out; omega), Lib.hid (Kd.R_mono (Kd.R_far (p := ⟨w.heap.size + 1, 4, none⟩) m5_.out (fun k_ hk => hk.2) _) (fun _ hk => hk)), Lib.hid (by rw [Below.heap_setCell _ _ _ _ (by simp)]; exact m2_.out), Lib.hid (by have := blockSet m3_.out 4 (.slice Ao26 (toSs (items.take (j + 1))).length co26); simpa using this), Lib.hid (m4_.out.setCell (by simp) _)⟩
    · have hje : j = items.length := by have := HJ.out; omega
      have hjb : decide ((j : Int) < (xs.length : Int)) = false := by simp; omega
      obtain ⟨Ao, co, eo⟩ := Kd.R_slice HU.out
      subst eo
      have hto : toSs (items.take j) = toSs items := by rw [hje, List.take_length]
      have HTO := Lib.hid hto
      clear hje hto
      have e0 := blockCell K3.out 0
      have e1 := blockCell K3.out 1
      have e2 := blockCell K3.out 2
      have e3 := blockCell K3.out 3
      have e4 := blockCell K3.out 4
      have k0 := blockCell K2.out 0
      have k1 := blockCell K2.out 1
      have k2 := blockCell K2.out 2
      have k3 := blockCell K2.out 3
      have k4 := blockCell K2.out 4
      have f0 := blockFrozen K2.out 0
      have f1 := blockFrozen K2.out 1
      have f2 := blockFrozen K2.out 2
      have f3 := blockFrozen K2.out 3
      have f4 := blockFrozen K2.out 4
      simp only [List.getElem?_toArray, List.getElem?_cons_zero, List.getElem?_cons_succ] at e0 e1 e2 e3 e4 k0 k1 k2 k3 k4
      go_wp2
      refine bodyPost_ret (results_cell_row rfl _ _ w.heap.size 46 #[.int .u8 (c : Int), .bool true, .int .u64 (t : Int), .string ⟨#[]⟩, .slice Ao (toSs (items.take j)).length co] (0, 0) _ rfl (five_set K2.out _ _ _ _ _) Tryz.underlying46 rfl (by kernel_rfl)) rfl ?_
      refine ⟨_, by simp only [toS]; rfl, ?_, ?_⟩
      · simp only [toS]
        rw [← HTO.out]
        exact Kd.R_mono (Kd.R_far (p := ⟨w.heap.size, 4, none⟩) (Kd.R_far (p := ⟨w.heap.size, 3, none⟩) (Kd.R_far (p := ⟨w.heap.size, 2, none⟩) (Kd.R_far (p := ⟨w.heap.size, 1, none⟩) (Kd.R_far (p := ⟨w.heap.size, 0, none⟩) HU.out (fun _ hk => hk.1) _) (fun _ hk => hk.1) _) (fun _ hk => hk.1) _) (fun _ hk => hk.1) _) (fun _ hk => hk.1) _) (fun _ _ => trivial)
      · exact (((((KB.out.setCell (Nat.le_refl _) _).setCell (Nat.le_refl _) _).setCell (Nat.le_refl _) _).setCell (Nat.le_refl _) _).setCell (Nat.le_refl _) _)
end Go.Proofs.YtdfehaonngccjaaGreatDoor

/- impl.read and BerRead. -/
namespace Go.Proofs.YtdfehaonngccjaaGreatDoor
open Go Go.RowKit Go.Proofs.YtdfehaonngccjaaGreatDoorW.PrintWords Go.Proofs.YtdfehaonngccjaaGreatDoorW.PrintLast Go.Proofs.YtdfehaonngccjaaGreatDoorW.PrintMore

theorem results_cell_two {P : Program} {fn : Func} {p a b : Tmp} {ty : TypeId} (h : fn.results = #[.cell p ty, .tmp a, .tmp b]) (tmps : Array Value) (w : World) (g : Nat) (t : TypeId) (cs : Array Value) (fr : Nat × Nat) (d : TypeDesc)
    (hp : tmps.getD p undef = .pointer (some ⟨g, 0, none⟩)) (hg : w.heap[g]? = some (.cells cs t fr))
    (hu : P.underlying ty = some d) (hd : (match d with | .struct _ | .array _ _ => true | _ => false) = true) (hi : (P.info? ty).map (·.size) = some cs.size) :
    (results fn tmps).run P w = .ok (.tuple #[.agg cs, tmps.getD a undef, tmps.getD b undef]) w := by
  have hp' : tmps[p]?.getD undef = .pointer (some ⟨g, 0, none⟩) := by simpa using hp
  simp [results, h, hp', asAddr, run_loadVar_row w g t ty cs fr d hg hu hd hi]
theorem results_cell_one {P : Program} {fn : Func} {p a : Tmp} {ty : TypeId} (h : fn.results = #[.cell p ty, .tmp a]) (tmps : Array Value) (w : World) (g : Nat) (t : TypeId) (cs : Array Value) (fr : Nat × Nat) (d : TypeDesc)
    (hp : tmps.getD p undef = .pointer (some ⟨g, 0, none⟩)) (hg : w.heap[g]? = some (.cells cs t fr))
    (hu : P.underlying ty = some d) (hd : (match d with | .struct _ | .array _ _ => true | _ => false) = true) (hi : (P.info? ty).map (·.size) = some cs.size) :
    (results fn tmps).run P w = .ok (.tuple #[.agg cs, tmps.getD a undef]) w := by
  have hp' : tmps[p]?.getD undef = .pointer (some ⟨g, 0, none⟩) := by simpa using hp
  simp [results, h, hp', asAddr, run_loadVar_row w g t ty cs fr d hg hu hd hi]

theorem conv_bytes (w : World) (s : ByteArray) : (convert 9 25 (.string s)).run Tryz.prog w = .ok (.slice (some ⟨w.heap.size, 0, none⟩) s.size (grownCap w s.size 0 5)) (Lib.bytesWorld w 5 s) :=
  Lib.run_convert_string_bytes w 9 25 5 s Tryz.underlying9 Tryz.underlying25 Tryz.underlying5

/-- The world behind bytes.NewReader([]byte(s)). -/
def readerW (w : World) (s : ByteArray) : World := (Lib.bytesWorld w 5 s).alloc (.cells #[.slice (some ⟨w.heap.size, 0, none⟩) s.size (grownCap w s.size 0 5), .int .i64 0, .int .i64 (-1)] 99)
theorem readerW_below (w : World) (s : ByteArray) : Below w.heap.size w (readerW w s) := (bytesWorld_below _ w 5 s (Nat.le_refl _)).alloc (by rw [Lib.bytesWorld_size]; omega) _
theorem readerW_size (w : World) (s : ByteArray) : (readerW w s).heap.size = w.heap.size + 2 := by unfold readerW; simp [Lib.bytesWorld_size]
theorem readerW_rd (w : World) (s : ByteArray) (hl : s.size < 1000000000) : Rd (readerW w s) (w.heap.size + 1) w.heap.size s.data.toList 0 := rd_new w s hl

theorem new_reader (w : World) (s : ByteArray) :
    Calls Tryz.prog 22 #[.slice (some ⟨w.heap.size, 0, none⟩) s.size (grownCap w s.size 0 5)] (Lib.bytesWorld w 5 s) fun e w' => e = .returned (.pointer (some ⟨w.heap.size + 1, 0, none⟩)) ∧ w' = readerW w s := by
  refine (newReader_any _ _ _ _).mono fun e w' ⟨h1, h2⟩ => ⟨?_, h2.symm⟩
  rw [h1, Lib.bytesWorld_size]

/-- impl.read of bytes. -/
def ImplOut (B : Nat) (r : Ber.Res) (e : Ending) (w' : World) : Prop :=
  match r with
  | .bad => True
  | .err => ∃ t : ByteArray, 0 < t.size ∧ e = .returned (.tuple #[.pointer none, .string t])
  | .ok p rest => if rest = [] then ∃ q : Nat, e = .returned (.tuple #[.pointer (some ⟨q, 0, none⟩), .string ⟨#[]⟩]) ∧ B ≤ q ∧ Stable B w' (fun _ => False) (fun w2 => Tree w2 q p)
    else ∃ t : ByteArray, 0 < t.size ∧ e = .returned (.tuple #[.pointer none, .string t])

set_option maxRecDepth 100000 in
set_option maxHeartbeats 4000000 in
theorem impl_read (N : Nat) (w : World) (s : ByteArray) (hE : Env N w) (hN : N ≤ w.heap.size) (hl : s.size < 1000000000) (f : Nat) (r : Ber.Res) (hr : Ber.readP f 0 s.data.toList = r) (hnb : r ≠ .bad) :
    Calls Tryz.prog 19 #[.string s] w fun e w' => ImplOut w.heap.size r e w' ∧ Below w.heap.size w w' := by
  have hcv := conv_bytes w s
  have hnr := new_reader w s
  have hb := readerW_below w s
  have hsz := readerW_size w s
  have hrp := read_packet N (readerW w s) (w.heap.size + 1) w.heap.size s.data.toList (readerW_rd w s hl) (hE.below hb hN) (by omega) f r hr hnb
  have hna := nil_ahead_err
  have hme := method_err
  have HNR := Lib.hid hnr
  have HRP := Lib.hid hrp
  have HB := Lib.hid hb
  have HSZ := Lib.hid hsz
  have HL := Lib.hid hl
  clear hnr hrp hb hsz hE hr hl
  go_enter Tryz.func19, Tryz.ntmps19
  go_wp2_with fail
  refine HNR.out.mono ?_
  rintro e w1 ⟨rfl, rfl⟩
  go_wp2_with fail
  refine HRP.out.mono ?_
  rintro e w2 ⟨ho, hk⟩
  have hbel : Below w.heap.size w w2 := HB.out.trans ((hk.mono HB.out.size).toBelow (by omega))
  have HBEL := Lib.hid hbel
  have HBE := Lib.hid (HB.out.size)
  clear hk hbel
  cases r with
  | bad => exact absurd rfl hnb
  | err =>
    obtain ⟨ev, rfl, hev⟩ := ho
    obtain ⟨a, rfl, -, t, cs, tt, hblk, hcl, ht0, -⟩ := hev
    go_wp2_with fail
    refine (errText_any w2 a t hcl).mono ?_
    rintro e w3 ⟨rfl, rfl⟩
    go_wp2
    go_ret2
    exact ⟨⟨t, ht0, rfl⟩, HBEL.out⟩
  | ok p rest =>
    obtain ⟨q, k, rfl, hq, hst, hrd, hrest⟩ := ho
    have hlen := reader_len w2 _ _ _ _ hrd
    have hrl : (s.data.toList.length - k) = rest.length := by rw [hrest, List.length_drop]
    have HREST := Lib.hid hrl
    have HST := Lib.hid hst
    have HQ := Lib.hid hq
    have hklt : ((s.data.toList.length - k : Nat) : Int) < 1000000000 := by have := hrd.len; omega
    obtain ⟨m, hm⟩ : ∃ m : Nat, m = s.data.toList.length - k := ⟨_, rfl⟩
    rw [← hm] at hlen
    have HLEN := Lib.hid hlen
    have HM := Lib.hid hm
    clear hrest hst hrd hq hlen hrl hm hklt
    go_wp2_with fail
    refine HLEN.out.mono ?_
    rintro e w3 ⟨rfl, hs⟩
    have HS := Lib.hid hs
    clear hs
    by_cases hr0 : rest = []
    · subst hr0
      obtain rfl : m = 0 := by rw [HM.out, HREST.out]; rfl
      go_wp2
      go_ret2
      refine ⟨?_, HBEL.out.trans ⟨HS.out.os, HS.out.tape, HS.out.output, by rw [HS.out.heap]; exact Nat.le_refl _, fun k _ => by rw [HS.out.heap]⟩⟩
      unfold ImplOut
      simp only []
      rw [if_pos trivial]
      refine ⟨q, rfl, Nat.le_trans HBE.out HQ.out, fun w4 h4 => HST.out w4 fun k h1 h2 h3 => ?_⟩
      rw [h4 k (Nat.le_trans HBE.out h1) (by rw [HS.out.heap]; exact h2) id, HS.out.heap]
    · have hm0 : 0 < m := by rw [HM.out, HREST.out]; exact List.length_pos_iff.2 hr0
      go_wp2
      go_ret2
      refine ⟨?_, HBEL.out.trans ⟨HS.out.os, HS.out.tape, HS.out.output, by rw [HS.out.heap]; exact Nat.le_refl _, fun k _ => by rw [HS.out.heap]⟩⟩
      unfold ImplOut
      simp only []
      rw [if_neg hr0]
      exact ⟨_, by decide, rfl⟩

/-- BerRead of bytes. -/
def ReadSaid (B : Nat) (size : Nat) (r : Ber.Res) (e : Ending) (w' : World) : Prop :=
  match r with
  | .bad => True
  | .err => ∃ t : ByteArray, 0 < t.size ∧ e = .returned (.tuple #[.agg #[.int .u8 0, .bool false, .int .u64 0, .string ⟨#[]⟩, .slice none 0 0], .int .i64 0, .string t])
  | .ok p rest => ∃ v4 : Value, e = .returned (.tuple #[.agg #[.int .u8 (toS p).f0, .bool (toS p).f1, .int .u64 (toS p).f2, .string (toS p).f3, v4], .int .i64 ((size - rest.length : Nat) : Int), .string ⟨#[]⟩]) ∧ Kd.R PImpl.k46 46 w' B (fun _ => True) v4 (toS p).f4

set_option maxRecDepth 100000 in
set_option maxHeartbeats 4000000 in
theorem ber_read (N : Nat) (w : World) (s : ByteArray) (hE : Env N w) (hN : N ≤ w.heap.size) (hl : s.size < 1000000000) (f : Nat) (r : Ber.Res) (hr : Ber.readP f 0 s.data.toList = r) (hnb : r ≠ .bad) :
    Calls Tryz.prog 14 #[.string s] w fun e w' => ReadSaid w.heap.size s.size r e w' ∧ Below w.heap.size w w' := by
  obtain ⟨w0, hw0⟩ : ∃ w0, w0 = w.alloc (.cells #[.int .u8 0, .bool false, .int .u64 0, .string ⟨#[]⟩, .slice none 0 0] 46) := ⟨_, rfl⟩
  have hB0 : Below w.heap.size w w0 := by rw [hw0]; exact (Below.refl _ w).alloc (Nat.le_refl _) _
  have hK0 : w0.heap[w.heap.size]? = some (.cells #[.int .u8 0, .bool false, .int .u64 0, .string ⟨#[]⟩, .slice none 0 0] 46 (0, 0)) := by rw [hw0]; exact heap_alloc_new w _
  have hsz0 : w0.heap.size = w.heap.size + 1 := by rw [hw0]; simp
  have hcv := conv_bytes w0 s
  have hnr := new_reader w0 s
  have hb := readerW_below w0 s
  have hsz := readerW_size w0 s
  have hrp := read_packet N (readerW w0 s) (w0.heap.size + 1) w0.heap.size s.data.toList (readerW_rd w0 s hl) ((hE.below hB0 hN).below hb (by omega)) (by omega) f r hr hnb
  have hna := nil_ahead_err
  have hme := method_err
  have HNR := Lib.hid hnr
  have HRP := Lib.hid hrp
  have HB := Lib.hid hb
  have HB0 := Lib.hid hB0
  have HK0 := Lib.hid hK0
  have HSZ := Lib.hid hsz
  have HL := Lib.hid hl
  have HR := Lib.hid hr
  clear hnr hrp hb hsz hE hr hl hB0 hK0
  go_enter Tryz.func14, Tryz.ntmps14
  go_wp2_with fail
  rw [← hw0, hcv]
  have HSZ0 := Lib.hid hsz0
  clear hw0 hsz0
  go_wp2_with fail
  refine HNR.out.mono ?_
  rintro e w1 ⟨rfl, rfl⟩
  go_wp2_with fail
  refine HRP.out.mono ?_
  rintro e w2 ⟨ho, hk⟩
  have hbel0 : Below w0.heap.size w0 w2 := HB.out.trans ((hk.mono HB.out.size).toBelow (by omega))
  have HBEL0 := Lib.hid hbel0
  have HBE := Lib.hid (HB.out.size)
  clear hk hbel0
  cases r with
  | bad => exact absurd rfl hnb
  | err =>
    obtain ⟨ev, rfl, hev⟩ := ho
    obtain ⟨a, rfl, -, t, cs, tt, hblk, hcl, ht0, -⟩ := hev
    have hK1 : w2.heap[w.heap.size]? = _ := (HBEL0.out.block w.heap.size (by have := HSZ0.out; omega)).trans HK0.out
    have HK1 := Lib.hid hK1
    clear hK1
    go_wp2_with fail
    refine (errText_any w2 a t hcl).mono ?_
    rintro e w3 ⟨rfl, rfl⟩
    have k0 := blockCell HK1.out 0
    have k1 := blockCell HK1.out 1
    have k2 := blockCell HK1.out 2
    have k3 := blockCell HK1.out 3
    have k4 := blockCell HK1.out 4
    have f0 := blockFrozen HK1.out 0
    have f1 := blockFrozen HK1.out 1
    have f2 := blockFrozen HK1.out 2
    have f3 := blockFrozen HK1.out 3
    have f4 := blockFrozen HK1.out 4
    simp only [List.getElem?_toArray, List.getElem?_cons_zero, List.getElem?_cons_succ] at k0 k1 k2 k3 k4
    go_wp2
    refine bodyPost_ret (results_cell_two rfl _ _ w.heap.size 46 _ (0, 0) _ rfl (five_set HK1.out _ _ _ _ _) Tryz.underlying46 rfl (by kernel_rfl)) rfl ?_
    exact ⟨⟨t, ht0, rfl⟩, (((((HB0.out.trans (HBEL0.out.mono (by have := HSZ0.out; omega))).setCell (Nat.le_refl _) _).setCell (Nat.le_refl _) _).setCell (Nat.le_refl _) _).setCell (Nat.le_refl _) _).setCell (Nat.le_refl _) _⟩
  | ok p rest =>
    obtain ⟨q, k, rfl, hq, hst, hrd, hrest⟩ := ho
    have hfits := Ber.readP_fits _ _ _ _ _ HR.out
    have henc : (Ber.enc p).length ≤ 100000000000 := by
      have h1 := hfits.size
      have h2 := HL.out
      simp at h1
      omega
    have hback := back_any (SizeOf.sizeOf p + 1) p (Nat.lt_succ_self _) w2 q (TreeKept.of hst) henc
    have hK1 : w2.heap[w.heap.size]? = _ := (HBEL0.out.block w.heap.size (by have := HSZ0.out; omega)).trans HK0.out
    have HK1 := Lib.hid hK1
    have HBACK := Lib.hid hback
    have HRD := Lib.hid hrd
    have HREST := Lib.hid hrest
    clear hK1 hback hrd hrest hst henc hfits
    go_wp2_with fail
    refine HBACK.out.mono ?_
    rintro e w3 ⟨v4, rfl, hv4, hb3⟩
    obtain ⟨Ao, co, eo⟩ := Kd.R_slice hv4
    subst eo
    have hrd3 : Rd w3 (w0.heap.size + 1) w0.heap.size s.data.toList k := HRD.out.stays (hb3.block _ HRD.out.lt) (hb3.block _ (by have := HRD.out.lt; omega))
    have hlen := reader_len w3 _ _ _ _ hrd3
    obtain ⟨m, hm⟩ : ∃ m : Nat, m = s.data.toList.length - k := ⟨_, rfl⟩
    rw [← hm] at hlen
    have hms : m ≤ s.size := by rw [hm]; simp
    have HLEN := Lib.hid hlen
    have HM := Lib.hid hm
    have HV4 := Lib.hid hv4
    have HB3 := Lib.hid hb3
    clear hlen hm hv4 hb3 hrd3
    have hl9 : s.size < 1000000000 := HL.out
    go_wp2_with fail
    refine HLEN.out.mono ?_
    rintro e w4 ⟨rfl, hs⟩
    have hsb : Below w3.heap.size w3 w4 := ⟨hs.os, hs.tape, hs.output, by rw [hs.heap]; exact Nat.le_refl _, fun k _ => by rw [hs.heap]⟩
    have hK4 : w4.heap[w.heap.size]? = _ := (congrArg (fun h => h[w.heap.size]?) hs.heap).trans ((HB3.out.block w.heap.size (blockLt HK1.out)).trans HK1.out)
    have HK4 := Lib.hid hK4
    have HBS := Lib.hid ((((HB0.out.trans (HBEL0.out.mono (by have := HSZ0.out; omega)))).trans (HB3.out.mono (by have := blockLt HK1.out; omega))).trans (hsb.mono (by have := blockLt HK1.out; have := HB3.out.size; omega)))
    have HV5 := Lib.hid (Kd.R_newB (Kd.R_below HV4.out hsb) HK1.out)
    have k0 := blockCell hK4 0
    have k1 := blockCell hK4 1
    have k2 := blockCell hK4 2
    have k3 := blockCell hK4 3
    have k4 := blockCell hK4 4
    have f0 := blockFrozen hK4 0
    have f1 := blockFrozen hK4 1
    have f2 := blockFrozen hK4 2
    have f3 := blockFrozen hK4 3
    have f4 := blockFrozen hK4 4
    simp only [List.getElem?_toArray, List.getElem?_cons_zero, List.getElem?_cons_succ] at k0 k1 k2 k3 k4
    have e1 : ((s.size - rest.length : Nat) : Int) = (s.size : Int) - (m : Int) := by
      have h1 : rest.length = m := by rw [HREST.out, List.length_drop, HM.out]
      rw [h1]; omega
    have E1 := Lib.hid e1
    clear hs hsb hK4 e1
    go_wp2
    refine bodyPost_ret (results_cell_two rfl _ _ w.heap.size 46 _ (0, 0) _ rfl (five_set HK4.out _ _ _ _ _) Tryz.underlying46 rfl (by kernel_rfl)) rfl ?_
    refine ⟨⟨_, by rw [E1.out]; rfl, ?_⟩, (((((HBS.out).setCell (Nat.le_refl _) _).setCell (Nat.le_refl _) _).setCell (Nat.le_refl _) _).setCell (Nat.le_refl _) _).setCell (Nat.le_refl _) _⟩
    exact Kd.R_lower (Kd.R_mono (Kd.R_far (p := ⟨w.heap.size, 4, none⟩) (Kd.R_far (p := ⟨w.heap.size, 3, none⟩) (Kd.R_far (p := ⟨w.heap.size, 2, none⟩) (Kd.R_far (p := ⟨w.heap.size, 1, none⟩) (Kd.R_far (p := ⟨w.heap.size, 0, none⟩) HV5.out (fun _ hk => hk.2) _) (fun _ hk => hk.2) _) (fun _ hk => hk.2) _) (fun _ hk => hk.2) _) (fun _ hk => hk.2) _) (fun _ _ => trivial)) (by have := blockLt HK1.out; omega)
end Go.Proofs.YtdfehaonngccjaaGreatDoor

/- ResultOf of a message with a result. -/
namespace Go.Proofs.YtdfehaonngccjaaGreatDoor
open Go Go.RowKit

namespace Ber
/-- A message with a result. -/
def refPks (refs : List (List UInt8)) : List Pk := refs.map fun s => .mk 0 false 4 s []
def partPks (cb matched text : List UInt8) (refs : List (List UInt8)) : List Pk :=
  .mk 0 false 10 cb [] :: .mk 0 false 4 matched [] :: .mk 0 false 4 text [] :: (if refs = [] then [] else [.mk 2 true 3 [] (refPks refs)])
def resPk (idb : List UInt8) (kind : Nat) (cb matched text : List UInt8) (refs : List (List UInt8)) : Pk :=
  .mk 0 true 16 [] [.mk 0 false 2 idb [], .mk 1 true kind [] (partPks cb matched text refs)]
end Ber

theorem four_set {w : World} {g : Nat} {x0 x1 x2 x3 : Value} {t : TypeId} {fr : Nat × Nat} (h : w.heap[g]? = some (.cells #[x0, x1, x2, x3] t fr)) (a b c d : Value) :
    ((((w.setCell ⟨g, 0, none⟩ a).setCell ⟨g, 1, none⟩ b).setCell ⟨g, 2, none⟩ c).setCell ⟨g, 3, none⟩ d).heap[g]? = some (.cells #[a, b, c, d] t fr) := by
  have e := blockSet (blockSet (blockSet (blockSet h 0 a) 1 b) 2 c) 3 d
  simpa using e

theorem kids_cons {w : World} {xs : List Value} {x : Ber.Pk} {r : List Ber.Pk} (h : Kids w xs (x :: r)) : ∃ q vs, xs = .pointer (some ⟨q, 0, none⟩) :: vs ∧ Tree w q x ∧ Kids w vs r := by
  unfold Kids at h; exact h
theorem kids_nil {w : World} {xs : List Value} (h : Kids w xs []) : xs = [] := by
  unfold Kids at h; exact h
/-- What is known of a packet's block. -/
theorem tree_prim {w : World} {q t : Nat} {data : List UInt8} (h : Tree w q (.mk 0 false t data [])) : ∃ kv, PkAt w q 0 0 t (valOf 0 false t data) kv := by
  unfold Tree at h
  obtain ⟨D, row, C, cap, bv, xs, hc, ht, hp, -⟩ := h
  exact ⟨_, D, bv, _, by simpa using hp⟩
theorem tree_built {w : World} {q c t : Nat} {items : List Ber.Pk} (h : Tree w q (.mk c true t [] items)) :
    ∃ (C cap : Nat) (xs : List Value), PkAt w q ((c * 64 : Nat) : Int) 32 t .nilIface (.slice (some ⟨C, 0, none⟩) xs.length cap) ∧ KidRow w C cap xs ∧ Kids w xs items := by
  unfold Tree at h
  obtain ⟨D, row, C, cap, bv, xs, hc, ht, hp, hb, hk, hbv, h1, h2, hkids⟩ := h
  exact ⟨C, cap, xs, ⟨D, bv, _, by simpa [valOf] using hp⟩, hk, hkids⟩

theorem res_of_tree {w : World} {q : Nat} {idb : List UInt8} {kind : Nat} {cb matched text : List UInt8} {refs : List (List UInt8)} (h : Tree w q (Ber.resPk idb kind cb matched text refs)) (lo : 0 ≤ parseOf cb) (hi : parseOf cb ≤ 127) (hr : refs.length ≤ 4) :
    ∃ q1 a b c C1 n1 cap1 : Nat, ResMsg w q q1 a b c C1 n1 cap1 kind (parseOf cb) ⟨matched.toArray⟩ ⟨text.toArray⟩ ∧ RefMsg w C1 n1 ⟨(refs.headD []).toArray⟩ := by
  unfold Ber.resPk at h
  obtain ⟨C, cap, xs, hq, hrow, hkids⟩ := tree_built h
  obtain ⟨q0, vs, rfl, -, hkids⟩ := kids_cons hkids
  obtain ⟨q1, vs, rfl, h1, hkids⟩ := kids_cons hkids
  obtain rfl := kids_nil hkids
  have hc1 := hrow.cell (j := 1) rfl
  obtain ⟨C1, cap1, xs1, hq1, hrow1, hk1⟩ := tree_built h1
  unfold Ber.partPks at hk1
  obtain ⟨a, vs, rfl, ha, hk1⟩ := kids_cons hk1
  obtain ⟨b, vs, rfl, hb, hk1⟩ := kids_cons hk1
  obtain ⟨c, vs, rfl, hcc, hk1⟩ := kids_cons hk1
  have k0 := hrow1.cell (j := 0) rfl
  have k1 := hrow1.cell (j := 1) rfl
  have k2 := hrow1.cell (j := 2) rfl
  obtain ⟨kva, pa⟩ := tree_prim ha
  obtain ⟨kvb, pb⟩ := tree_prim hb
  obtain ⟨kvc, pc⟩ := tree_prim hcc
  have top : ∃ (a0 a1 a2 : Int) (val : Value) (C cap : Nat), PkAt w q a0 a1 a2 val (.slice (some ⟨C, 0, none⟩) 2 cap) ∧ w.cell? ⟨C, 1, none⟩ = some (.pointer (some ⟨q1, 0, none⟩)) := ⟨_, _, _, _, C, cap, hq, hc1⟩
  have va : valOf 0 false 10 cb = .iface 2 (.int .i64 (parseOf cb)) := by simp [valOf]
  have vb : ∀ l, valOf 0 false 4 l = .iface 9 (.string ⟨l.toArray⟩) := fun l => by simp [valOf]
  rw [va] at pa
  rw [vb] at pb pc
  cases refs with
  | nil =>
    rw [if_pos rfl] at hk1
    obtain rfl := kids_nil hk1
    exact ⟨q1, a, b, c, C1, 3, cap1, ⟨top, by simpa using hq1, by omega, by omega, k0, k1, k2, ⟨kva, pa⟩, ⟨kvb, pb⟩, ⟨kvc, pc⟩, lo, hi⟩, Or.inl ⟨rfl, rfl⟩⟩
  | cons s rest =>
    rw [if_neg (by simp)] at hk1
    obtain ⟨d, vs, rfl, hd, hk1⟩ := kids_cons hk1
    obtain rfl := kids_nil hk1
    have k3 := hrow1.cell (j := 3) rfl
    obtain ⟨C3, cap3, xs3, hq3, hrow3, hk3⟩ := tree_built hd
    have hl3 := hk3.length
    unfold Ber.refPks at hk3 hl3
    rw [List.map_cons] at hk3
    obtain ⟨e0, vs, rfl, he, -⟩ := kids_cons hk3
    obtain ⟨kve, pe⟩ := tree_prim he
    rw [vb] at pe
    have c30 := hrow3.cell (j := 0) rfl
    refine ⟨q1, a, b, c, C1, 4, cap1, ⟨top, by simpa using hq1, by omega, by omega, k0, k1, k2, ⟨kva, pa⟩, ⟨kvb, pb⟩, ⟨kvc, pc⟩, lo, hi⟩, Or.inr ⟨rfl, d, C3, _, cap3, e0, kve, k3, hq3, ?_, ?_, c30, pe⟩⟩
    · simp
    · rw [hl3]; simpa using hr

set_option maxRecDepth 100000 in
set_option maxHeartbeats 8000000 in
theorem referralOf_some (w : World) (E q q1 a b c C1 n1 cap1 : Nat) (kind code : Int) (matched text ref : ByteArray) (h : ResMsg w q q1 a b c C1 n1 cap1 kind code matched text) (hE : ErrIn w E code matched text q) (hr : RefMsg w C1 n1 ref) :
    Calls Tryz.prog 33 #[.iface 76 (.pointer (some ⟨E, 0, none⟩)), .pointer (some ⟨q, 0, none⟩)] w fun e w' => e = .returned (.string (if code = 10 then ref else ⟨#[]⟩)) ∧ Below w.heap.size w w' := by
  have hrs := referral_some w E q q1 a b c C1 n1 cap1 kind code matched text ref h hE hr
  have HRS := Lib.hid hrs
  clear hrs h hE hr
  generalize (if code = 10 then ref else (⟨#[]⟩ : ByteArray)) = rr at HRS ⊢
  go_enter Tryz.func33, Tryz.ntmps33
  go_wp2_with fail
  refine HRS.out.mono ?_
  rintro e w' ⟨rfl, hb⟩
  have HB := Lib.hid hb
  clear hb
  go_wp2
  go_ret
  exact ⟨rfl, HB.out⟩

set_option maxRecDepth 100000 in
set_option maxHeartbeats 8000000 in
theorem result_nil (w : World) (q : Nat) :
    Calls Tryz.prog 20 #[.nilIface, .pointer (some ⟨q, 0, none⟩)] w fun e w' => e = .returned (.agg #[.int .i64 0, .string ⟨#[]⟩, .string ⟨#[]⟩, .string ⟨#[]⟩]) ∧ Below w.heap.size w w' := by
  obtain ⟨W0, hW0⟩ : ∃ W0, W0 = w.alloc (.cells #[.int .i64 0, .string ⟨#[]⟩, .string ⟨#[]⟩, .string ⟨#[]⟩] 38) := ⟨_, rfl⟩
  have hB0 : Below w.heap.size w W0 := by rw [hW0]; exact (Below.refl _ w).alloc (Nat.le_refl _) _
  have hn : W0.heap[w.heap.size]? = some (.cells #[.int .i64 0, .string ⟨#[]⟩, .string ⟨#[]⟩, .string ⟨#[]⟩] 38 (0, 0)) := by rw [hW0]; exact heap_alloc_new w _
  have HW0 := Lib.hid hW0
  have HB0 := Lib.hid hB0
  have HN := Lib.hid hn
  clear hB0 hn hW0
  go_enter Tryz.func20, Tryz.ntmps20
  go_wp2_with fail
  rw [← HW0.out]
  refine (codeOf_nil W0).mono ?_
  rintro e w' ⟨rfl, rfl⟩
  go_wp2_with fail
  refine (referral_nil W0 q).mono ?_
  rintro e w2 ⟨rfl, hb⟩
  have hn2 := (hb.block _ (blockLt HN.out)).trans HN.out
  have HN2 := Lib.hid hn2
  have HB2 := Lib.hid (HB0.out.trans (hb.mono HB0.out.size))
  have f0 := blockFrozen hn2 0
  have f1 := blockFrozen hn2 1
  have f2 := blockFrozen hn2 2
  have f3 := blockFrozen hn2 3
  have k0 := blockCell hn2 0
  have k1 := blockCell hn2 1
  have k2 := blockCell hn2 2
  have k3 := blockCell hn2 3
  simp only [List.getElem?_toArray, List.getElem?_cons_zero, List.getElem?_cons_succ] at k0 k1 k2 k3
  clear hn2 hb
  go_wp2
  refine bodyPost_ret (results_cell_row rfl _ _ w.heap.size 38 _ (0, 0) _ rfl (four_set HN2.out _ _ _ _) Tryz.underlying38 rfl (by kernel_rfl)) rfl ?_
  exact ⟨rfl, (((HB2.out.setCell (Nat.le_refl _) _).setCell (Nat.le_refl _) _).setCell (Nat.le_refl _) _).setCell (Nat.le_refl _) _⟩

set_option maxRecDepth 100000 in
set_option maxHeartbeats 8000000 in
theorem result_some (w : World) (E q q1 a b c C1 n1 cap1 : Nat) (kind code : Int) (matched text ref : ByteArray) (h : ResMsg w q q1 a b c C1 n1 cap1 kind code matched text) (hE : ErrIn w E code matched text q) (hr : RefMsg w C1 n1 ref) :
    Calls Tryz.prog 20 #[.iface 76 (.pointer (some ⟨E, 0, none⟩)), .pointer (some ⟨q, 0, none⟩)] w fun e w' => e = .returned (.agg #[.int .i64 code, .string matched, .string text, .string (if code = 10 then ref else ⟨#[]⟩)]) ∧ Below w.heap.size w w' := by
  obtain ⟨W0, hW0⟩ : ∃ W0, W0 = w.alloc (.cells #[.int .i64 0, .string ⟨#[]⟩, .string ⟨#[]⟩, .string ⟨#[]⟩] 38) := ⟨_, rfl⟩
  have hB0 : Below w.heap.size w W0 := by rw [hW0]; exact (Below.refl _ w).alloc (Nat.le_refl _) _
  have hn : W0.heap[w.heap.size]? = some (.cells #[.int .i64 0, .string ⟨#[]⟩, .string ⟨#[]⟩, .string ⟨#[]⟩] 38 (0, 0)) := by rw [hW0]; exact heap_alloc_new w _
  have hco := codeOf_some W0 E q code matched text (hE.stays hB0) h.lo h.hi
  have hrf : ∀ w1, Same W0 w1 → _ := fun w1 hs => referralOf_some w1 E q q1 a b c C1 n1 cap1 kind code matched text ref ((h.stays hB0).stays (hs.toBelow _)) ((hE.stays hB0).stays (hs.toBelow _)) ((hr.stays hB0).stays (hs.toBelow _))
  have HCO := Lib.hid hco
  have HRF := Lib.hid hrf
  have HW0 := Lib.hid hW0
  have HB0 := Lib.hid hB0
  have HN := Lib.hid hn
  clear hB0 hn hW0 hco hrf h hE hr
  generalize (if code = 10 then ref else (⟨#[]⟩ : ByteArray)) = rr at HRF ⊢
  go_enter Tryz.func20, Tryz.ntmps20
  go_wp2_with fail
  rw [← HW0.out]
  refine HCO.out.mono ?_
  rintro e w1 ⟨rfl, hs⟩
  have HS : Hid (Same W0 w1) := Lib.hid hs
  clear hs
  go_wp2_with fail
  refine (HRF.out w1 HS.out).mono ?_
  rintro e w2 ⟨rfl, hb⟩
  have hb01 : Below W0.heap.size W0 w1 := HS.out.toBelow _
  have hb02 : Below W0.heap.size W0 w2 := hb01.trans (hb.mono hb01.size)
  have hn2 := (hb02.block _ (blockLt HN.out)).trans HN.out
  have HN2 := Lib.hid hn2
  have HB2 := Lib.hid (HB0.out.trans (hb02.mono HB0.out.size))
  have f0 := blockFrozen hn2 0
  have f1 := blockFrozen hn2 1
  have f2 := blockFrozen hn2 2
  have f3 := blockFrozen hn2 3
  have k0 := blockCell hn2 0
  have k1 := blockCell hn2 1
  have k2 := blockCell hn2 2
  have k3 := blockCell hn2 3
  simp only [List.getElem?_toArray, List.getElem?_cons_zero, List.getElem?_cons_succ] at k0 k1 k2 k3
  clear hn2 hb hb01 hb02
  go_wp2
  refine bodyPost_ret (results_cell_row rfl _ _ w.heap.size 38 _ (0, 0) _ rfl (four_set HN2.out _ _ _ _) Tryz.underlying38 rfl (by kernel_rfl)) rfl ?_
  exact ⟨rfl, (((HB2.out.setCell (Nat.le_refl _) _).setCell (Nat.le_refl _) _).setCell (Nat.le_refl _) _).setCell (Nat.le_refl _) _⟩
end Go.Proofs.YtdfehaonngccjaaGreatDoor

