/- berTo and zzFits5 end, and what they say. -/
import Derived.Test.YtdfehaonngccjaaDoorB13
import Derived.Test.YtdfehaonngccjaaDoorPFnBerFormsx8
import Derived.Test.YtdfehaonngccjaaDoorPFnBerFormsx9
import Derived.BigRegion
import Derived.Deep.LoopGhost
set_option linter.unusedVariables false
set_option linter.unusedSimpArgs false
namespace Go.Proofs.YtdfehaonngccjaaDoor
open Go Go.RowKit Go.Proofs.YtdfehaonngccjaaDoorW.PrintWords Go.Proofs.YtdfehaonngccjaaDoorW.PrintLast Go.Proofs.YtdfehaonngccjaaDoorW.PrintMore

theorem toS_eta (x : Ber.Pk) : (⟨(toS x).f0, (toS x).f1, (toS x).f2, (toS x).f3, (toS x).f4⟩ : PFnBerForms.S31) = toS x := by
  obtain ⟨_, _, _, _, _⟩ := x
  simp only [toS]

theorem to_ev (n : Nat) : ∀ (pk : Ber.Pk), SizeOf.sizeOf pk < n → Ber.count pk ≤ 1000000000 →
    Ev (fun k => PFnBerForms.laws_berTo.f k (spS pk).f0 (spS pk).f1 (spS pk).f2 (spS pk).f3 (spS pk).f4) ((toS pk).f0, (toS pk).f1, (toS pk).f2, (toS pk).f3, (toS pk).f4) := by
  induction n with
  | zero => intro pk h; omega
  | succ n ih =>
  rintro ⟨c, b, t, data, items⟩ hsz hct
  simp only [toS, spS]
  have hlc : items.length ≤ Ber.counts items := by
    clear hsz hct ih
    induction items with
    | nil => simp
    | cons x r ihr =>
      obtain ⟨_, _, _, _, _⟩ := x
      simp only [List.length_cons, Ber.counts, Ber.count]
      omega
  have hcs : Ber.counts items + 1 ≤ 1000000000 := hct
  have loop : ∀ (q i : Nat), i + q = items.length →
      Ev (fun k => PFnBerForms.laws_berTo.l0 k (spSs items) (items.length : Int) (i : Int) (c : Int) b (t : Int) ((⟨data.toArray⟩ : ByteArray)) (toSs (items.take i))) ((c : Int), b, (t : Int), (⟨data.toArray⟩ : ByteArray), toSs items) := by
    intro q
    induction q with
    | zero =>
      intro i hi
      refine Ev.done fun k => ?_
      simp only [PFnBerForms.laws_berTo.l0]
      rw [if_neg (by omega), show i = items.length by omega, List.take_length]
    | succ q ihq =>
      intro i hi
      have hl : i < items.length := by omega
      have hs : SizeOf.sizeOf items[i] < n := by
        have e1 := List.sizeOf_lt_of_mem (List.getElem_mem hl)
        have e2 : SizeOf.sizeOf (Ber.Pk.mk c b t data items) = _ := Ber.Pk.mk.sizeOf_spec c b t data items
        omega
      have hcc : Ber.count items[i] ≤ 1000000000 := by
        have h1 := Ber.counts_take items i hl
        have h2 := Ber.counts_append (items.take (i + 1)) (items.drop (i + 1))
        rw [List.take_append_drop] at h2
        omega
      have c1 : (i : Int) < (items.length : Int) := Int.ofNat_lt.2 hl
      have c3 : (0 : Int) ≤ (i : Int) := Int.natCast_nonneg i
      have c4 : (toSs (items.take i)).length < 2513169434916 := by rw [toSs_length, List.length_take]; omega
      refine (ih items[i] hs hcc).two (ihq (i + 1) (by omega)) fun k hk => ?_
      have hk2 : PFnBerForms.laws_berTo.f k (spS items[i]).f0 (spS items[i]).f1 (spS items[i]).f2 (spS items[i]).f3 (spS items[i]).f4 = some ((toS items[i]).f0, (toS items[i]).f1, (toS items[i]).f2, (toS items[i]).f3, (toS items[i]).f4) := hk
      simp only [PFnBerForms.laws_berTo.l0]
      rw [spSs_length, if_pos c1, if_pos c3, if_pos c1, rd_spS items i hl, hk2, Option.bind_some, if_pos c4, w_succ i (by omega), List.take_succ_eq_append_getElem hl, toSs_append, show toSs [items[i]] = [toS items[i]] by simp only [toSs]]
      simp only [toS_eta]
  exact (loop items.length 0 (by omega)).succ fun k => by simp only [PFnBerForms.laws_berTo.f, spSs_length, List.take_zero, toSs]; rfl


theorem fits5_call (w : World) (c : Nat) (b : Bool) (t : Nat) (data : List UInt8) (items : List Ber.Pk) (A : Option Addr) (cp : Nat) (hC : Kd.C PFnBerForms.k26 w A items.length (spSs items)) (hcp : items.length ≤ cp) :
    ∃ r : Bool, Calls Tryd.prog 18 #[.agg #[.int .u8 (c : Int), .bool b, .int .u64 (t : Int), .string (bs data), .slice A items.length cp]] w fun e w' => e = .returned (.bool r) ∧ Below w.heap.size w w' := by
  have h : ∃ r : Bool, PFnBerForms.laws_zzFits5.f (c : Int) b (t : Int) (bs data) (spSs items) = some r := by
    unfold PFnBerForms.laws_zzFits5.f
    split
    · exact ⟨_, rfl⟩
    · split <;> exact ⟨_, rfl⟩
  obtain ⟨r, hr⟩ := h
  have := PFnBerForms.laws_zzFits5.calls (c : Int) b (t : Int) (bs data) A cp (spSs items) r w (by rw [spSs_length]; exact hC) (by rw [spSs_length]; exact hcp) hr
  rw [spSs_length] at this
  exact ⟨r, this⟩
end Go.Proofs.YtdfehaonngccjaaDoor

/- Packets that are written: Encode of nothing, contents, children, bytes. -/
namespace Go.Proofs.YtdfehaonngccjaaDoor
open Go Go.RowKit

/-- A packet that is being written: its block P, its contents l, so many children; what it owns lies from B on. -/
def Wr (B : Nat) (w : World) (P : Nat) (a0 a1 a2 : Int) (l : List UInt8) (n : Nat) : Prop :=
  ∃ (D C cap : Nat) (row : Option Nat) (val bv ds : Value) (xs : List Value), B ≤ P ∧ B ≤ D ∧ (∀ g, row = some g → B ≤ g) ∧ B ≤ C ∧
    w.heap[P]? = some (.cells (PkCells a0 a1 a2 val bv D (.slice (some ⟨C, 0, none⟩) xs.length cap) ds) 78 (0, 0)) ∧ BufAt w D row (Lib.byteCells l) ∧ KidRow w C cap xs ∧ xs.length = n
theorem Wr.lt {B : Nat} {w : World} {P : Nat} {a0 a1 a2 : Int} {l : List UInt8} {n : Nat} (h : Wr B w P a0 a1 a2 l n) : P < w.heap.size := by
  obtain ⟨D, C, cap, row, val, bv, ds, xs, h1, h2, h3, h4, h5, _⟩ := h; exact blockLt h5
theorem Wr.below {B : Nat} {w w' : World} {P : Nat} {a0 a1 a2 : Int} {l : List UInt8} {n : Nat} (h : Wr B w P a0 a1 a2 l n) (k : Below w.heap.size w w') : Wr B w' P a0 a1 a2 l n := by
  obtain ⟨D, C, cap, row, val, bv, ds, xs, h1, h2, h3, h4, h5, h6, h7, h8⟩ := h
  exact ⟨D, C, cap, row, val, bv, ds, xs, h1, h2, h3, h4, (k.block P (blockLt h5)).trans h5, h6.below k, h7.stays (k.block C h7.lt), h8⟩
theorem Wr.lower {B B' : Nat} {w : World} {P : Nat} {a0 a1 a2 : Int} {l : List UInt8} {n : Nat} (h : Wr B w P a0 a1 a2 l n) (hB : B' ≤ B) : Wr B' w P a0 a1 a2 l n := by
  obtain ⟨D, C, cap, row, val, bv, ds, xs, h1, h2, h3, h4, h5⟩ := h
  exact ⟨D, C, cap, row, val, bv, ds, xs, Nat.le_trans hB h1, Nat.le_trans hB h2, fun g e => Nat.le_trans hB (h3 g e), Nat.le_trans hB h4, h5⟩
theorem Wr.same {B : Nat} {w w' : World} {P : Nat} {a0 a1 a2 : Int} {l : List UInt8} {n : Nat} (h : Wr B w P a0 a1 a2 l n) (k : Same w w') : Wr B w' P a0 a1 a2 l n := h.below (k.toBelow _)

/-- The blocks of a packet's start. -/
def packW (w : World) (a0 a1 a2 : Int) (ds : ByteArray) : World :=
  ((w.alloc (.cells (PkCells a0 a1 a2 .nilIface (.slice none 0 0) (w.heap.size + 1) (.slice (some ⟨w.heap.size + 1 + 1, 0, none⟩) 0 2) (.string ds)) 78)).alloc
    (.cells #[.slice none 0 0, .int .i64 0, .int .i8 0] 96)).alloc (.cells #[.pointer none, .pointer none] 55)
theorem packW_below (w : World) (a0 a1 a2 : Int) (ds : ByteArray) : Below w.heap.size w (packW w a0 a1 a2 ds) :=
  (((Below.refl _ w).alloc (Nat.le_refl _) _).alloc (by simp) _).alloc (by simp; omega) _
theorem packW_wr (w : World) (a0 a1 a2 : Int) (ds : ByteArray) : Wr w.heap.size (packW w a0 a1 a2 ds) w.heap.size a0 a1 a2 [] 0 := by
  refine ⟨w.heap.size + 1, w.heap.size + 1 + 1, 2, none, .nilIface, .slice none 0 0, .string ds, [], Nat.le_refl _, by omega, fun g e => (by cases e), by omega, ?_, ⟨rfl, 0, ?_⟩, ⟨#[.pointer none, .pointer none], ?_, by simp, by decide, rfl, rfl⟩, rfl⟩
  · unfold packW
    rw [Below.heap_alloc _ _ _ (by simp; omega), Below.heap_alloc _ _ _ (by simp)]
    exact heap_alloc_new w _
  · unfold packW
    rw [Below.heap_alloc _ _ _ (by simp)]
    exact alloc2_new w _ _
  · unfold packW
    have := alloc2_new (w.alloc (.cells (PkCells a0 a1 a2 .nilIface (.slice none 0 0) (w.heap.size + 1) (.slice (some ⟨w.heap.size + 1 + 1, 0, none⟩) 0 2) (.string ds)) 78)) (.cells #[.slice none 0 0, .int .i64 0, .int .i8 0] 96) (.cells #[.pointer none, .pointer none] 55)
    simpa using this

set_option maxRecDepth 100000 in
set_option maxHeartbeats 4000000 in
theorem encode_walk (w : World) (a0 a1 a2 : Int) (ds : ByteArray) :
    Calls Tryd.prog 37 #[.int .u8 a0, .int .u8 a1, .int .u64 a2, .nilIface, .string ds] w fun e w' => e = .returned (.pointer (some ⟨w.heap.size, 0, none⟩)) ∧ packW w a0 a1 a2 ds = w' := by
  have hm := make2
  go_enter Tryd.func37, Tryd.ntmps37
  go_wp2
  go_ret
  exact ⟨rfl, rfl⟩
/-- Encode of no value. -/
theorem encode_nil (w : World) (a0 a1 a2 : Int) (ds : ByteArray) :
    Calls Tryd.prog 37 #[.int .u8 a0, .int .u8 a1, .int .u64 a2, .nilIface, .string ds] w fun e w' => ∃ P, e = .returned (.pointer (some ⟨P, 0, none⟩)) ∧ Wr w.heap.size w' P a0 a1 a2 [] 0 ∧ Below w.heap.size w w' :=
  (encode_walk w a0 a1 a2 ds).mono fun e w' ⟨h1, h2⟩ => by subst h2; exact ⟨_, h1, packW_wr w a0 a1 a2 ds, packW_below w a0 a1 a2 ds⟩

/-- What []byte(s) is, handed to Write. -/
theorem conv_src (w : World) (s : ByteArray) (D : Nat) (hD : D < w.heap.size) : Src (Lib.bytesWorld w 5 s) D (Lib.byteCells s.data.toList) (.slice (some ⟨w.heap.size, 0, none⟩) s.size (grownCap w s.size 0 5)) := by
  have hl : (Lib.byteCells s.data.toList).length = s.size := by rw [cells_length]; simp
  refine ⟨some ⟨w.heap.size, 0, none⟩, grownCap w s.size 0 5, by rw [hl], Or.inr ⟨_, rfl, by show w.heap.size ≠ D; omega, fun j v hj => ?_⟩⟩
  have hjl : j < s.size := by rw [← hl]; exact (List.getElem?_eq_some_iff.1 hj).1
  have hadd : (⟨w.heap.size, 0, none⟩ : Addr).add j = ⟨w.heap.size, j, none⟩ := by unfold Addr.add; split <;> simp_all
  rw [hadd, Lib.bytesWorld_cell w 5 s j hjl]
  simp only [Lib.byteCells, List.getElem?_map, Option.map_eq_some_iff] at hj
  obtain ⟨b, hb, rfl⟩ := hj
  rw [List.getD_eq_getElem?_getD, hb]
  rfl

/-- A written packet's bytes. -/
theorem wr_bytes (B : Nat) (w : World) (P c t : Nat) (b : Bool) (l : List UInt8) (n : Nat) (h : Wr B w P ((c * 64 : Nat) : Int) (if b then 32 else 0) t l n) (hc : c < 4) (ht : t < 2 ^ 64) (hl : l.length ≤ 100000000000) :
    Calls Tryd.prog 31 #[.pointer (some ⟨P, 0, none⟩)] w fun e w' => ∃ v, e = .returned v ∧ Reads w' (Lib.byteCells (Ber.identBytes c b t ++ (Ber.lenBytes l.length ++ l))) v ∧ Below w.heap.size w w' := by
  obtain ⟨D, C, cap, row, val, bv, ds, xs, h1, h2, h3, h4, h5, h6, h7, h8⟩ := h
  exact bytes_any w P D row c t b l val bv _ ds hc ht hl h5 h6

/-- A written packet takes another one in. -/
theorem wr_append (B : Nat) (w : World) (P q c t : Nat) (b : Bool) (a0 a1 a2 : Int) (l m : List UInt8) (n k B2 : Nat) (h : Wr B w P a0 a1 a2 l n) (h2 : Wr B2 w q ((c * 64 : Nat) : Int) (if b then 32 else 0) t m k) (hB : B ≤ w.heap.size) (hc : c < 4) (ht : t < 2 ^ 64) (hn : n ≤ 100000000000) (hl : l.length ≤ 100000000000) (hm : m.length ≤ 100000000000) :
    Calls Tryd.prog 39 #[.pointer (some ⟨P, 0, none⟩), .pointer (some ⟨q, 0, none⟩)] w fun e w' => (∃ v, e = .returned v) ∧ Wr B w' P a0 a1 a2 (l ++ (Ber.identBytes c b t ++ (Ber.lenBytes m.length ++ m))) (n + 1) ∧ Below B w w' := by
  obtain ⟨D, C, cap, row, val, bv, ds, xs, g1, g2, g3, g4, g5, g6, g7, g8⟩ := h
  obtain ⟨D', C', cap', row', val', bv', ds', xs', k1, k2, k3, k4, k5, k6, k7, k8⟩ := h2
  subst g8
  refine (append_any w P D C cap q D' row row' a0 a1 a2 val bv ds xs l m c t b val' bv' _ ds' hc ht g5 g7 hn g6 hl hm k5 k6).mono ?_
  rintro e w' ⟨hv, row2, C2, cap2, e1, e2, e3, e4, e5, e6⟩
  refine ⟨hv, ⟨D, C2, cap2, row2, val, bv, ds, xs ++ [.pointer (some ⟨q, 0, none⟩)], g1, g2, ?_, ?_, ?_, e2, e3, ?_⟩, ?_⟩
  · intro g e
    rcases e4 with h | ⟨g', h, h'⟩
    · exact g3 g (by rw [← h]; exact e)
    · rw [h] at e; rw [← Option.some.inj e]; omega
  · rcases e5 with h | h
    · rw [h]; exact g4
    · omega
  · rw [List.length_append]; exact e1
  · simp
  · exact Only.toBelow (Below.refl B w) hB e6 (by
      rintro i (h | h | h | h)
      · rw [h]; exact g1
      · rw [h]; exact g2
      · exact g3 i h
      · rw [h]; exact g4)

/-- Bytes written to a packet's buffer. -/
theorem wr_write (B : Nat) (w : World) (P : Nat) (a0 a1 a2 : Int) (l m : List UInt8) (n : Nat) (h : Wr B w P a0 a1 a2 l n) (hB : B ≤ w.heap.size) (hl : l.length + m.length ≤ 140737488355328) :
    ∃ D, w.cell? ⟨P, 5, none⟩ = some (.pointer (some ⟨D, 0, none⟩)) ∧ D < w.heap.size ∧ B ≤ D ∧ (∃ cs fr, w.heap[D]? = some (.cells cs 96 fr)) ∧
      ∀ w1 v, Below w.heap.size w w1 → Src w1 D (Lib.byteCells m) v →
        Calls Tryd.prog 38 #[.pointer (some ⟨D, 0, none⟩), v] w1 fun e w' => e = .returned (.tuple #[.int .i64 m.length, .nilIface]) ∧ Wr B w' P a0 a1 a2 (l ++ m) n ∧ Below B w1 w' := by
  obtain ⟨D, C, cap, row, val, bv, ds, xs, g1, g2, g3, g4, g5, g6, g7, g8⟩ := h
  refine ⟨D, pk5 g5, g6.ltD, g2, g6.ty, fun w1 v hb hs => ?_⟩
  have hP1 := (hb.block P (blockLt g5)).trans g5
  have h61 := g6.below hb
  have h71 := g7.stays (hb.block C g7.lt)
  have hsz := hb.size
  have hw := write_any w1 D row _ _ v m.length h61 hs (by rw [cells_length]) (cells1 l) (cells1 m) (by rw [cells_length, cells_length]; exact hl)
  rw [← byteCells_append] at hw
  refine hw.mono ?_
  rintro e w' ⟨he, row2, e1, e2, e3⟩
  obtain ⟨dcs, dfr, hDt⟩ := h61.ty
  obtain ⟨cur, hC, -⟩ := id h71
  have hPD : P ≠ D := ne_of_types hP1 hDt (by decide)
  have hCD : C ≠ D := ne_of_types hC hDt (by decide)
  have hrt : ∀ g, row = some g → ∃ cs, w1.heap[g]? = some (.cells cs 5 (0, 0)) := fun g e => by subst e; obtain ⟨_, lr, cap, cur, hD, hg, _⟩ := h61; exact ⟨_, hg⟩
  have hrP : row ≠ some P := fun e => by obtain ⟨cs, h⟩ := hrt _ e; exact ne_of_types h hP1 (by decide) rfl
  have hrC : row ≠ some C := fun e => by obtain ⟨cs, h⟩ := hrt _ e; exact ne_of_types h hC (by decide) rfl
  refine ⟨he, ⟨D, C, cap, row2, val, bv, ds, xs, g1, g2, ?_, g4, ?_, e1, ?_, g8⟩, ?_⟩
  · intro g e
    rcases e2 with h | ⟨g', h, h'⟩
    · exact g3 g (by rw [← h]; exact e)
    · rw [h] at e; rw [← Option.some.inj e]; omega
  · exact (e3.block P (blockLt hP1) (by rintro (h | h); exact hPD h; exact hrP h)).trans hP1
  · exact h71.stays (e3.block C h71.lt (by rintro (h | h); exact hCD h; exact hrC h))
  · exact Only.toBelow (Below.refl B w1) (by omega) e3 (by
      rintro i (h | h)
      · rw [h]; exact g2
      · exact g3 i h)
end Go.Proofs.YtdfehaonngccjaaDoor

/- The shortest form of a value is what the package writes of it. -/
namespace Go.Proofs.YtdfehaonngccjaaDoor
namespace Ber

theorem lenForm_zero (n : Nat) : lenForm n 0 = lenBytes n := by
  unfold lenForm lenBytes
  by_cases h : n < 128
  · rw [if_pos ⟨h, rfl⟩, if_pos h]
  · rw [if_neg (fun e => h e.1), if_neg h]
    simp

mutual
/-- Packets that hold bytes or packets, not both. -/
def Apart : Pk → Prop
  | .mk _ b _ data items => (b = true → data = []) ∧ (b = false → items = []) ∧ Aparts items
def Aparts : List Pk → Prop
  | [] => True
  | x :: r => Apart x ∧ Aparts r
end
mutual
theorem apart_of : ∀ (x : Pk) (dd : Nat), IsOK dd x → Apart x
  | .mk c b t data items, dd, hx => by
    obtain ⟨h1, h2, h3, h4, h5, h6, h7, h8⟩ := hx
    exact ⟨h6, h7, aparts_of items (dd - 1) h8⟩
theorem aparts_of : ∀ (l : List Pk) (dd : Nat), IsOKs dd l → Aparts l
  | [], _, _ => trivial
  | x :: r, dd, hx => ⟨apart_of x dd hx.1, aparts_of r dd hx.2⟩
end

mutual
theorem forms_short : ∀ (x : Pk) (a : Nat), Apart x → forms [] x a = (enc x, a)
  | .mk c b t data items, a, hx => by
    obtain ⟨h1, h2, h3⟩ := hx
    have hs := formsL_short items data a h3
    have hb : (formsL [] items data a).1 = body (.mk c b t data items) := by
      rw [hs]
      cases b with
      | true => simp [body, h1 rfl]
      | false => simp [body, h2 rfl, bodies]
    simp only [forms, enc]
    have e1 : next [] a = a := rfl
    have e2 : way [] a = 0 := rfl
    rw [e1, e2, hb, hs]
    unfold formText
    rw [if_neg (by omega), show (0 : Nat) % 4 = 0 from rfl, lenForm_zero, List.append_assoc]
theorem formsL_short : ∀ (l : List Pk) (acc : List UInt8) (a : Nat), Aparts l → formsL [] l acc a = (acc ++ bodies l, a)
  | [], acc, a, _ => by simp [formsL, bodies]
  | x :: r, acc, a, hx => by
    simp only [formsL]
    rw [forms_short x a hx.1, formsL_short r (acc ++ enc x) a hx.2]
    obtain ⟨c, b, t, data, items⟩ := x
    simp only [bodies, enc, List.append_assoc]
end
end Ber
end Go.Proofs.YtdfehaonngccjaaDoor

/- impl.packet of a primitive value. -/
namespace Go.Proofs.YtdfehaonngccjaaDoor
open Go Go.RowKit Go.Proofs.YtdfehaonngccjaaDoorW.PrintWords Go.Proofs.YtdfehaonngccjaaDoorW.PrintLast Go.Proofs.YtdfehaonngccjaaDoorW.PrintMore

theorem and3 {c : Nat} (h : c < 4) : bits .and .u8 (c : Int) 3 = (c : Int) := by
  have k : ∀ y : Nat, y < 4 → bits .and .u8 (y : Int) 3 = (y : Int) := by decide +kernel
  exact k c h

def packT : Bool × List (List Nat × List Nat) := (true, [([], []), ([0], [0]), ([1], [1]), ([2], [2]), ([], []), ([4], [4]), ([5], [5]), ([3, 6], [3, 6])])
def packB : List Nat := [0, 1, 3, 7, 0, 16, 48, 127]
theorem pack_tab : rtab .any (opsOf Tryd.f30 6) = packT := by kernel_rfl
theorem pack_bits : waitsOk packT.2 packB = true := by kernel_rfl

set_option maxRecDepth 100000 in
set_option maxHeartbeats 8000000 in
theorem packet_prim (c t : Nat) (data : List UInt8) (w : World) (A : Option Addr) (n cp : Nat) (hc : c < 4) (hd : data.length ≤ 100000000000) :
    Calls Tryd.prog 30 #[.agg #[.int .u8 (c : Int), .bool false, .int .u64 (t : Int), .string (bs data), .slice A n cp]] w fun e w' => ∃ P, e = .returned (.pointer (some ⟨P, 0, none⟩)) ∧ Wr w.heap.size w' P ((c * 64 : Nat) : Int) 0 t data 0 ∧ Below w.heap.size w w' := by
  have ha := and3 hc
  obtain ⟨z, hz⟩ : ∃ z : Int, z = ((c * 64 : Nat) : Int) := ⟨_, rfl⟩
  have hm : (c : Int) * 64 % 256 = z := by omega
  rw [← hz]
  have HZ := Lib.hid hz
  clear hz
  have HD := Lib.hid hd
  clear hd
  go_enter Tryd.func30, Tryd.ntmps30
  go_wp2_with fail
  refine (encode_nil _ _ _ _ _).mono ?_
  rintro e w1 ⟨P, rfl, hw, hb⟩
  have hs0 : (w.alloc (.cells #[.int .u8 (c : Int), .bool false, .int .u64 (t : Int), .string (bs data), .slice A n cp] 31)).heap.size = w.heap.size + 1 := by simp
  have hB0 : Below w.heap.size w w1 := ((Below.refl _ w).alloc (Nat.le_refl _) (.cells #[.int .u8 (c : Int), .bool false, .int .u64 (t : Int), .string (bs data), .slice A n cp] 31)).trans (hb.mono (by omega))
  have hblk : w1.heap[w.heap.size]? = some (.cells #[.int .u8 (c : Int), .bool false, .int .u64 (t : Int), .string (bs data), .slice A n cp] 31 (0, 0)) := (hb.block _ (by omega)).trans (heap_alloc_new w _)
  rw [hs0] at hw
  have hz2 : (c : Int) * 64 = z := by omega
  rw [hz2] at hw ⊢
  obtain ⟨D, hD, hDlt, hDB, hDt, hwr⟩ := wr_write _ w1 P z 0 t [] data 0 hw (by have := hb.size; omega) (by have := HD.out; simp; omega)
  have hcv := conv_bytes w1.drew (bs data)
  have hsrc := conv_src w1.drew (bs data) D hDlt
  have d1 := blockCell hblk 1
  have d3 := blockCell hblk 3
  simp only [List.getElem?_toArray, List.getElem?_cons_zero, List.getElem?_cons_succ] at d1 d3
  have HWR := Lib.hid hwr
  have HB0 := Lib.hid hB0
  have HS := Lib.hid hsrc
  have HZZ := Lib.hid hz2
  clear hw hb hs0 hB0 hblk hwr hsrc hDt hz2 hm ha
  go_wp2_with fail
  have dP5 : w1.drew.cell? ⟨P, 5, none⟩ = some (.pointer (some ⟨D, 0, none⟩)) := hD
  have dO3 : w1.drew.cell? ⟨w.heap.size, 3, none⟩ = some (.string (bs data)) := d3
  have dP5 : w1.drew.cell? ⟨P, 5, none⟩ = some (.pointer (some ⟨D, 0, none⟩)) := hD
  have dO3 : w1.drew.cell? ⟨w.heap.size, 3, none⟩ = some (.string (bs data)) := d3
  have dP5 : w1.drew.cell? ⟨P, 5, none⟩ = some (.pointer (some ⟨D, 0, none⟩)) := hD
  have dO3 : w1.drew.cell? ⟨w.heap.size, 3, none⟩ = some (.string (bs data)) := d3
  have dP5 : w1.drew.cell? ⟨P, 5, none⟩ = some (.pointer (some ⟨D, 0, none⟩)) := hD
  have dO3 : w1.drew.cell? ⟨w.heap.size, 3, none⟩ = some (.string (bs data)) := d3
  have dP5 : w1.drew.cell? ⟨P, 5, none⟩ = some (.pointer (some ⟨D, 0, none⟩)) := hD
  have dO3 : w1.drew.cell? ⟨w.heap.size, 3, none⟩ = some (.string (bs data)) := d3
  refine start_ (n := 8) (S := fun w' => w'.cell? ⟨P, 5, none⟩ = some (.pointer (some ⟨D, 0, none⟩)) ∧ w'.cell? ⟨w.heap.size, 3, none⟩ = some (.string (bs data))) (ds := [7]) #[false, false, false, false, false, false, false, false] (by kernel_rfl) rfl rfl ⟨dP5, dO3⟩ (fun hHeld => ?_)
  refine with_tabW pack_tab pack_bits (fun HT_ HW_ => ?_)
  clear dP5 dO3
  refine pure_ (i := 0) (N := some 20) (v := ?_) (a' := ?_) #[true, false, false, false, false, false, false, false] rfl rfl (any_of HT_.out (by kernel_rfl)) (fun _ _ _ h => h) (Or.inl ⟨by rfl, ?_⟩) ?_ ?_
  rotate_left
  · intro w'
    go_simp
    with_reducible rfl
  rotate_left
  · simp only [Act.put, List.setIfInBounds_toArray, List.set_cons_zero, List.set_cons_succ]
    rfl
  refine pure_ (i := 1) (N := some 21) (v := ?_) (a' := ?_) #[true, true, false, false, false, false, false, false] rfl rfl (any_of HT_.out (by kernel_rfl)) (fun _ _ _ h => h) (Or.inl ⟨by rfl, ?_⟩) ?_ ?_
  rotate_left
  · intro w'
    go_simp
    with_reducible rfl
  rotate_left
  · simp only [Act.put, List.setIfInBounds_toArray, List.set_cons_zero, List.set_cons_succ]
    rfl
  refine pure_ (i := 2) (N := some 22) (v := ?_) (a' := ?_) #[true, true, true, false, false, false, false, false] rfl rfl (any_of HT_.out (by kernel_rfl)) (fun _ _ _ h => h) (Or.inl ⟨by rfl, ?_⟩) ?_ ?_
  rotate_left
  · intro w'
    go_simp
    with_reducible rfl
  rotate_left
  · simp only [Act.put, List.setIfInBounds_toArray, List.set_cons_zero, List.set_cons_succ]
    rfl
  refine take_ (i := 3) (N := some 23) (v := ?_) (a' := ?_) #[true, true, true, true, false, false, false, false] rfl rfl (take_ofW HT_.out HW_.out (by kernel_rfl)) (fun _ _ _ h => h) (Or.inl ⟨by rfl, ?_⟩) hHeld ?_ ?_
  rotate_left
  · rintro w' ⟨s0, -⟩
    go_simp
    with_reducible rfl
  rotate_left
  · simp only [Act.put, List.setIfInBounds_toArray, List.set_cons_zero, List.set_cons_succ]
    rfl
  refine pure_ (i := 4) (N := some 24) (v := ?_) (a' := ?_) #[true, true, true, true, true, false, false, false] rfl rfl (any_of HT_.out (by kernel_rfl)) (fun _ _ _ h => h) (Or.inl ⟨by rfl, ?_⟩) ?_ ?_
  rotate_left
  · intro w'
    go_simp
    with_reducible rfl
  rotate_left
  · simp only [Act.put, List.setIfInBounds_toArray, List.set_cons_zero, List.set_cons_succ]
    rfl
  refine take_ (i := 5) (N := some 25) (v := ?_) (a' := ?_) #[true, true, true, true, true, true, false, false] rfl rfl (take_ofW HT_.out HW_.out (by kernel_rfl)) (fun _ _ _ h => h) (Or.inl ⟨by rfl, ?_⟩) hHeld ?_ ?_
  rotate_left
  · rintro w' ⟨-, s0⟩
    go_simp
    with_reducible rfl
  rotate_left
  · simp only [Act.put, List.setIfInBounds_toArray, List.set_cons_zero, List.set_cons_succ]
    rfl
  refine one_ (i := 6) (N := some 26) #[true, true, true, true, true, true, true, false] rfl rfl (one_of HT_.out (by kernel_rfl)) (by decide) (fun K hK => ?_)
  refine value_ (w1 := ?_) (v := ?_) (by rfl) rfl ?_ ?_
  rotate_left 2
  · go_simp
    constructor
    · rfl
    · rfl
  have hPlt : P < w1.drew.heap.size := World.block_lt_of_cell? w1.drew _ hHeld.1
  have hOlt : w.heap.size < w1.drew.heap.size := World.block_lt_of_cell? w1.drew _ hHeld.2
  have hbw := bytesWorld_below w1.drew.heap.size w1.drew 5 (bs data) (Nat.le_refl _)
  refine hK.out _ _ ⟨(hbw.cell hPlt).trans hHeld.1, (hbw.cell hOlt).trans hHeld.2⟩ (fun hHeld => ?_)
  clear hK K
  refine norm_ (a' := ?_) ?_ ?_
  rotate_left
  · show Act.put _ (some 26) _ = _
    simp only [Act.put, List.setIfInBounds_toArray, List.set_cons_zero, List.set_cons_succ]
    rfl
  refine last_ (i := 7) (N := some 27) #[true, true, true, true, true, true, true, true] rfl rfl (one_of HT_.out (by kernel_rfl)) (by decide) (fun K hK => ?_)
  refine goes_ Tryd.func38 (by kernel_rfl) rfl #[.pointer (some ⟨D, 0, none⟩), .slice (some ⟨w1.heap.size, 0, none⟩) (bs data).size (grownCap w1.drew (bs data).size 0 5)] (by rfl) rfl rfl (by (try simp only [List.map_toArray, List.map_cons, List.map_nil]); first | done | rfl) ?_
  have hbd := (Below.refl w1.heap.size w1).drew.trans (show Below w1.heap.size w1.drew (Lib.bytesWorld w1.drew 5 (bs data)) from hbw)
  refine (HWR.out _ _ hbd HS.out).mono ?_
  rintro e w3 ⟨rfl, hw3, hb3⟩
  have HW3 := Lib.hid hw3
  have HB3 := Lib.hid ((HB0.out.trans (hbd.mono HB0.out.size)).trans (hb3.mono (by omega)))
  refine ⟨_, rfl, ?_⟩
  refine hK.out _ _ ?_
  clear hK K
  refine done_ (done_of HT_.out (by kernel_rfl)) ?_
  simp only [Act.put, List.setIfInBounds_toArray, List.set_cons_zero, List.set_cons_succ]
  clear HT_ HW_
  go_wp2
  go_ret
  have hw3 := HW3.out
  rw [List.nil_append] at hw3
  exact ⟨P, rfl, hw3.lower (by omega), HB3.out⟩
end Go.Proofs.YtdfehaonngccjaaDoor

/- impl.packet, and BerWrite: what is written of a value. -/
namespace Go.Proofs.YtdfehaonngccjaaDoor
open Go Go.RowKit Go.Proofs.YtdfehaonngccjaaDoorW.PrintWords Go.Proofs.YtdfehaonngccjaaDoorW.PrintLast Go.Proofs.YtdfehaonngccjaaDoorW.PrintMore

namespace Ber
theorem Aparts.get : ∀ {l : List Pk}, Aparts l → ∀ j (hj : j < l.length), Apart l[j]
  | [], _, j, hj => absurd hj (Nat.not_lt_zero _)
  | x :: r, h, 0, hj => h.1
  | x :: r, h, j + 1, hj => by simpa using Aparts.get h.2 j (by simpa using hj)
theorem bodies_take (items : List Pk) (j : Nat) (hj : j < items.length) : bodies (items.take (j + 1)) = bodies (items.take j) ++ enc items[j] := by
  rw [List.take_succ_eq_append_getElem hj, bodies_append]
theorem bodies_take_le (items : List Pk) (j : Nat) : (bodies (items.take j)).length ≤ (bodies items).length := by
  induction items generalizing j with
  | nil => simp [bodies]
  | cons x r ih =>
    cases j with
    | zero => simp [bodies]
    | succ j =>
      obtain ⟨_, _, _, _, _⟩ := x
      have := ih j
      simp only [List.take_succ_cons, bodies, List.length_append]
      omega
end Ber

/-- packet of values of less than a size. -/
def PacketHolds (n : Nat) : Prop :=
  ∀ (c : Nat) (b : Bool) (t : Nat) (data : List UInt8) (items : List Ber.Pk), SizeOf.sizeOf (Ber.Pk.mk c b t data items) < n → Ber.OK (.mk c b t data items) → Ber.Apart (.mk c b t data items) → (Ber.enc (.mk c b t data items)).length ≤ 100000000 →
    ∀ (w : World) (A : Option Addr) (cp : Nat), Kd.C PFnBerForms.k31 w A items.length (toSs items) → items.length ≤ cp →
      Calls Tryd.prog 30 #[.agg #[.int .u8 (c : Int), .bool b, .int .u64 (t : Int), .string (bs data), .slice A items.length cp]] w fun e w' => ∃ P, e = .returned (.pointer (some ⟨P, 0, none⟩)) ∧ Wr w.heap.size w' P ((c * 64 : Nat) : Int) (if b then 32 else 0) t (Ber.body (.mk c b t data items)) items.length ∧ Below w.heap.size w w'

set_option maxRecDepth 100000 in
set_option maxHeartbeats 8000000 in
theorem packet_step (n : Nat) (ih : PacketHolds n) : PacketHolds (n + 1) := by
  intro c b t data items hsz hok hap hlen w A cp hC hcp
  have hcl := hok.1
  cases b with
  | false =>
    have hi : items = [] := hap.2.1 rfl
    subst hi
    have hd : data.length ≤ 100000000000 := by simp only [Ber.enc, Ber.body, List.length_append] at hlen; simp at hlen; omega
    simpa [Ber.body] using packet_prim c t data w A 0 cp hcl hd
  | true =>
  have hd0 : data = [] := hap.1 rfl
  subst hd0
  have hbl : (Ber.bodies items).length ≤ 100000000 := by simp only [Ber.enc, Ber.body, List.length_append] at hlen; simp at hlen; omega
  have hnl : items.length ≤ 100000000 := by have := count_le_bodies items; omega
  have ha := and3 hcl
  obtain ⟨z, hz⟩ : ∃ z : Int, z = ((c * 64 : Nat) : Int) := ⟨_, rfl⟩
  have hm : (c : Int) * 64 % 256 = z := by omega
  rw [← hz]
  have HZ := Lib.hid hz
  clear hz
  obtain ⟨cA, hcA, hAlen⟩ : ∃ W1, W1 = w.alloc (.cells #[.int .u8 (c : Int), .bool true, .int .u64 (t : Int), .string (bs []), .slice A items.length cp] 31) ∧ W1.heap.size = w.heap.size + 1 := ⟨_, rfl, by simp⟩
  have hst : cA.heap[w.heap.size]? = some (.cells #[.int .u8 (c : Int), .bool true, .int .u64 (t : Int), .string (bs []), .slice A items.length cp] 31 (0, 0)) := by rw [hcA]; exact heap_alloc_new w _
  have hB1 : Below w.heap.size w cA := by rw [hcA]; exact (Below.refl _ w).alloc (Nat.le_refl _) _
  have HC := Lib.hid hC
  have HIH := Lib.hid ih
  have HOK := Lib.hid hok.2.2
  have HAP := Lib.hid hap.2.2
  have HBL := Lib.hid hbl
  have HNL := Lib.hid hnl
  have HSZ := Lib.hid hsz
  have HB1 := Lib.hid hB1
  have HST := Lib.hid hst
  have HCA := Lib.hid hcA
  have HCP := Lib.hid hcp
  clear hC ih hok hap hbl hnl hsz hB1 hst hlen hcp
  go_enter Tryd.func30, Tryd.ntmps30
  go_wp2_with fail
  refine (encode_nil _ _ _ _ _).mono ?_
  rintro e w1 ⟨P, rfl, hw, hb⟩
  obtain ⟨zz, hz2⟩ : ∃ zz : Int, zz = (c : Int) * 64 := ⟨_, rfl⟩
  have hzz : zz = z := by omega
  rw [← hz2, hzz] at hw ⊢
  rw [← HCA.out] at hw hb
  have hB0 : Below w.heap.size w w1 := HB1.out.trans (hb.mono HB1.out.size)
  have hblk : w1.heap[w.heap.size]? = some (.cells #[.int .u8 (c : Int), .bool true, .int .u64 (t : Int), .string (bs []), .slice A items.length cp] 31 (0, 0)) := (hb.block _ (by omega)).trans HST.out
  have hW0 : Wr w.heap.size w1 P z 32 t [] 0 := hw.lower (by omega)
  have d1 := blockCell hblk 1
  have d4 := blockCell hblk 4
  simp only [List.getElem?_toArray, List.getElem?_cons_zero, List.getElem?_cons_succ] at d1 d4
  have HW0 := Lib.hid hW0
  have HB0 := Lib.hid hB0
  clear hw hb hB0 hblk hW0 hz2 hzz hm ha
  go_wp2_with fail
  go_loopg [32] items.length (fun kq v32 wr => ∃ (j : Nat), v32 = .int .i64 j ∧ Hid (j + kq = items.length) ∧ Hid (Wr w.heap.size wr P z 32 t (Ber.bodies (items.take j)) j) ∧ Hid (Below w.heap.size w wr))
  case atStart => exact ⟨0, by go_num, Lib.hid (by simp), HW0, HB0⟩
  case round =>
  obtain ⟨j, rfl, HJ, HWJ, HBJ⟩ := hrel
  by_cases hj : j < items.length
  · obtain ⟨ad, A4, c4, e4, hx0, hx1, hx2, hx3, hx4, hl4, hi4⟩ := PFnBerForms.at_T31 HC.out (j : Int) (by omega) (by rw [Int.ofNat_lt]; exact hj)
    rw [rd_toS items j hj] at hx0 hx1 hx2 hx3 hx4 hl4 hi4
    have hokj := Ber.OKs.get HOK.out j hj
    have hapj := Ber.Aparts.get HAP.out j hj
    have hszj : SizeOf.sizeOf items[j] < n := by
      have h1 := List.sizeOf_lt_of_mem (List.getElem_mem hj)
      have h2 : SizeOf.sizeOf (Ber.Pk.mk c true t [] items) = _ := Ber.Pk.mk.sizeOf_spec c true t [] items
      have := HSZ.out
      omega
    have htk := Ber.bodies_take items j hj
    have htl := Ber.bodies_take_le items (j + 1)
    obtain ⟨x, hx⟩ : ∃ x, x = items[j] := ⟨_, rfl⟩
    rw [← hx] at hx0 hx1 hx2 hx3 hx4 hl4 hi4 hszj hokj hapj htk
    have hencl : (Ber.bodies (items.take j)).length + (Ber.enc x).length ≤ 100000000 := by rw [htk, List.length_append] at htl; have := HBL.out; omega
    cases x with
    | mk c1 b1 t1 d1' i1 =>
    simp only [toS, toSs_length, Int.toNat_natCast] at hx0 hx1 hx2 hx3 hx4 hl4 hi4
    subst e4
    have hBw := HBJ.out
    replace hx0 := (hBw.cell (World.block_lt_of_cell? w _ hx0)).trans hx0
    replace hx1 := (hBw.cell (World.block_lt_of_cell? w _ hx1)).trans hx1
    replace hx2 := (hBw.cell (World.block_lt_of_cell? w _ hx2)).trans hx2
    replace hx3 : wr.cell? _ = some (.string (bs d1')) := (hBw.cell (World.block_lt_of_cell? w _ hx3)).trans hx3
    replace hx4 := (hBw.cell (World.block_lt_of_cell? w _ hx4)).trans hx4
    obtain ⟨W1, hW1⟩ : ∃ W1, W1 = wr.alloc (.cells #[.int .u8 (c1 : Int), .bool b1, .int .u64 (t1 : Int), .string (bs d1'), .slice A4 i1.length c4] 31) := ⟨_, rfl⟩
    have hW1b : Below wr.heap.size wr W1 := by rw [hW1]; exact (Below.refl _ wr).alloc (Nat.le_refl _) _
    have hbl1 : (Ber.body (.mk c1 b1 t1 d1' i1)).length ≤ 100000000000 := by simp only [Ber.enc, List.length_append] at hencl; omega
    have hcall := HIH.out c1 b1 t1 d1' i1 hszj hokj hapj (by omega) W1 A4 c4 (Kd.C_below hi4 (hBw.trans (hW1b.mono hBw.size))) hl4
    have hcl1 := hokj.1
    have htt1 : t1 < 2 ^ 64 := by have := hokj.2.1; omega
    have HCALL := Lib.hid hcall
    have HW1 := Lib.hid hW1
    have HW1B := Lib.hid hW1b
    have HBL1 := Lib.hid hbl1
    have HTK := Lib.hid htk
    have HEL := Lib.hid hencl
    have HTT := Lib.hid htt1
    have HCL1 := Lib.hid hcl1
    have hp1 : ((j : Int) < (items.length : Int)) = True := eq_true (by omega)
    have hp0 : (0 ≤ (j : Int)) = True := eq_true (by omega)
    have hjd : decide ((j : Int) < (items.length : Int)) = true := by simp; omega
    clear hcall hW1b hBw hi4 hx hokj hapj hszj htk htl hencl hbl1 htt1 hcl1 d1 d4
    clear hW1
    go_wp2_with fail
    rw [← HW1.out]
    refine HCALL.out.mono ?_
    rintro e w2 ⟨q, rfl, hq, hb2⟩
    have HQ := Lib.hid hq
    have HB2 := Lib.hid (HW1B.out.trans (hb2.mono HW1B.out.size))
    have HJJ := Lib.hid hj
    have hjs : j < 9223372036854775807 := by have := HNL.out; omega
    clear hq hb2
    have happ := wr_append w.heap.size w2 P q c1 t1 b1 z 32 t (Ber.bodies (items.take j)) (Ber.body (.mk c1 b1 t1 d1' i1)) j i1.length W1.heap.size (HWJ.out.below HB2.out) HQ.out (by have := HBJ.out.size; have := HB2.out.size; omega) HCL1.out HTT.out (by have := HNL.out; omega) (by have := HEL.out; omega) HBL1.out
    have HAPP := Lib.hid happ
    clear happ
    go_wp2_with fail
    refine HAPP.out.mono ?_
    rintro e w3 ⟨⟨v, rfl⟩, hw3, hb3⟩
    have HW3 : Hid (Wr w.heap.size w3 P z 32 t (Ber.bodies (items.take (j + 1))) (j + 1)) := Lib.hid (by rw [HTK.out]; exact hw3)
    have HB3 := Lib.hid ((HBJ.out.trans (HB2.out.mono HBJ.out.size)).trans hb3)
    clear hw3 hb3
    go_wp2
    have hgk : ∃ q, gk = q + 1 := ⟨gk - 1, by have := HJ.out; have := HJJ.out; omega⟩
    obtain ⟨q, rfl⟩ := hgk
    go_roundg q
    case measure => exact Nat.lt_succ_self _
    case rel => exact ⟨j + 1, by go_num, Lib.hid (by have := HJ.out; omega), HW3, HB3⟩
  · have hje : j = items.length := by have := HJ.out; omega
    have hjd : decide ((j : Int) < (items.length : Int)) = false := by simp; omega
    have hw3 := HWJ.out
    rw [hje, List.take_length] at hw3
    have HW3 := Lib.hid hw3
    clear hw3
    go_wp2
    go_ret
    refine ⟨P, rfl, ?_, HBJ.out⟩
    have := HW3.out
    simpa [Ber.body] using this
theorem packet_all : ∀ n, PacketHolds n
  | 0 => fun _ _ _ _ _ h => absurd h (Nat.not_lt_zero _)
  | n + 1 => packet_step n (packet_all n)
end Go.Proofs.YtdfehaonngccjaaDoor

/- BerWrite: what is written of a value. -/
namespace Go.Proofs.YtdfehaonngccjaaDoor
open Go Go.RowKit Go.Proofs.YtdfehaonngccjaaDoorW.PrintWords Go.Proofs.YtdfehaonngccjaaDoorW.PrintLast Go.Proofs.YtdfehaonngccjaaDoorW.PrintMore

set_option maxRecDepth 100000 in
set_option maxHeartbeats 4000000 in
theorem berWrite_call (w : World) (c : Nat) (b : Bool) (t : Nat) (data : List UInt8) (items : List Ber.Pk) (hok : Ber.OK (.mk c b t data items)) (hap : Ber.Apart (.mk c b t data items)) (hlen : (Ber.enc (.mk c b t data items)).length ≤ 100000000) (A : Option Addr) (cp : Nat) (hC : Kd.C PFnBerForms.k31 w A items.length (toSs items)) (hcp : items.length ≤ cp) :
    Calls Tryd.prog 19 #[.agg #[.int .u8 (c : Int), .bool b, .int .u64 (t : Int), .string ⟨data.toArray⟩, .slice A items.length cp]] w fun e w' => e = .returned (.string (bs (Ber.enc (.mk c b t data items)))) ∧ Below w.heap.size w w' := by
  obtain ⟨W1, hW1⟩ : ∃ W1, W1 = w.alloc (.cells #[.int .u8 (c : Int), .bool b, .int .u64 (t : Int), .string (bs data), .slice A items.length cp] 31) := ⟨_, rfl⟩
  have hB1 : Below w.heap.size w W1 := by rw [hW1]; exact (Below.refl _ w).alloc (Nat.le_refl _) _
  have hcall := packet_all _ c b t data items (Nat.lt_succ_self _) hok hap hlen W1 A cp (Kd.C_below hC hB1) hcp
  have hbl : (Ber.body (.mk c b t data items)).length ≤ 100000000000 := by simp only [Ber.enc, List.length_append] at hlen; omega
  have htt : t < 2 ^ 64 := by have := hok.2.1; omega
  have hcl := hok.1
  have HCALL := Lib.hid hcall
  have HW1 := Lib.hid hW1
  have HB1 := Lib.hid hB1
  have HBL := Lib.hid hbl
  have HTT := Lib.hid htt
  have HCL := Lib.hid hcl
  clear hcall hB1 hC hW1 hok hap hlen hbl htt hcl
  show Calls Tryd.prog 19 #[.agg #[.int .u8 (c : Int), .bool b, .int .u64 (t : Int), .string (bs data), .slice A items.length cp]] w _
  go_enter Tryd.func19, Tryd.ntmps19
  go_wp2_with fail
  rw [← HW1.out]
  refine HCALL.out.mono ?_
  rintro e w2 ⟨P, rfl, hw, hb2⟩
  have HWR := Lib.hid hw
  have HB2 := Lib.hid (HB1.out.trans (hb2.mono HB1.out.size))
  clear hw hb2
  go_wp2_with fail
  refine (wr_bytes _ w2 P c t b _ _ HWR.out HCL.out HTT.out HBL.out).mono ?_
  rintro e w3 ⟨v, rfl, hv, hb3⟩
  have hcv := reads_string w3 _ v hv
  have HB3 := Lib.hid (HB2.out.trans (hb3.mono HB2.out.size))
  clear hv hb3
  go_wp2
  go_ret
  exact ⟨rfl, HB3.out⟩
end Go.Proofs.YtdfehaonngccjaaDoor

/- FnBerForms: the walk. -/
namespace Go.Proofs.YtdfehaonngccjaaDoor
open Go Go.RowKit Go.Proofs.YtdfehaonngccjaaDoorW.PrintWords Go.Proofs.YtdfehaonngccjaaDoorW.PrintLast Go.Proofs.YtdfehaonngccjaaDoorW.PrintMore

def wholeT : Bool × List (List Nat × List Nat) := (true, [([], []), ([0, 0], [0]), ([1], [1]), ([2, 1], [1, 2]), ([1, 3], [1, 3]), ([4, 1], [4]), ([5], [5]), ([5], [5]),
    ([7, 5], [5, 7]), ([6, 8, 5], [5, 6, 8]), ([5, 9], [5, 9]), ([10, 5], [10]), ([11], [11]), ([12, 11, 11], [11, 12]),
    ([11], [11]), ([13, 14, 13, 11], [11, 13, 14]), ([11, 15], [11, 15]), ([16, 15], [16]), ([17], [17]),
    ([18, 17, 17], [17, 18]), ([19, 19, 17], [17, 19]), ([17], [17]), ([21, 20, 17], [17, 21]),
    ([20, 22, 17], [17, 20, 22]), ([17, 23], [17, 23]),
    ([24, 22, 0, 1, 2, 3, 4, 5, 6, 7, 8, 9, 10, 11, 12, 13, 14, 15, 16, 17, 18, 19, 20, 21, 22, 23, 24], [24])])
def wholeB : List Nat := [0, 0, 0, 0, 0, 0, 0, 0, 0, 0, 0, 0, 0, 0, 0, 0, 0, 0, 0, 0, 0, 0, 0, 0, 0, 0]
theorem whole_tab : rtab .any (opsOf Tryd.f6 7) = wholeT := by kernel_rfl
theorem whole_bits : waitsOk wholeT.2 wholeB = true := by kernel_rfl

set_option maxRecDepth 100000 in
set_option maxHeartbeats 16000000 in
theorem law_forms (N : Nat) (w : World) (hE : Env N w) (hN : N ≤ w.heap.size) (c : Nat) (b : Bool) (t : Nat) (data : List UInt8) (items : List Ber.Pk) (A : Option Addr) (cp : Nat) (hC : Kd.C PFnBerForms.k26 w A items.length (spSs items)) (hcp : items.length ≤ cp) (hty : Ber.Typed (.mk c b t data items))
    (ch : List UInt8) (Ac : Option Addr) (cc : Nat) (hch : Kd.C (Kd.int .u8) w Ac ch.length (ch.map fun x => (x.toNat : Int))) (s : List UInt8) :
    Calls Tryd.prog 6 #[.agg #[.int .u8 (c : Int), .bool b, .int .u64 (t : Int), .string (bs data), .slice A items.length cp], .slice Ac ch.length cc, .string (bs s)] w fun e w' => e = .returned (.bool true) ∧ Below w.heap.size w w' := by
  obtain ⟨W1, hW1⟩ : ∃ W1, W1 = w.alloc (.cells #[.int .u8 (c : Int), .bool b, .int .u64 (t : Int), .string (bs data), .slice A items.length cp] 26) := ⟨_, rfl⟩
  have hW1s : Below w.heap.size w W1 := by rw [hW1]; exact (Below.refl _ w).alloc (Nat.le_refl _) _
  have hblk : W1.heap[w.heap.size]? = some (.cells #[.int .u8 (c : Int), .bool b, .int .u64 (t : Int), .string (bs data), .slice A items.length cp] 26 (0, 0)) := by rw [hW1]; exact heap_alloc_new w _
  have hlt : w.heap.size < W1.heap.size := blockLt hblk
  obtain ⟨r0, hcall0⟩ := fits5_call W1 c b t data items A cp (Kd.C_below hC hW1s) hcp
  have hssz := bs_size s
  have HE := Lib.hid hE
  have HC := Lib.hid hC
  have HTY := Lib.hid hty
  have HCH := Lib.hid hch
  have HW1 := Lib.hid hW1
  have HW1S := Lib.hid hW1s
  have HBLK := Lib.hid hblk
  have HC0 := Lib.hid hcall0
  clear hE hC hty hch hW1 hW1s hblk hcall0
  go_enter Tryd.func6, Tryd.ntmps6
  go_wp2_with fail
  rw [← HW1.out]
  refine HC0.out.mono ?_
  rintro e w2 ⟨rfl, hb2⟩
  have HBEL2 := Lib.hid (HW1S.out.trans (hb2.mono HW1S.out.size))
  have HBLK2 : Hid (w2.heap[w.heap.size]? = some (.cells #[.int .u8 (c : Int), .bool b, .int .u64 (t : Int), .string (bs data), .slice A items.length cp] 26 (0, 0))) := Lib.hid ((hb2.block _ hlt).trans HBLK.out)
  clear hb2
  cases r0 with
  | false =>
    go_wp2
    go_ret
    exact ⟨rfl, HBEL2.out⟩
  | true =>
  by_cases h1 : 2147483647 < ch.length
  · go_wp2
    go_ret
    exact ⟨rfl, HBEL2.out⟩
  by_cases h2 : 2147483647 < s.length
  · go_wp2
    go_ret
    exact ⟨rfl, HBEL2.out⟩
  obtain ⟨r1, hr1, hcall1⟩ := berIs_call w2 c b t data items HTY.out A cp (Kd.C_below HC.out HBEL2.out) hcp
  have a0 := blockCell (w := w2) HBLK2.out 0
  have a1 := blockCell (w := w2) HBLK2.out 1
  have a2 := blockCell (w := w2) HBLK2.out 2
  have a3 := blockCell (w := w2) HBLK2.out 3
  have a4 := blockCell (w := w2) HBLK2.out 4
  simp only [List.getElem?_toArray, List.getElem?_cons_zero, List.getElem?_cons_succ] at a0 a1 a2 a3 a4
  have HR1 := Lib.hid hr1
  have HC1 := Lib.hid hcall1
  have hlt2 : w.heap.size < w2.heap.size := blockLt HBLK2.out
  clear hr1 hcall1
  go_wp2_with fail
  refine HC1.out.mono ?_
  rintro e w3 ⟨rfl, hb3⟩
  have HBEL3 := Lib.hid (HBEL2.out.trans (hb3.mono HBEL2.out.size))
  have HBLK3 : Hid (w3.heap[w.heap.size]? = some (.cells #[.int .u8 (c : Int), .bool b, .int .u64 (t : Int), .string (bs data), .slice A items.length cp] 26 (0, 0))) := Lib.hid ((hb3.block _ hlt2).trans HBLK2.out)
  clear hb3 a0 a1 a2 a3 a4
  cases r1 with
  | false =>
    go_wp2_with fail
    refine (awake N w3 (HE.out.below HBEL3.out hN) (by have := (HBEL3.out).size; omega)).mono ?_
    rintro e wz ⟨rfl, hb⟩
    have HB := Lib.hid ((HBEL3.out).trans (hb.mono (HBEL3.out).size))
    clear hb
    go_wp2
    go_ret
    exact ⟨rfl, HB.out⟩
  | true =>
  have a0 := blockCell (w := w3) HBLK3.out 0
  have a1 := blockCell (w := w3) HBLK3.out 1
  have a2 := blockCell (w := w3) HBLK3.out 2
  have a3 := blockCell (w := w3) HBLK3.out 3
  have a4 := blockCell (w := w3) HBLK3.out 4
  simp only [List.getElem?_toArray, List.getElem?_cons_zero, List.getElem?_cons_succ] at a0 a1 a2 a3 a4
  have hpl := plain_all w _ c b t data items (Nat.lt_succ_self _) w3 A cp HBEL3.out HC.out hcp
  have HPL := Lib.hid hpl
  have hlt3 : w.heap.size < w3.heap.size := blockLt HBLK3.out
  clear hpl
  go_wp2_with fail
  refine HPL.out.mono ?_
  rintro e w4 ⟨⟨r2, rfl, hr2⟩, hb4⟩
  have HR2 := Lib.hid hr2
  have HBEL4 := Lib.hid (HBEL3.out.trans (hb4.mono HBEL3.out.size))
  have HBLK4 : Hid (w4.heap[w.heap.size]? = some (.cells #[.int .u8 (c : Int), .bool b, .int .u64 (t : Int), .string (bs data), .slice A items.length cp] 26 (0, 0))) := Lib.hid ((hb4.block _ hlt3).trans HBLK3.out)
  clear hb4 hr2 a0 a1 a2 a3 a4
  cases r2 with
  | false =>
    go_wp2_with fail
    refine (awake N w4 (HE.out.below HBEL4.out hN) (by have := (HBEL4.out).size; omega)).mono ?_
    rintro e wz ⟨rfl, hb⟩
    have HB := Lib.hid ((HBEL4.out).trans (hb.mono (HBEL4.out).size))
    clear hb
    go_wp2
    go_ret
    exact ⟨rfl, HB.out⟩
  | true =>
  by_cases h3 : 40 < ch.length
  · skip
    go_wp2_with fail
    refine (awake N w4 (HE.out.below HBEL4.out hN) (by have := (HBEL4.out).size; omega)).mono ?_
    rintro e wz ⟨rfl, hb⟩
    have HB := Lib.hid ((HBEL4.out).trans (hb.mono (HBEL4.out).size))
    clear hb
    go_wp2
    go_ret
    exact ⟨rfl, HB.out⟩
  by_cases h4 : 50 < s.length
  · skip
    go_wp2_with fail
    refine (awake N w4 (HE.out.below HBEL4.out hN) (by have := (HBEL4.out).size; omega)).mono ?_
    rintro e wz ⟨rfl, hb⟩
    have HB := Lib.hid ((HBEL4.out).trans (hb.mono (HBEL4.out).size))
    clear hb
    go_wp2
    go_ret
    exact ⟨rfl, HB.out⟩
  have hok := (HR1.out (by first | rfl | trivial)).1
  have hct := (HR1.out (by first | rfl | trivial)).2
  have hkn := HR2.out (by first | rfl | trivial)
  obtain ⟨T, a2', hf1⟩ : ∃ T a2', Ber.forms ch (.mk c b t data items) 0 = (T, a2') := ⟨_, _, rfl⟩
  have hrf := Ber.read_form ch (.mk c b t data items) s hok hkn hct
  rw [hf1] at hrf
  simp only [] at hrf
  have hrl : T.length ≤ 20000 := hrf.2.1
  have hcall := berForms_call w4 ch Ac cc (forms_all w4 ch Ac cc (Kd.C_below HCH.out HBEL4.out) (by omega)) c b t data items (Ber.ok_of _ 7 hok) A cp T a2' hf1 (by have := hrf.2.2.2; omega) (by omega) (Kd.C_below HC.out HBEL4.out) hcp
  have hshort := Ber.forms_short (.mk c b t data items) 0 (Ber.apart_of _ 7 hok)
  have hrf0 := Ber.read_form [] (.mk c b t data items) [] hok hkn hct
  rw [hshort] at hrf0
  obtain ⟨ko, hof⟩ := (of_ev _ (.mk c b t data items) (Nat.lt_succ_self _) (by omega)).at_
  obtain ⟨kt, hto⟩ := (to_ev _ (.mk c b t data items) (Nat.lt_succ_self _) (by omega)).at_
  obtain ⟨ks, hsame⟩ := (same_ev _ (.mk c b t data items) (Nat.lt_succ_self _) (by omega)).at_
  simp only [spS, toS] at hof hsame hto
  have a0 := blockCell (w := w4) HBLK4.out 0
  have a1 := blockCell (w := w4) HBLK4.out 1
  have a2 := blockCell (w := w4) HBLK4.out 2
  have a3 := blockCell (w := w4) HBLK4.out 3
  have a4 := blockCell (w := w4) HBLK4.out 4
  simp only [List.getElem?_toArray, List.getElem?_cons_zero, List.getElem?_cons_succ] at a0 a1 a2 a3 a4
  have HOK := Lib.hid (Ber.ok_of _ 7 hok)
  have HAP := Lib.hid (Ber.apart_of _ 7 hok)
  have HENC := Lib.hid (show (Ber.enc (.mk c b t data items)).length ≤ 100000000 by have := hrf0.2.1; simp only [] at this; omega)
  have HSHORT := Lib.hid hshort
  have HREAD := Lib.hid hrf.1
  have HCALL := Lib.hid hcall
  have HOF := Lib.hid hof
  have HTO := Lib.hid hto
  have HSAME := Lib.hid hsame
  have hTsz := bs_size T
  have hadd : (bs T).size + (bs s).size ≤ 9223372036854775807 := by omega
  have hlt4 : w.heap.size < w4.heap.size := blockLt HBLK4.out
  clear hok hct hkn hf1 hrf hcall hshort hrf0 hof hto hsame
  go_wp2_with fail
  refine HCALL.out.mono ?_
  rintro e w5 ⟨rfl, hb5⟩
  have HBEL5 := Lib.hid (HBEL4.out.trans (hb5.mono HBEL4.out.size))
  have HBLK5 : Hid (w5.heap[w.heap.size]? = some (.cells #[.int .u8 (c : Int), .bool b, .int .u64 (t : Int), .string (bs data), .slice A items.length cp] 26 (0, 0))) := Lib.hid ((hb5.block _ hlt4).trans HBLK4.out)
  have hbr := ber_read N w5 (bs (T ++ s)) (HE.out.below HBEL5.out hN) (by have := HBEL5.out.size; omega) (by rw [bs_size, List.length_append]; omega) _ _ HREAD.out (by simp)
  have HBR := Lib.hid hbr
  have hapd := bs_append T s
  clear hb5 hbr a0 a1 a2 a3 a4
  go_wp2_with fail
  refine HBR.out.mono ?_
  rintro e w6 ⟨⟨v4, rfl, hv4⟩, hb6⟩
  obtain ⟨A5, c5, rfl, l5, hC5⟩ := Kd.R_reads hv4
  have hused : (((bs (T ++ s)).size - s.length : Nat) : Int) = (T.length : Int) := by rw [bs_size, List.length_append]; omega
  rw [hused]
  obtain ⟨w7, hw7⟩ : ∃ w7, w7 = w6.alloc (.cells #[.int .u8 (c : Int), .bool b, .int .u64 (t : Int), .string ⟨data.toArray⟩, .slice A5 (toSs items).length c5] 31) := ⟨_, rfl⟩
  have hbel6 : Below w.heap.size w w6 := HBEL5.out.trans (hb6.mono HBEL5.out.size)
  have hbel7 : Below w.heap.size w w7 := by rw [hw7]; exact hbel6.alloc hbel6.size _
  have hn7 : w7.heap[w6.heap.size]? = some (.cells #[.int .u8 (c : Int), .bool b, .int .u64 (t : Int), .string ⟨data.toArray⟩, .slice A5 (toSs items).length c5] 31 (0, 0)) := by rw [hw7]; exact heap_alloc_new w6 _
  have hlt5 : w.heap.size < w5.heap.size := blockLt HBLK5.out
  have ho7 : w7.heap[w.heap.size]? = some (.cells #[.int .u8 (c : Int), .bool b, .int .u64 (t : Int), .string (bs data), .slice A items.length cp] 26 (0, 0)) := by
    rw [hw7]
    exact (Below.heap_alloc w6 _ _ (by have := hb6.size; omega)).trans ((hb6.block _ hlt5).trans HBLK5.out)
  have hC5' : Kd.C PFnBerForms.k31 w7 A5 (toSs items).length (toSs items) := by rw [hw7]; exact Kd.C_alloc (by simpa only [toS] using hC5) _
  have HBEL7 := Lib.hid hbel7
  have HN7 := Lib.hid hn7
  have HO7 := Lib.hid ho7
  have HC5 := Lib.hid hC5'
  have HW7 := Lib.hid hw7
  simp only [toS] at l5 ⊢
  clear hb6 hv4 hC5 hbel6 hbel7 hn7 ho7 hC5' hw7 hused
  go_wp2_with fail
  rw [← HW7.out]
  have a0 := blockCell (w := w7.drew) HN7.out 0
  have a1 := blockCell (w := w7.drew) HN7.out 1
  have a2 := blockCell (w := w7.drew) HN7.out 2
  have a3 := blockCell (w := w7.drew) HN7.out 3
  have a4 := blockCell (w := w7.drew) HN7.out 4
  simp only [List.getElem?_toArray, List.getElem?_cons_zero, List.getElem?_cons_succ] at a0 a1 a2 a3 a4
  have o0 := blockCell (w := w7.drew) HO7.out 0
  have o1 := blockCell (w := w7.drew) HO7.out 1
  have o2 := blockCell (w := w7.drew) HO7.out 2
  have o3 := blockCell (w := w7.drew) HO7.out 3
  have o4 := blockCell (w := w7.drew) HO7.out 4
  simp only [List.getElem?_toArray, List.getElem?_cons_zero, List.getElem?_cons_succ] at o0 o1 o2 o3 o4
  have hlX : w6.heap.size < w7.heap.size := blockLt HN7.out
  have hlO : w.heap.size < w7.heap.size := blockLt HO7.out
  refine start_ (n := 26) (S := fun w' => w'.cell? ⟨w6.heap.size, 0, none⟩ = some (.int .u8 (c : Int)) ∧ w'.cell? ⟨w6.heap.size, 1, none⟩ = some (.bool b) ∧ w'.cell? ⟨w6.heap.size, 2, none⟩ = some (.int .u64 (t : Int)) ∧ w'.cell? ⟨w6.heap.size, 3, none⟩ = some (.string ⟨data.toArray⟩) ∧ w'.cell? ⟨w6.heap.size, 4, none⟩ = some (.slice A5 (toSs items).length c5) ∧ w'.cell? ⟨w.heap.size, 0, none⟩ = some (.int .u8 (c : Int)) ∧ w'.cell? ⟨w.heap.size, 1, none⟩ = some (.bool b) ∧ w'.cell? ⟨w.heap.size, 2, none⟩ = some (.int .u64 (t : Int)) ∧ w'.cell? ⟨w.heap.size, 3, none⟩ = some (.string (bs data)) ∧ w'.cell? ⟨w.heap.size, 4, none⟩ = some (.slice A items.length cp)) (ds := []) #[false, false, false, false, false, false, false, false, false, false, false, false, false, false, false, false, false, false, false, false, false, false, false, false, false, false] (by kernel_rfl) rfl rfl ⟨a0, a1, a2, a3, a4, o0, o1, o2, o3, o4⟩ (fun hHeld => ?_)
  refine with_tabW whole_tab whole_bits (fun HT_ HW_ => ?_)
  clear a0 a1 a2 a3 a4 o0 o1 o2 o3 o4
  refine one_ (i := 0) (N := some 54) #[true, false, false, false, false, false, false, false, false, false, false, false, false, false, false, false, false, false, false, false, false, false, false, false, false, false] rfl rfl (one_of HT_.out (by kernel_rfl)) (by decide) (fun K hK => ?_)
  refine goes_ Tryd.func7 (by kernel_rfl) rfl #[] (by rfl) rfl rfl (by (try simp only [List.map_toArray, List.map_cons, List.map_nil]); first | done | rfl) ?_
  refine (awake N w7.drew (HE.out.below HBEL7.out.drew hN) (by have := HBEL7.out.size; simp; omega)).mono ?_
  rintro e w8 ⟨rfl, hb8⟩
  have hlX8 : w6.heap.size < w8.heap.size := Nat.lt_of_lt_of_le hlX hb8.size
  have hlO8 : w.heap.size < w8.heap.size := Nat.lt_of_lt_of_le hlO hb8.size
  have HBEL8 := Lib.hid (HBEL7.out.drew.trans (hb8.mono HBEL7.out.size))
  have HB8 := Lib.hid hb8
  refine ⟨_, rfl, ?_⟩
  refine hK.out _ _ ⟨(hb8.cell hlX).trans hHeld.1, (hb8.cell hlX).trans hHeld.2.1, (hb8.cell hlX).trans hHeld.2.2.1, (hb8.cell hlX).trans hHeld.2.2.2.1, (hb8.cell hlX).trans hHeld.2.2.2.2.1, (hb8.cell hlO).trans hHeld.2.2.2.2.2.1, (hb8.cell hlO).trans hHeld.2.2.2.2.2.2.1, (hb8.cell hlO).trans hHeld.2.2.2.2.2.2.2.1, (hb8.cell hlO).trans hHeld.2.2.2.2.2.2.2.2.1, (hb8.cell hlO).trans hHeld.2.2.2.2.2.2.2.2.2⟩ (fun hHeld => ?_)
  clear hb8
  clear hK K
  refine norm_ (a' := ?_) ?_ ?_
  rotate_left
  · show Act.put _ (some 54) _ = _
    simp only [Act.put, List.setIfInBounds_toArray, List.set_cons_zero, List.set_cons_succ]
    rfl
  refine pure_ (i := 1) (N := some 55) (v := ?_) (a' := ?_) #[true, true, false, false, false, false, false, false, false, false, false, false, false, false, false, false, false, false, false, false, false, false, false, false, false, false] rfl rfl (any_of HT_.out (by kernel_rfl)) (fun _ _ _ h => h) (Or.inl ⟨by rfl, ?_⟩) ?_ ?_
  rotate_left
  · intro w'
    go_simp
    with_reducible rfl
  rotate_left
  · simp only [Act.put, List.setIfInBounds_toArray, List.set_cons_zero, List.set_cons_succ]
    rfl
  refine pure_ (i := 2) (N := some 56) (v := ?_) (a' := ?_) #[true, true, true, false, false, false, false, false, false, false, false, false, false, false, false, false, false, false, false, false, false, false, false, false, false, false] rfl rfl (any_of HT_.out (by kernel_rfl)) (fun _ _ _ h => h) (Or.inl ⟨by rfl, ?_⟩) ?_ ?_
  rotate_left
  · intro w'
    go_simp
    with_reducible rfl
  rotate_left
  · simp only [Act.put, List.setIfInBounds_toArray, List.set_cons_zero, List.set_cons_succ]
    rfl
  refine pure_ (i := 3) (N := some 57) (v := ?_) (a' := ?_) #[true, true, true, true, false, false, false, false, false, false, false, false, false, false, false, false, false, false, false, false, false, false, false, false, false, false] rfl rfl (any_of HT_.out (by kernel_rfl)) (fun _ _ _ h => h) (Or.inl ⟨by rfl, ?_⟩) ?_ ?_
  rotate_left
  · intro w'
    go_simp
    with_reducible rfl
  rotate_left
  · simp only [Act.put, List.setIfInBounds_toArray, List.set_cons_zero, List.set_cons_succ]
    rfl
  refine pure_ (i := 4) (N := some 58) (v := ?_) (a' := ?_) #[true, true, true, true, true, false, false, false, false, false, false, false, false, false, false, false, false, false, false, false, false, false, false, false, false, false] rfl rfl (any_of HT_.out (by kernel_rfl)) (fun _ _ _ h => h) (Or.inl ⟨by rfl, ?_⟩) ?_ ?_
  rotate_left
  · intro w'
    go_simp
    with_reducible rfl
  rotate_left
  · simp only [Act.put, List.setIfInBounds_toArray, List.set_cons_zero, List.set_cons_succ]
    rfl
  refine pure_ (i := 5) (N := some 59) (v := ?_) (a' := ?_) #[true, true, true, true, true, true, false, false, false, false, false, false, false, false, false, false, false, false, false, false, false, false, false, false, false, false] rfl rfl (any_of HT_.out (by kernel_rfl)) (fun _ _ _ h => h) (Or.inl ⟨by rfl, ?_⟩) ?_ ?_
  rotate_left
  · intro w'
    go_simp
    with_reducible rfl
  rotate_left
  · simp only [Act.put, List.setIfInBounds_toArray, List.set_cons_zero, List.set_cons_succ]
    rfl
  refine pure_ (i := 6) (N := some 60) (v := ?_) (a' := ?_) #[true, true, true, true, true, true, true, false, false, false, false, false, false, false, false, false, false, false, false, false, false, false, false, false, false, false] rfl rfl (any_of HT_.out (by kernel_rfl)) (fun _ _ _ h => h) (Or.inl ⟨by rfl, ?_⟩) ?_ ?_
  rotate_left
  · intro w'
    go_simp
    with_reducible rfl
  rotate_left
  · simp only [Act.put, List.setIfInBounds_toArray, List.set_cons_zero, List.set_cons_succ]
    rfl
  refine pure_ (i := 7) (N := some 61) (v := ?_) (a' := ?_) #[true, true, true, true, true, true, true, true, false, false, false, false, false, false, false, false, false, false, false, false, false, false, false, false, false, false] rfl rfl (any_of HT_.out (by kernel_rfl)) (fun _ _ _ h => h) (Or.inl ⟨by rfl, ?_⟩) ?_ ?_
  rotate_left
  · intro w'
    go_simp
    with_reducible rfl
  rotate_left
  · simp only [Act.put, List.setIfInBounds_toArray, List.set_cons_zero, List.set_cons_succ]
    rfl
  refine pure_ (i := 8) (N := some 62) (v := ?_) (a' := ?_) #[true, true, true, true, true, true, true, true, true, false, false, false, false, false, false, false, false, false, false, false, false, false, false, false, false, false] rfl rfl (any_of HT_.out (by kernel_rfl)) (fun _ _ _ h => h) (Or.inl ⟨by rfl, ?_⟩) ?_ ?_
  rotate_left
  · intro w'
    go_simp
    with_reducible rfl
  rotate_left
  · simp only [Act.put, List.setIfInBounds_toArray, List.set_cons_zero, List.set_cons_succ]
    rfl
  refine pure_ (i := 9) (N := some 63) (v := ?_) (a' := ?_) #[true, true, true, true, true, true, true, true, true, true, false, false, false, false, false, false, false, false, false, false, false, false, false, false, false, false] rfl rfl (any_of HT_.out (by kernel_rfl)) (fun _ _ _ h => h) (Or.inl ⟨by rfl, ?_⟩) ?_ ?_
  rotate_left
  · intro w'
    go_simp
    with_reducible rfl
  rotate_left
  · simp only [Act.put, List.setIfInBounds_toArray, List.set_cons_zero, List.set_cons_succ]
    rfl
  refine pure_ (i := 10) (N := some 64) (v := ?_) (a' := ?_) #[true, true, true, true, true, true, true, true, true, true, true, false, false, false, false, false, false, false, false, false, false, false, false, false, false, false] rfl rfl (any_of HT_.out (by kernel_rfl)) (fun _ _ _ h => h) (Or.inl ⟨by rfl, ?_⟩) ?_ ?_
  rotate_left
  · intro w'
    go_simp
    with_reducible rfl
  rotate_left
  · simp only [Act.put, List.setIfInBounds_toArray, List.set_cons_zero, List.set_cons_succ]
    rfl
  refine pure_ (i := 11) (N := some 65) (v := ?_) (a' := ?_) #[true, true, true, true, true, true, true, true, true, true, true, true, false, false, false, false, false, false, false, false, false, false, false, false, false, false] rfl rfl (any_of HT_.out (by kernel_rfl)) (fun _ _ _ h => h) (Or.inl ⟨by rfl, ?_⟩) ?_ ?_
  rotate_left
  · intro w'
    go_simp
    with_reducible rfl
  rotate_left
  · simp only [Act.put, List.setIfInBounds_toArray, List.set_cons_zero, List.set_cons_succ]
    rfl
  refine take_ (i := 12) (N := some 66) (v := ?_) (a' := ?_) #[true, true, true, true, true, true, true, true, true, true, true, true, true, false, false, false, false, false, false, false, false, false, false, false, false, false] rfl rfl (take_ofW HT_.out HW_.out (by kernel_rfl)) (fun _ _ _ h => h) (Or.inl ⟨by rfl, ?_⟩) hHeld ?_ ?_
  rotate_left
  · rintro w' ⟨s0, s1, s2, s3, s4, -, -, -, -, -⟩
    go_simp
    with_reducible rfl
  rotate_left
  · simp only [Act.put, List.setIfInBounds_toArray, List.set_cons_zero, List.set_cons_succ]
    rfl
  refine take_ (i := 14) (N := some 68) (v := ?_) (a' := ?_) #[true, true, true, true, true, true, true, true, true, true, true, true, true, false, true, false, false, false, false, false, false, false, false, false, false, false] rfl rfl (take_ofW HT_.out HW_.out (by kernel_rfl)) (fun _ _ _ h => h) (Or.inl ⟨by rfl, ?_⟩) hHeld ?_ ?_
  rotate_left
  · rintro w' ⟨-, -, -, -, -, s0, s1, s2, s3, s4⟩
    go_simp
    with_reducible rfl
  rotate_left
  · simp only [Act.put, List.setIfInBounds_toArray, List.set_cons_zero, List.set_cons_succ]
    rfl
  refine one_ (i := 13) (N := some 67) #[true, true, true, true, true, true, true, true, true, true, true, true, true, true, true, false, false, false, false, false, false, false, false, false, false, false] rfl rfl (one_of HT_.out (by kernel_rfl)) (by decide) (fun K hK => ?_)
  refine goes_ Tryd.func11 (by kernel_rfl) rfl #[.agg #[.int .u8 (c : Int), .bool b, .int .u64 (t : Int), .string ⟨data.toArray⟩, .slice A5 (toSs items).length c5]] (by rfl) rfl rfl (by (try simp only [List.map_toArray, List.map_cons, List.map_nil]); first | done | rfl) ?_
  refine (PFnBerForms.laws_berOf.calls ko _ _ _ _ A5 c5 (toSs items) _ _ _ _ _ w8 (Kd.C_below (Kd.C_drew HC5.out) HB8.out) l5 HOF.out).mono ?_
  rintro e w9 ⟨v9, rfl, hR, hb9⟩
  obtain ⟨A6, c6, rfl, l6, hC6⟩ := Kd.R_reads hR
  rw [spSs_length] at hC6 l6
  simp only [spSs_length]
  have hlX9 : w6.heap.size < w9.heap.size := Nat.lt_of_lt_of_le hlX8 hb9.size
  have hlO9 : w.heap.size < w9.heap.size := Nat.lt_of_lt_of_le hlO8 hb9.size
  have HBEL9 := Lib.hid (HBEL8.out.trans (hb9.mono HBEL8.out.size))
  have HC6 := Lib.hid hC6
  have HL6 := Lib.hid l6
  refine ⟨_, rfl, ?_⟩
  refine hK.out _ _ ⟨(hb9.cell hlX8).trans hHeld.1, (hb9.cell hlX8).trans hHeld.2.1, (hb9.cell hlX8).trans hHeld.2.2.1, (hb9.cell hlX8).trans hHeld.2.2.2.1, (hb9.cell hlX8).trans hHeld.2.2.2.2.1, (hb9.cell hlO8).trans hHeld.2.2.2.2.2.1, (hb9.cell hlO8).trans hHeld.2.2.2.2.2.2.1, (hb9.cell hlO8).trans hHeld.2.2.2.2.2.2.2.1, (hb9.cell hlO8).trans hHeld.2.2.2.2.2.2.2.2.1, (hb9.cell hlO8).trans hHeld.2.2.2.2.2.2.2.2.2⟩ (fun hHeld => ?_)
  clear hb9 hR hC6 l6
  clear hK K
  refine norm_ (a' := ?_) ?_ ?_
  rotate_left
  · show Act.put _ (some 67) _ = _
    simp only [Act.put, List.setIfInBounds_toArray, List.set_cons_zero, List.set_cons_succ]
    rfl
  refine one_ (i := 15) (N := some 69) #[true, true, true, true, true, true, true, true, true, true, true, true, true, true, true, true, false, false, false, false, false, false, false, false, false, false] rfl rfl (one_of HT_.out (by kernel_rfl)) (by decide) (fun K hK => ?_)
  refine goes_ Tryd.func10 (by kernel_rfl) rfl #[.agg #[.int .u8 (c : Int), .bool b, .int .u64 (t : Int), .string (bs data), .slice A6 items.length c6], .agg #[.int .u8 (c : Int), .bool b, .int .u64 (t : Int), .string (bs data), .slice A items.length cp]] (by rfl) rfl rfl (by (try simp only [List.map_toArray, List.map_cons, List.map_nil]); first | done | rfl) ?_
  have hBS := PFnBerForms.spec_BerSame.calls ks (c : Int) b (t : Int) (bs data) A6 c6 (spSs items) (c : Int) b (t : Int) (bs data) A cp (spSs items) true w9 (by rw [spSs_length]; exact HC6.out) (by rw [spSs_length]; exact HL6.out) (by rw [spSs_length]; exact Kd.C_below HC.out HBEL9.out) (by rw [spSs_length]; exact hcp) HSAME.out
  rw [spSs_length] at hBS
  refine hBS.mono ?_
  clear hBS
  rintro e w10 ⟨rfl, hb10⟩
  have hlX10 : w6.heap.size < w10.heap.size := Nat.lt_of_lt_of_le hlX9 hb10.size
  have hlO10 : w.heap.size < w10.heap.size := Nat.lt_of_lt_of_le hlO9 hb10.size
  have HBEL10 := Lib.hid (HBEL9.out.trans (hb10.mono HBEL9.out.size))
  refine ⟨_, rfl, ?_⟩
  refine hK.out _ _ ⟨(hb10.cell hlX9).trans hHeld.1, (hb10.cell hlX9).trans hHeld.2.1, (hb10.cell hlX9).trans hHeld.2.2.1, (hb10.cell hlX9).trans hHeld.2.2.2.1, (hb10.cell hlX9).trans hHeld.2.2.2.2.1, (hb10.cell hlO9).trans hHeld.2.2.2.2.2.1, (hb10.cell hlO9).trans hHeld.2.2.2.2.2.2.1, (hb10.cell hlO9).trans hHeld.2.2.2.2.2.2.2.1, (hb10.cell hlO9).trans hHeld.2.2.2.2.2.2.2.2.1, (hb10.cell hlO9).trans hHeld.2.2.2.2.2.2.2.2.2⟩ (fun hHeld => ?_)
  clear hb10
  clear hK K
  refine norm_ (a' := ?_) ?_ ?_
  rotate_left
  · show Act.put _ (some 69) _ = _
    simp only [Act.put, List.setIfInBounds_toArray, List.set_cons_zero, List.set_cons_succ]
    rfl
  refine pure_ (i := 16) (N := some 70) (v := ?_) (a' := ?_) #[true, true, true, true, true, true, true, true, true, true, true, true, true, true, true, true, true, false, false, false, false, false, false, false, false, false] rfl rfl (any_of HT_.out (by kernel_rfl)) (fun _ _ _ h => h) (Or.inl ⟨by rfl, ?_⟩) ?_ ?_
  rotate_left
  · intro w'
    go_simp
    with_reducible rfl
  rotate_left
  · simp only [Act.put, List.setIfInBounds_toArray, List.set_cons_zero, List.set_cons_succ]
    rfl
  refine pure_ (i := 17) (N := some 71) (v := ?_) (a' := ?_) #[true, true, true, true, true, true, true, true, true, true, true, true, true, true, true, true, true, true, false, false, false, false, false, false, false, false] rfl rfl (any_of HT_.out (by kernel_rfl)) (fun _ _ _ h => h) (Or.inl ⟨by rfl, ?_⟩) ?_ ?_
  rotate_left
  · intro w'
    go_simp
    with_reducible rfl
  rotate_left
  · simp only [Act.put, List.setIfInBounds_toArray, List.set_cons_zero, List.set_cons_succ]
    rfl
  refine take_ (i := 18) (N := some 72) (v := ?_) (a' := ?_) #[true, true, true, true, true, true, true, true, true, true, true, true, true, true, true, true, true, true, true, false, false, false, false, false, false, false] rfl rfl (take_ofW HT_.out HW_.out (by kernel_rfl)) (fun _ _ _ h => h) (Or.inl ⟨by rfl, ?_⟩) hHeld ?_ ?_
  rotate_left
  · rintro w' ⟨-, -, -, -, -, s0, s1, s2, s3, s4⟩
    go_simp
    with_reducible rfl
  rotate_left
  · simp only [Act.put, List.setIfInBounds_toArray, List.set_cons_zero, List.set_cons_succ]
    rfl
  refine take_ (i := 21) (N := some 75) (v := ?_) (a' := ?_) #[true, true, true, true, true, true, true, true, true, true, true, true, true, true, true, true, true, true, true, false, false, true, false, false, false, false] rfl rfl (take_ofW HT_.out HW_.out (by kernel_rfl)) (fun _ _ _ h => h) (Or.inl ⟨by rfl, ?_⟩) hHeld ?_ ?_
  rotate_left
  · rintro w' ⟨-, -, -, -, -, s0, s1, s2, s3, s4⟩
    go_simp
    with_reducible rfl
  rotate_left
  · simp only [Act.put, List.setIfInBounds_toArray, List.set_cons_zero, List.set_cons_succ]
    rfl
  refine one_ (i := 19) (N := some 73) #[true, true, true, true, true, true, true, true, true, true, true, true, true, true, true, true, true, true, true, true, false, true, false, false, false, false] rfl rfl (one_of HT_.out (by kernel_rfl)) (by decide) (fun K hK => ?_)
  refine goes_ Tryd.func20 (by kernel_rfl) rfl #[.agg #[.int .u8 (c : Int), .bool b, .int .u64 (t : Int), .string (bs data), .slice A items.length cp]] (by rfl) rfl rfl (by (try simp only [List.map_toArray, List.map_cons, List.map_nil]); first | done | rfl) ?_
  have hBT := PFnBerForms.laws_berTo.calls kt (c : Int) b (t : Int) (bs data) A cp (spSs items) _ _ _ _ _ w10 (by rw [spSs_length]; exact Kd.C_below HC.out HBEL10.out) (by rw [spSs_length]; exact hcp) HTO.out
  rw [spSs_length] at hBT
  refine hBT.mono ?_
  clear hBT
  rintro e w11 ⟨v11, rfl, hR, hb11⟩
  obtain ⟨A7, c7, rfl, l7, hC7⟩ := Kd.R_reads hR
  rw [toSs_length] at hC7 l7
  simp only [toSs_length]
  have hlX11 : w6.heap.size < w11.heap.size := Nat.lt_of_lt_of_le hlX10 hb11.size
  have hlO11 : w.heap.size < w11.heap.size := Nat.lt_of_lt_of_le hlO10 hb11.size
  have HBEL11 := Lib.hid (HBEL10.out.trans (hb11.mono HBEL10.out.size))
  have HC7 := Lib.hid hC7
  have HL7 := Lib.hid l7
  refine ⟨_, rfl, ?_⟩
  refine hK.out _ _ ⟨(hb11.cell hlX10).trans hHeld.1, (hb11.cell hlX10).trans hHeld.2.1, (hb11.cell hlX10).trans hHeld.2.2.1, (hb11.cell hlX10).trans hHeld.2.2.2.1, (hb11.cell hlX10).trans hHeld.2.2.2.2.1, (hb11.cell hlO10).trans hHeld.2.2.2.2.2.1, (hb11.cell hlO10).trans hHeld.2.2.2.2.2.2.1, (hb11.cell hlO10).trans hHeld.2.2.2.2.2.2.2.1, (hb11.cell hlO10).trans hHeld.2.2.2.2.2.2.2.2.1, (hb11.cell hlO10).trans hHeld.2.2.2.2.2.2.2.2.2⟩ (fun hHeld => ?_)
  clear hb11 hR hC7 l7
  clear hK K
  refine norm_ (a' := ?_) ?_ ?_
  rotate_left
  · show Act.put _ (some 73) _ = _
    simp only [Act.put, List.setIfInBounds_toArray, List.set_cons_zero, List.set_cons_succ]
    rfl
  refine one_ (i := 20) (N := some 74) #[true, true, true, true, true, true, true, true, true, true, true, true, true, true, true, true, true, true, true, true, true, true, false, false, false, false] rfl rfl (one_of HT_.out (by kernel_rfl)) (by decide) (fun K hK => ?_)
  refine goes_ Tryd.func19 (by kernel_rfl) rfl #[.agg #[.int .u8 (c : Int), .bool b, .int .u64 (t : Int), .string ⟨data.toArray⟩, .slice A7 items.length c7]] (by rfl) rfl rfl (by (try simp only [List.map_toArray, List.map_cons, List.map_nil]); first | done | rfl) ?_
  refine (berWrite_call w11 c b t data items HOK.out HAP.out HENC.out A7 c7 HC7.out HL7.out).mono ?_
  rintro e w12 ⟨rfl, hb12⟩
  have hlX12 : w6.heap.size < w12.heap.size := Nat.lt_of_lt_of_le hlX11 hb12.size
  have hlO12 : w.heap.size < w12.heap.size := Nat.lt_of_lt_of_le hlO11 hb12.size
  have HBEL12 := Lib.hid (HBEL11.out.trans (hb12.mono HBEL11.out.size))
  refine ⟨_, rfl, ?_⟩
  refine hK.out _ _ ⟨(hb12.cell hlX11).trans hHeld.1, (hb12.cell hlX11).trans hHeld.2.1, (hb12.cell hlX11).trans hHeld.2.2.1, (hb12.cell hlX11).trans hHeld.2.2.2.1, (hb12.cell hlX11).trans hHeld.2.2.2.2.1, (hb12.cell hlO11).trans hHeld.2.2.2.2.2.1, (hb12.cell hlO11).trans hHeld.2.2.2.2.2.2.1, (hb12.cell hlO11).trans hHeld.2.2.2.2.2.2.2.1, (hb12.cell hlO11).trans hHeld.2.2.2.2.2.2.2.2.1, (hb12.cell hlO11).trans hHeld.2.2.2.2.2.2.2.2.2⟩ (fun hHeld => ?_)
  clear hb12
  clear hK K
  refine norm_ (a' := ?_) ?_ ?_
  rotate_left
  · show Act.put _ (some 74) _ = _
    simp only [Act.put, List.setIfInBounds_toArray, List.set_cons_zero, List.set_cons_succ]
    rfl
  refine one_ (i := 22) (N := some 76) #[true, true, true, true, true, true, true, true, true, true, true, true, true, true, true, true, true, true, true, true, true, true, true, false, false, false] rfl rfl (one_of HT_.out (by kernel_rfl)) (by decide) (fun K hK => ?_)
  refine goes_ Tryd.func17 (by kernel_rfl) rfl #[.agg #[.int .u8 (c : Int), .bool b, .int .u64 (t : Int), .string (bs data), .slice A items.length cp]] (by rfl) rfl rfl (by (try simp only [List.map_toArray, List.map_cons, List.map_nil]); first | done | rfl) ?_
  refine (berText_call w12 c b t data items HOK.out A cp _ _ HSHORT.out (by omega) (by have := HENC.out; omega) (Kd.C_below HC.out HBEL12.out) hcp).mono ?_
  rintro e w13 ⟨rfl, hb13⟩
  have HBEL13 := Lib.hid (HBEL12.out.trans (hb13.mono HBEL12.out.size))
  refine ⟨_, rfl, ?_⟩
  refine hK.out _ _ ⟨(hb13.cell hlX12).trans hHeld.1, (hb13.cell hlX12).trans hHeld.2.1, (hb13.cell hlX12).trans hHeld.2.2.1, (hb13.cell hlX12).trans hHeld.2.2.2.1, (hb13.cell hlX12).trans hHeld.2.2.2.2.1, (hb13.cell hlO12).trans hHeld.2.2.2.2.2.1, (hb13.cell hlO12).trans hHeld.2.2.2.2.2.2.1, (hb13.cell hlO12).trans hHeld.2.2.2.2.2.2.2.1, (hb13.cell hlO12).trans hHeld.2.2.2.2.2.2.2.2.1, (hb13.cell hlO12).trans hHeld.2.2.2.2.2.2.2.2.2⟩ (fun hHeld => ?_)
  clear hb13
  clear hK K
  refine norm_ (a' := ?_) ?_ ?_
  rotate_left
  · show Act.put _ (some 76) _ = _
    simp only [Act.put, List.setIfInBounds_toArray, List.set_cons_zero, List.set_cons_succ]
    rfl
  refine pure_ (i := 23) (N := some 77) (v := ?_) (a' := ?_) #[true, true, true, true, true, true, true, true, true, true, true, true, true, true, true, true, true, true, true, true, true, true, true, true, false, false] rfl rfl (any_of HT_.out (by kernel_rfl)) (fun _ _ _ h => h) (Or.inl ⟨by rfl, ?_⟩) ?_ ?_
  rotate_left
  · intro w'
    go_simp
    with_reducible rfl
  rotate_left
  · simp only [Act.put, List.setIfInBounds_toArray, List.set_cons_zero, List.set_cons_succ]
    rfl
  refine pure_ (i := 24) (N := some 78) (v := ?_) (a' := ?_) #[true, true, true, true, true, true, true, true, true, true, true, true, true, true, true, true, true, true, true, true, true, true, true, true, true, false] rfl rfl (any_of HT_.out (by kernel_rfl)) (fun _ _ _ h => h) (Or.inl ⟨by rfl, ?_⟩) ?_ ?_
  rotate_left
  · intro w'
    go_simp
    with_reducible rfl
  rotate_left
  · simp only [Act.put, List.setIfInBounds_toArray, List.set_cons_zero, List.set_cons_succ]
    rfl
  refine pure_ (i := 25) (N := some 6) (v := ?_) (a' := ?_) #[true, true, true, true, true, true, true, true, true, true, true, true, true, true, true, true, true, true, true, true, true, true, true, true, true, true] rfl rfl (any_of HT_.out (by kernel_rfl)) (fun _ _ _ h => h) (Or.inl ⟨by rfl, ?_⟩) ?_ ?_
  rotate_left
  · intro w'
    go_simp
    with_reducible rfl
  rotate_left
  · simp only [Act.put, List.setIfInBounds_toArray, List.set_cons_zero, List.set_cons_succ]
    rfl
  refine done_ (done_of HT_.out (by kernel_rfl)) ?_
  clear HT_ HW_ hHeld
  go_wp2
  go_ret
  exact ⟨rfl, HBEL13.out⟩
end Go.Proofs.YtdfehaonngccjaaDoor

