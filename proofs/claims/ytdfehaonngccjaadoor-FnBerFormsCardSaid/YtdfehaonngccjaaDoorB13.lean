/- berOf and BerSame end, and what they say. -/
import Derived.Test.YtdfehaonngccjaaDoorB12
import Derived.Test.YtdfehaonngccjaaDoorPFnBerFormsx3
import Derived.Test.YtdfehaonngccjaaDoorPFnBerFormsx4
import Derived.Deep.LoopGhost
import Derived.Laws.AppendOwn
set_option linter.unusedVariables false
set_option linter.unusedSimpArgs false
namespace Go.Proofs.YtdfehaonngccjaaDoor
open Go Go.RowKit Go.Proofs.YtdfehaonngccjaaDoorW.PrintWords Go.Proofs.YtdfehaonngccjaaDoorW.PrintLast Go.Proofs.YtdfehaonngccjaaDoorW.PrintMore

theorem toSs_get : ∀ (l : List Ber.Pk) (j : Nat) (hj : j < l.length), (toSs l)[j]? = some (toS l[j])
  | [], j, hj => absurd hj (Nat.not_lt_zero _)
  | x :: l, 0, hj => by simp [toSs]
  | x :: l, j + 1, hj => by simpa [toSs] using toSs_get l j (by simpa using hj)
theorem rd_toS (items : List Ber.Pk) (j : Nat) (hj : j < items.length) : PFnBerForms.rd_T31 (toSs items) (j : Int) = toS items[j] := by
  unfold PFnBerForms.rd_T31
  rw [List.getD_eq_getElem?_getD, Int.toNat_natCast, toSs_get items j hj]; rfl

theorem spS_eta (x : Ber.Pk) : (⟨(spS x).f0, (spS x).f1, (spS x).f2, (spS x).f3, (spS x).f4⟩ : PFnBerForms.S26) = spS x := by
  obtain ⟨_, _, _, _, _⟩ := x
  simp only [spS]

theorem of_ev (n : Nat) : ∀ (pk : Ber.Pk), SizeOf.sizeOf pk < n → Ber.count pk ≤ 1000000000 →
    Ev (fun k => PFnBerForms.laws_berOf.f k (toS pk).f0 (toS pk).f1 (toS pk).f2 (toS pk).f3 (toS pk).f4) ((spS pk).f0, (spS pk).f1, (spS pk).f2, (spS pk).f3, (spS pk).f4) := by
  induction n with
  | zero => intro pk h; omega
  | succ n ih =>
  rintro ⟨c, b, t, data, items⟩ hsz hct
  simp only [spS, toS]
  have hlc : items.length ≤ Ber.counts items := by
    clear hsz hct ih
    induction items with
    | nil => simp
    | cons x r ihr =>
      obtain ⟨_, _, _, _, _⟩ := x
      simp only [List.length_cons, Ber.counts, Ber.count]
      omega
  have hcs : Ber.counts items + 1 ≤ 1000000000 := hct
  have loop : ∀ (q i : Nat), i + q = items.length →
      Ev (fun k => PFnBerForms.laws_berOf.l0 k (toSs items) (items.length : Int) (i : Int) (c : Int) b (t : Int) (bs data) (spSs (items.take i))) ((c : Int), b, (t : Int), bs data, spSs items) := by
    intro q
    induction q with
    | zero =>
      intro i hi
      refine Ev.done fun k => ?_
      simp only [PFnBerForms.laws_berOf.l0]
      rw [if_neg (by omega), show i = items.length by omega, List.take_length]
    | succ q ihq =>
      intro i hi
      have hl : i < items.length := by omega
      have hs : SizeOf.sizeOf items[i] < n := by
        have e1 := List.sizeOf_lt_of_mem (List.getElem_mem hl)
        have e2 : SizeOf.sizeOf (Ber.Pk.mk c b t data items) = _ := Ber.Pk.mk.sizeOf_spec c b t data items
        omega
      have hcc : Ber.count items[i] ≤ 1000000000 := by
        have h1 := Ber.counts_take items i hl
        have h2 := Ber.counts_append (items.take (i + 1)) (items.drop (i + 1))
        rw [List.take_append_drop] at h2
        omega
      have c1 : (i : Int) < (items.length : Int) := Int.ofNat_lt.2 hl
      have c3 : (0 : Int) ≤ (i : Int) := Int.natCast_nonneg i
      have c4 : (spSs (items.take i)).length < 2513169434916 := by rw [spSs_length, List.length_take]; omega
      refine (ih items[i] hs hcc).two (ihq (i + 1) (by omega)) fun k hk => ?_
      have hk2 : PFnBerForms.laws_berOf.f k (toS items[i]).f0 (toS items[i]).f1 (toS items[i]).f2 (toS items[i]).f3 (toS items[i]).f4 = some ((spS items[i]).f0, (spS items[i]).f1, (spS items[i]).f2, (spS items[i]).f3, (spS items[i]).f4) := hk
      simp only [PFnBerForms.laws_berOf.l0]
      rw [toSs_length, if_pos c1, if_pos c3, if_pos c1, rd_toS items i hl, hk2, Option.bind_some, if_pos c4, w_succ i (by omega), List.take_succ_eq_append_getElem hl, spSs_append, show spSs [items[i]] = [spS items[i]] by simp only [spSs]]
      simp only [spS_eta]
  exact (loop items.length 0 (by omega)).succ fun k => by simp only [PFnBerForms.laws_berOf.f, toSs_length, List.take_zero, spSs]; rfl

theorem same_ev (n : Nat) : ∀ (pk : Ber.Pk), SizeOf.sizeOf pk < n → Ber.count pk ≤ 1000000000 →
    Ev (fun k => PFnBerForms.spec_BerSame.f k (spS pk).f0 (spS pk).f1 (spS pk).f2 (spS pk).f3 (spS pk).f4 (spS pk).f0 (spS pk).f1 (spS pk).f2 (spS pk).f3 (spS pk).f4) true := by
  induction n with
  | zero => intro pk h; omega
  | succ n ih =>
  rintro ⟨c, b, t, data, items⟩ hsz hct
  simp only [spS]
  have hlc : items.length ≤ Ber.counts items := by
    clear hsz hct ih
    induction items with
    | nil => simp
    | cons x r ihr =>
      obtain ⟨_, _, _, _, _⟩ := x
      simp only [List.length_cons, Ber.counts, Ber.count]
      omega
  have hcs : Ber.counts items + 1 ≤ 1000000000 := hct
  have loop : ∀ (q i : Nat), i + q = items.length →
      Ev (fun k => PFnBerForms.spec_BerSame.l0 k (items.length : Int) (i : Int) (c : Int) b (t : Int) (bs data) (spSs items) (c : Int) b (t : Int) (bs data) (spSs items)) true := by
    intro q
    induction q with
    | zero =>
      intro i hi
      refine Ev.done fun k => ?_
      simp only [PFnBerForms.spec_BerSame.l0]
      rw [if_neg (by omega)]
    | succ q ihq =>
      intro i hi
      have hl : i < items.length := by omega
      have hs : SizeOf.sizeOf items[i] < n := by
        have e1 := List.sizeOf_lt_of_mem (List.getElem_mem hl)
        have e2 : SizeOf.sizeOf (Ber.Pk.mk c b t data items) = _ := Ber.Pk.mk.sizeOf_spec c b t data items
        omega
      have hcc : Ber.count items[i] ≤ 1000000000 := by
        have h1 := Ber.counts_take items i hl
        have h2 := Ber.counts_append (items.take (i + 1)) (items.drop (i + 1))
        rw [List.take_append_drop] at h2
        omega
      have c1 : (i : Int) < (items.length : Int) := Int.ofNat_lt.2 hl
      have c3 : (0 : Int) ≤ (i : Int) := Int.natCast_nonneg i
      refine (ih items[i] hs hcc).two (ihq (i + 1) (by omega)) fun k hk => ?_
      have hk2 : PFnBerForms.spec_BerSame.f k (spS items[i]).f0 (spS items[i]).f1 (spS items[i]).f2 (spS items[i]).f3 (spS items[i]).f4 (spS items[i]).f0 (spS items[i]).f1 (spS items[i]).f2 (spS items[i]).f3 (spS items[i]).f4 = some true := hk
      simp only [PFnBerForms.spec_BerSame.l0]
      rw [spSs_length, if_pos c1, if_pos c3, if_pos c1, if_pos c1, rd_spS items i hl, hk2, Option.bind_some, if_pos rfl, w_succ i (by omega)]
  refine Ev.succ (g := fun k => PFnBerForms.spec_BerSame.j0 k false (c : Int) b (t : Int) (bs data) (spSs items) (c : Int) b (t : Int) (bs data) (spSs items)) ((loop items.length 0 (by omega)).succ fun k => ?_) fun k => ?_
  · simp only [PFnBerForms.spec_BerSame.j0, spSs_length, Bool.false_eq_true, if_false]; rfl
  · simp only [PFnBerForms.spec_BerSame.f, if_true, bne_self_eq_false, Bool.false_eq_true, if_false]
end Go.Proofs.YtdfehaonngccjaaDoor

/- readPacket of constructed packets: the loop's invariant. -/
namespace Go.Proofs.YtdfehaonngccjaaDoor
open Go Go.RowKit

theorem Stable.widen {B B' : Nat} {w : World} {Own : Nat → Prop} {Q : World → Prop} (h : Stable B' w (fun _ => False) Q) (hB : B ≤ B') (hO : ∀ k, Own k → k < B') : Stable B w Own Q :=
  fun w2 h2 => h w2 fun k hk hlt _ => h2 k (Nat.le_trans hB hk) hlt (fun e => by have := hO k e; omega)
theorem Stable.both {B : Nat} {w : World} {Own : Nat → Prop} {Q Q' : World → Prop} (h : Stable B w Own Q) (h' : Stable B w Own Q') : Stable B w Own (fun w => Q w ∧ Q' w) := fun w2 h2 => ⟨h w2 h2, h' w2 h2⟩

def ReadHolds (N R A : Nat) (l : List UInt8) (f : Nat) : Prop :=
  ∀ (w : World) (i d : Nat), Rd w R A l i → Env N w → d < 1000000 → Ber.readP f d (l.drop i) ≠ .bad →
    Calls Tryd.prog 33 #[.iface 53 (.pointer (some ⟨R, 0, none⟩)), .int .i64 d] w fun e w' => PackOut N w.heap.size R A l i (Ber.readP f d (l.drop i)) e w' ∧ Keep w.heap.size R w w'

/-- A packet under way. -/
structure Way (R A : Nat) (l : List UInt8) (i c t : Nat) (w : World) (P D : Nat) (k got : Nat) (row : Option Nat) (C cap : Nat) (xs : List Value) (items : List Ber.Pk) (wr : World) : Prop where
  le : got ≤ k
  rd : Rd wr R A l (i + k)
  keep : Keep w.heap.size R w wr
  hP : wr.heap[P]? = some (.cells (PkCells ((c * 64 : Nat) : Int) 32 t .nilIface (.slice none 0 0) D (.slice (some ⟨C, 0, none⟩) xs.length cap) (.string ⟨#[]⟩)) 78 (0, 0))
  hD : BufAt wr D row (Lib.byteCells (Ber.bodies items))
  hC : KidRow wr C cap xs
  cB : w.heap.size ≤ C
  rB : ∀ g, row = some g → w.heap.size ≤ g
  kids : Stable w.heap.size wr (fun k => k = P ∨ k = D ∨ row = some k ∨ k = C) (fun w2 => Kids w2 xs items)
  size : (Ber.bodies items).length ≤ 20 * k
  few : xs.length ≤ k

/-- The loop's head, at most kq rounds to come. -/
def LoopInv (R A : Nat) (l : List UInt8) (i d c t : Nat) (len : Option Nat) (f : Nat) (r : Ber.Res) (w : World) (P D : Nat) (kq : Nat) (v9 v12 : Value) (wr : World) : Prop :=
  ∃ (k got : Nat) (row : Option Nat) (C cap : Nat) (xs : List Value) (items : List Ber.Pk), v9 = .int .i64 k ∧ v12 = .int .i64 got ∧ kq ≤ f ∧ Way R A l i c t w P D k got row C cap xs items wr ∧ Ber.kids kq d c t len got items (l.drop (i + k)) = r

/-- The loop's end: the packet stands. -/
theorem Way.done {N R A : Nat} {l : List UInt8} {i c t : Nat} {w : World} {P D k got : Nat} {row : Option Nat} {C cap : Nat} {xs : List Value} {items : List Ber.Pk} {wr : World}
    (h : Way R A l i c t w P D k got row C cap xs items wr) (hc : c < 4) (ht : t < 2 ^ 63) (hPB : w.heap.size ≤ P) (hDB : w.heap.size ≤ D) :
    PackOut N w.heap.size R A l i (.ok (.mk c true t [] items) (l.drop (i + k))) (.returned (.tuple #[.pointer (some ⟨P, 0, none⟩), .int .i64 k, .nilIface])) wr ∧ Keep w.heap.size R w wr := by
  refine ⟨⟨P, k, rfl, hPB, ?_, h.rd, rfl⟩, h.keep⟩
  intro w2 h2
  have hst : ∀ k, w.heap.size ≤ k → k < wr.heap.size → w2.heap[k]? = wr.heap[k]? := fun k h1 h3 => h2 k h1 h3 id
  unfold Tree
  refine ⟨D, row, C, cap, .slice none 0 0, xs, hc, by omega, ?_, h.hD.kept (hst D hDB h.hD.ltD) (fun g e => hst g (h.rB g e) (by have := h.hD; subst e; exact this.ltG)), h.hC.stays (hst C h.cB h.hC.lt), ?_, (fun e => by cases e), fun _ => rfl, h.kids w2 (fun k h1 h3 _ => hst k h1 h3)⟩
  · rw [hst P hPB (blockLt h.hP), h.hP]
    simp [valOf]
  · unfold BvAt
    rw [if_neg (by rintro ⟨_, h⟩; cases h)]

/-- A child has been read. -/
theorem Way.child {R A : Nat} {l : List UInt8} {i c t : Nat} {w : World} {P D k got : Nat} {row : Option Nat} {C cap : Nat} {xs : List Value} {items : List Ber.Pk} {wr w2 : World} {q k' : Nat} {p : Ber.Pk}
    (h : Way R A l i c t w P D k got row C cap xs items wr) (hRlt : R < w.heap.size) (hPB : w.heap.size ≤ P) (hDB : w.heap.size ≤ D)
    (hk : Keep wr.heap.size R wr w2) (hr : Rd w2 R A l (i + k + k')) (hs : Stable wr.heap.size w2 (fun _ => False) (fun w => Tree w q p)) :
    Way R A l i c t w P D (k + k') (got + k') row C cap xs items w2 ∧ Stable w.heap.size w2 (fun k => k = P ∨ k = D ∨ row = some k ∨ k = C) (fun w2 => Kids w2 (xs ++ [.pointer (some ⟨q, 0, none⟩)]) (items ++ [p])) := by
  have hsz := h.keep.size
  have hst : ∀ k, w.heap.size ≤ k → k < wr.heap.size → w2.heap[k]? = wr.heap[k]? := fun k h1 h2 => hk.block k h2 (by omega)
  have hkids : Stable w.heap.size w2 (fun k => k = P ∨ k = D ∨ row = some k ∨ k = C) (fun w2 => Kids w2 xs items) :=
    h.kids.only (Only.ofKeep hk) (fun i h1 _ h2 => by omega) (fun i _ h => h)
  refine ⟨⟨by have := h.le; omega, by rw [← Nat.add_assoc]; exact hr, h.keep.trans (hk.mono hsz), (hst P hPB (blockLt h.hP)).trans h.hP, h.hD.kept (hst D hDB h.hD.ltD) (fun g e => hst g (h.rB g e) (by have := h.hD; subst e; exact this.ltG)), h.hC.stays (hst C h.cB h.hC.lt), h.cB, h.rB, hkids, by have := h.size; omega, by have := h.few; omega⟩, ?_⟩
  refine (hkids.both (hs.widen hsz ?_)).imp fun w ⟨h1, h2⟩ => h1.snoc h2
  rintro k (rfl | rfl | h1 | rfl)
  · exact blockLt h.hP
  · exact h.hD.ltD
  · have := h.hD; subst h1; exact this.ltG
  · exact h.hC.lt

/-- .. and appended. -/
theorem Way.next {R A : Nat} {l : List UInt8} {i c t : Nat} {w : World} {P D k k' got : Nat} {row row' : Option Nat} {C cap C' cap' : Nat} {xs : List Value} {items : List Ber.Pk} {w2 w3 : World} {q : Nat} {p : Ber.Pk}
    (h : Way R A l i c t w P D (k + k') got row C cap xs items w2) (hRlt : R < w.heap.size) (hAlt : A < w.heap.size) (hPB : w.heap.size ≤ P) (hDB : w.heap.size ≤ D)
    (hk : Stable w.heap.size w2 (fun k => k = P ∨ k = D ∨ row = some k ∨ k = C) (fun w2 => Kids w2 (xs ++ [.pointer (some ⟨q, 0, none⟩)]) (items ++ [p])))
    (hP : w3.heap[P]? = some (.cells (PkCells ((c * 64 : Nat) : Int) 32 t .nilIface (.slice none 0 0) D (.slice (some ⟨C', 0, none⟩) (xs.length + 1) cap') (.string ⟨#[]⟩)) 78 (0, 0)))
    (hD : BufAt w3 D row' (Lib.byteCells (Ber.bodies items ++ Ber.enc p))) (hC : KidRow w3 C' cap' (xs ++ [.pointer (some ⟨q, 0, none⟩)]))
    (hr : row' = row ∨ ∃ g, row' = some g ∧ w2.heap.size ≤ g) (hcc : C' = C ∨ w2.heap.size ≤ C') (hf : Only (fun k => k = P ∨ k = D ∨ row = some k ∨ k = C) w2 w3)
    (hsz : (Ber.bodies items).length + (Ber.enc p).length ≤ 20 * (k + k')) (hfew : xs.length + 1 ≤ k + k') :
    Way R A l i c t w P D (k + k') got row' C' cap' (xs ++ [.pointer (some ⟨q, 0, none⟩)]) (items ++ [p]) w3 := by
  have hs := h.keep.size
  have hown : ∀ g, (g = P ∨ g = D ∨ row = some g ∨ g = C) → w.heap.size ≤ g := by
    rintro g (rfl | rfl | h1 | rfl)
    · exact hPB
    · exact hDB
    · exact h.rB g h1
    · exact h.cB
  have hst : ∀ g, g < w.heap.size → w3.heap[g]? = w2.heap[g]? := fun g hg => hf.block g (by omega) (fun e => by have := hown g e; omega)
  refine ⟨h.le, h.rd.stays (hst R hRlt) (hst A hAlt), h.keep.trans (hf.toKeep (fun g e => Or.inl (hown g e)) hs), by rw [List.length_append]; exact hP, by rw [Ber.bodies_append]; exact hD, hC, ?_, ?_, hk.only hf (fun i _ _ h => h) ?_, by rw [Ber.bodies_append, List.length_append]; exact hsz, by rw [List.length_append]; exact hfew⟩
  · rcases hcc with e | e
    · rw [e]; exact h.cB
    · omega
  · intro g e
    rcases hr with e2 | ⟨g', e2, e3⟩
    · exact h.rB g (by rw [← e2]; exact e)
    · rw [e2] at e; rw [← Option.some.inj e]; omega
  · rintro g hg (h1 | h1 | h1 | h1)
    · exact Or.inl h1
    · exact Or.inr (Or.inl h1)
    · rcases hr with e2 | ⟨g', e2, e3⟩
      · exact Or.inr (Or.inr (Or.inl (by rw [← e2]; exact h1)))
      · rw [e2] at h1; have := Option.some.inj h1; omega
    · rcases hcc with e | e
      · exact Or.inr (Or.inr (Or.inr (by rw [← e]; exact h1)))
      · omega
end Go.Proofs.YtdfehaonngccjaaDoor

/- readPacket of constructed packets. -/
namespace Go.Proofs.YtdfehaonngccjaaDoor
open Go Go.RowKit

set_option maxRecDepth 100000 in
set_option maxHeartbeats 16000000 in
theorem pack_built_some (N R A : Nat) (l : List UInt8) (hN : N ≤ R) (f : Nat) (ih : ∀ g, g < f → ReadHolds N R A l g) (w : World) (i d c t : Nat) (n : Nat) (hn31 : n ≤ 2147483647) (rest : List UInt8) (r : Ber.Res) (h : Rd w R A l i) (hE : Env N w) (hd : d < 1000)
    (hh : Ber.header (l.drop i) = some (c, true, t, (some n), rest)) (hr : Ber.kids f d c t (some n) 0 [] rest = r) (hnb : r ≠ .bad) :
    Calls Tryd.prog 33 #[.iface 53 (.pointer (some ⟨R, 0, none⟩)), .int .i64 d] w fun e w' => PackOut N w.heap.size R A l i r e w' ∧ Keep w.heap.size R w w' := by
  have hhd := head_any N w R A l i h hE hN
  have hm2 := make2
  have hdi : decide ((d : Int) ≥ 1000) = false := by simp; omega
  obtain ⟨hc4, ht63, -, -⟩ := Ber.header_bound hh
  have hRlt := h.lt
  have hAlt := h.ltA (by rcases Nat.eq_zero_or_pos l.length with h0 | h0; · rw [List.length_eq_zero_iff.1 h0] at hh; simp [Ber.header, Ber.ident] at hh
                         · exact h0)
  have hn1 : ((n : Int) != -1) = true := by rw [bne_iff_ne]; omega
  have hnb1 : decide ((n : Int) > 2147483647) = false := by simp; omega
  have HHD := Lib.hid hhd
  have HH := Lib.hid hh
  have HE := Lib.hid hE
  have HKR := Lib.hid hr
  have HNB := Lib.hid hnb
  have HIH := Lib.hid ih
  clear hhd hh h hE hr hnb ih
  go_enter Tryd.func33, Tryd.ntmps33
  go_wp2_with fail
  refine HHD.out.mono ?_
  rintro e w1 ⟨ho, hk⟩
  unfold HeadOut at ho
  rw [HH.out] at ho
  obtain ⟨k, rfl, hr1, hrest⟩ := ho
  simp only [tagValue, lenInt]
  have hsz1 := hk.size
  obtain ⟨x, hx⟩ : ∃ x : Nat, x = c * 64 := ⟨_, rfl⟩
  rw [← hx]
  have HX := Lib.hid hx
  have hway : Way R A l i c t w (w1.heap.size + 1) (w1.heap.size + 1 + 1) k 0 none (w1.heap.size + 1 + 1 + 1) 2 [] [] (startW w1 x 32 t) := by
    have hk0 := hk.trans (Keep.ofBelow ((startW_below w1 x 32 t).mono hsz1))
    refine ⟨Nat.zero_le _, (((hr1.alloc _).alloc _).alloc _).alloc _, hk0, by rw [← hx]; exact startW_P w1 x 32 t, startW_D w1 x 32 t, startW_C w1 x 32 t, by omega, (fun g e => by cases e), fun w2 _ => by unfold Kids; rfl, by simp [Ber.bodies], by simp⟩
  have hkr0 : Ber.kids f d c t (some n) 0 [] (l.drop (i + k)) = r := by rw [← hrest]; exact HKR.out
  have HWAY := Lib.hid hway
  have HKR0 := Lib.hid hkr0
  clear hr1 hrest hk hx hway hkr0
  go_wp2_with fail
  go_loopg [9, 12] f (fun kq v9 v12 wr => LoopInv R A l i d c t (some n) f r w (w1.heap.size + 1) (w1.heap.size + 1 + 1) kq v9 v12 wr)
  case atStart => exact ⟨k, 0, none, _, _, _, _, rfl, rfl, Nat.le_refl _, HWAY.out, HKR0.out⟩
  case round =>
    obtain ⟨k, got, row, C, cap, xs, items, rfl, rfl, hkq, hW, hK⟩ := hrel
    obtain ⟨g, rfl⟩ : ∃ g, gk = g + 1 := by
      cases gk with
      | zero => exact absurd (by rw [← hK]; simp [Ber.kids]) HNB.out
      | succ g => exact ⟨g, rfl⟩
    have hpos := hW.rd.pos
    have hlen9 := hW.rd.len
    have hle := hW.le
    have hP0 := hW.hP
    simp only [Ber.kids] at hK
    by_cases hgn : n = got
    · subst hgn
      rw [if_pos rfl] at hK
      have t1 : ((n : Int) == (n : Int)) = true := by simp
      have hE := hW.done (N := N) hc4 ht63 (by omega) (by omega)
      rw [hK] at hE
      have HE1 := Lib.hid hE
      clear hE hK hW hP0
      go_wp2
      go_ret3
      exact HE1.out
    · rw [if_neg (by simp; exact hgn)] at hK
      have t1 : ((got : Int) == (n : Int)) = false := by rw [beq_eq_false_iff_ne]; omega
      by_cases hlt : n < got
      · rw [if_pos (by simp; exact hlt)] at hK
        have t2 : decide ((got : Int) > (n : Int)) = true := by simp; omega
        have HW := Lib.hid hW
        have HK := Lib.hid hK
        clear hW hK hP0
        go_wp2_with fail
        refine (new_keep _ (by decide) (by decide) N w.heap.size _ HW.out.keep.size).mono ?_
        rintro e w3 ⟨a, rfl, he, hb⟩
        have HEE := Lib.hid he
        have HB := Lib.hid (HW.out.keep.trans (Keep.ofBelow (hb.mono HW.out.keep.size)))
        clear he hb
        go_wp2
        go_ret3
        rw [← HK.out]
        exact ⟨⟨_, _, rfl, HEE.out⟩, HB.out⟩
      · rw [if_neg (by simp; omega)] at hK
        have t2 : decide ((got : Int) > (n : Int)) = false := by simp; omega
        have hEr := HE.out.keep hW.keep (by omega) hN
        have hcall : Ber.readP g (d + 1) (l.drop (i + k)) ≠ .bad := by
          intro hbad
          rw [hbad] at hK
          exact HNB.out hK.symm
        have hcl := HIH.out g (by omega) _ (i + k) (d + 1) hW.rd hEr (by omega) hcall
        have hcl2 : Calls Tryd.prog 33 #[.iface 53 (.pointer (some ⟨R, 0, none⟩)), .int .i64 ((d : Int) + 1)] wr fun e w' => PackOut N wr.heap.size R A l (i + k) (Ber.readP g (d + 1) (l.drop (i + k))) e w' ∧ Keep wr.heap.size R wr w' := hcl
        have HCL := Lib.hid hcl2
        have HW := Lib.hid hW
        have HK := Lib.hid hK
        clear hW hK hcl hcl2 hcall hP0 hEr
        go_wp2_with fail
        refine HCL.out.mono ?_
        rintro e w2 ⟨ho, hk2⟩
        have hkk := HK.out
        cases hrp : Ber.readP g (d + 1) (l.drop (i + k)) with
        | bad => rw [hrp] at hkk; exact absurd hkk.symm HNB.out
        | err =>
          rw [hrp] at hkk ho
          obtain ⟨m, ev, rfl, hev⟩ := ho
          have hkw := HW.out.keep.trans (hk2.mono HW.out.keep.size)
          have HKW := Lib.hid hkw
          have hev2 := hev.mono HW.out.keep.size
          have hE2 := HE.out.keep hkw (by omega) hN
          obtain ⟨a, rfl⟩ := hev.iface
          have HEV := Lib.hid hev2
          have HE2 := Lib.hid hE2
          have HKK := Lib.hid hkk
          clear hkw hev hev2 hE2 hkk hk2 hrp
          go_wp2_with fail
          refine (uneof_any N w.heap.size w2 HE2.out _ HEV.out).mono ?_
          rintro e w3 ⟨ev, rfl, hev3, rfl⟩
          obtain ⟨a3, rfl⟩ := hev3.iface
          have HEV3 := Lib.hid hev3
          clear hev3
          go_wp2
          go_ret3
          rw [← HKK.out]
          exact ⟨⟨_, _, rfl, HEV3.out⟩, HKW.out⟩
        | ok p rest' =>
          rw [hrp] at hkk ho
          obtain ⟨q, k', rfl, hqB, hst, hrd, hrest'⟩ := ho
          have hfits := Ber.readP_fits _ _ _ _ _ hrp
          have hpos2 := hrd.pos
          have hcons : (l.drop (i + k)).length - rest'.length = k' := by rw [hrest', List.length_drop, List.length_drop]; omega
          have hk'2 : 2 ≤ k' := by
            obtain ⟨m, hm1, hm2, hm3⟩ := hfits.drop
            have h9 := congrArg List.length hm1
            rw [List.length_drop] at h9
            rw [← hcons]
            omega
          have hsize : (Ber.bodies items).length + (Ber.enc p).length ≤ 20 * (k + k') := by
            have h1 := hfits.size
            have h2 := HW.out.size
            rw [hrest', List.length_drop, List.length_drop] at h1
            omega
          simp only [] at hkk
          rw [hcons, if_neg (by omega)] at hkk
          obtain ⟨hway2, hkids2⟩ := HW.out.child hRlt (by omega) (by omega) hk2 hrd hst
          have htree := hst.now
          have heoc := eoc_tree w2 q p htree
          have hrest2 : rest' = l.drop (i + (k + k')) := by rw [hrest', Nat.add_assoc]
          have t3 : decide ((got : Int) + (k' : Int) > 2147483647) = false := by simp; omega
          have hgk9 : got + k' < 1000000000 ∧ k + k' < 1000000000 := by omega
          obtain ⟨hgk1, hgk2⟩ := hgk9
          have HFIT := Lib.hid hfits
          have HSIZE := Lib.hid hsize
          have HKK := Lib.hid hkk
          have HWAY2 := Lib.hid hway2
          have HKIDS2 := Lib.hid hkids2
          have HTREE := Lib.hid htree
          have HEOC := Lib.hid heoc
          have HREST2 := Lib.hid hrest2
          clear hfits hsize hkk hway2 hkids2 htree heoc hrest2 hst hrd hk2 hrest' hrp hcons
          go_wp2_with fail
          refine HEOC.out.mono ?_
          rintro e w3 ⟨rfl, rfl⟩
          have hkk := HKK.out
          by_cases he : Ber.isEOC p = true
          · rw [if_pos he] at hkk
            rw [he]
            rw [if_neg (by simp)] at hkk
            have HKK2 := Lib.hid hkk
            clear hkk
            go_wp2_with fail
            refine (new_keep _ (by decide) (by decide) N w.heap.size _ HWAY2.out.keep.size).mono ?_
            rintro e w3 ⟨a, rfl, he2, hb⟩
            have HEE := Lib.hid he2
            have HB := Lib.hid (HWAY2.out.keep.trans (Keep.ofBelow (hb.mono HWAY2.out.keep.size)))
            clear he2 hb
            go_wp2
            go_ret3
            rw [← HKK2.out]
            exact ⟨⟨_, _, rfl, HEE.out⟩, HB.out⟩
          · rw [if_neg he] at hkk
            have hef : Ber.isEOC p = false := by simpa using he
            rw [hef]
            have hnext : Calls Tryd.prog 39 #[.pointer (some ⟨w1.heap.size + 1, 0, none⟩), .pointer (some ⟨q, 0, none⟩)] w2 fun e w' => (∃ v, e = .returned v) ∧ ∃ row' C' cap',
                Way R A l i c t w (w1.heap.size + 1) (w1.heap.size + 1 + 1) (k + k') (got + k') row' C' cap' (xs ++ [.pointer (some ⟨q, 0, none⟩)]) (items ++ [p]) w' := by
              have hw2 := HWAY2.out
              obtain ⟨pc, pb, pt, pd, pi⟩ := p
              have htr := HTREE.out
              unfold Tree at htr
              obtain ⟨D2, row2, C2, cap2, bv2, xs2, hc2, ht2, hp2, hb2, -, -, -, -, -⟩ := htr
              have hel := HSIZE.out
              have hbl : (Ber.body (.mk pc pb pt pd pi)).length ≤ (Ber.enc (.mk pc pb pt pd pi)).length := by simp only [Ber.enc, List.length_append]; omega
              refine (append_any w2 (w1.heap.size + 1) (w1.heap.size + 1 + 1) C cap q D2 row row2 ((c * 64 : Nat) : Int) 32 t .nilIface (.slice none 0 0) (.string ⟨#[]⟩) xs (Ber.bodies items) (Ber.body (.mk pc pb pt pd pi)) pc pt pb _ _ _ _ hc2 ht2 hw2.hP hw2.hC (by have := HW.out.few; omega) hw2.hD (by omega) (by omega) hp2 hb2).mono ?_
              rintro e w' ⟨he, row', C', cap', h1, h2, h3, h4, h5, h6⟩
              exact ⟨he, row', C', cap', hw2.next hRlt hAlt (by omega) (by omega) HKIDS2.out h1 h2 h3 h4 h5 h6 HSIZE.out (by have := HW.out.few; omega)⟩
            have HNEXT := Lib.hid hnext
            have HKK2 := Lib.hid hkk
            clear hnext hkk
            go_wp2_with fail
            refine HNEXT.out.mono ?_
            rintro e w4 ⟨⟨v, rfl⟩, row', C', cap', hw4⟩
            have HW4 := Lib.hid hw4
            clear hw4
            go_wp2_with fail
            go_roundg g
            case measure => exact Nat.lt_succ_self _
            case rel => exact ⟨k + k', got + k', row', C', cap', _, _, by go_num, by go_num, by omega, HW4.out, by rw [← HREST2.out]; exact HKK2.out⟩
end Go.Proofs.YtdfehaonngccjaaDoor

/- readPacket of constructed packets. -/
namespace Go.Proofs.YtdfehaonngccjaaDoor
open Go Go.RowKit

set_option maxRecDepth 100000 in
set_option maxHeartbeats 16000000 in
theorem pack_built_none (N R A : Nat) (l : List UInt8) (hN : N ≤ R) (f : Nat) (ih : ∀ g, g < f → ReadHolds N R A l g) (w : World) (i d c t : Nat) (rest : List UInt8) (r : Ber.Res) (h : Rd w R A l i) (hE : Env N w) (hd : d < 1000)
    (hh : Ber.header (l.drop i) = some (c, true, t, none, rest)) (hr : Ber.kids f d c t none 0 [] rest = r) (hnb : r ≠ .bad) :
    Calls Tryd.prog 33 #[.iface 53 (.pointer (some ⟨R, 0, none⟩)), .int .i64 d] w fun e w' => PackOut N w.heap.size R A l i r e w' ∧ Keep w.heap.size R w w' := by
  have hhd := head_any N w R A l i h hE hN
  have hm2 := make2
  have hdi : decide ((d : Int) ≥ 1000) = false := by simp; omega
  obtain ⟨hc4, ht63, -, -⟩ := Ber.header_bound hh
  have hRlt := h.lt
  have hAlt := h.ltA (by rcases Nat.eq_zero_or_pos l.length with h0 | h0; · rw [List.length_eq_zero_iff.1 h0] at hh; simp [Ber.header, Ber.ident] at hh
                         · exact h0)
  have HHD := Lib.hid hhd
  have HH := Lib.hid hh
  have HE := Lib.hid hE
  have HKR := Lib.hid hr
  have HNB := Lib.hid hnb
  have HIH := Lib.hid ih
  clear hhd hh h hE hr hnb ih
  go_enter Tryd.func33, Tryd.ntmps33
  go_wp2_with fail
  refine HHD.out.mono ?_
  rintro e w1 ⟨ho, hk⟩
  unfold HeadOut at ho
  rw [HH.out] at ho
  obtain ⟨k, rfl, hr1, hrest⟩ := ho
  simp only [tagValue, lenInt]
  have hsz1 := hk.size
  obtain ⟨x, hx⟩ : ∃ x : Nat, x = c * 64 := ⟨_, rfl⟩
  rw [← hx]
  have HX := Lib.hid hx
  have hway : Way R A l i c t w (w1.heap.size + 1) (w1.heap.size + 1 + 1) k 0 none (w1.heap.size + 1 + 1 + 1) 2 [] [] (startW w1 x 32 t) := by
    have hk0 := hk.trans (Keep.ofBelow ((startW_below w1 x 32 t).mono hsz1))
    refine ⟨Nat.zero_le _, (((hr1.alloc _).alloc _).alloc _).alloc _, hk0, by rw [← hx]; exact startW_P w1 x 32 t, startW_D w1 x 32 t, startW_C w1 x 32 t, by omega, (fun g e => by cases e), fun w2 _ => by unfold Kids; rfl, by simp [Ber.bodies], by simp⟩
  have hkr0 : Ber.kids f d c t none 0 [] (l.drop (i + k)) = r := by rw [← hrest]; exact HKR.out
  have HWAY := Lib.hid hway
  have HKR0 := Lib.hid hkr0
  clear hr1 hrest hk hx hway hkr0
  go_wp2_with fail
  go_loopg [9, 12] f (fun kq v9 v12 wr => LoopInv R A l i d c t none f r w (w1.heap.size + 1) (w1.heap.size + 1 + 1) kq v9 v12 wr)
  case atStart => exact ⟨k, 0, none, _, _, _, _, rfl, rfl, Nat.le_refl _, HWAY.out, HKR0.out⟩
  case round =>
    obtain ⟨k, got, row, C, cap, xs, items, rfl, rfl, hkq, hW, hK⟩ := hrel
    obtain ⟨g, rfl⟩ : ∃ g, gk = g + 1 := by
      cases gk with
      | zero => exact absurd (by rw [← hK]; simp [Ber.kids]) HNB.out
      | succ g => exact ⟨g, rfl⟩
    have hpos := hW.rd.pos
    have hlen9 := hW.rd.len
    have hle := hW.le
    have hP0 := hW.hP
    simp only [Ber.kids] at hK
    rw [if_neg (by simp), if_neg (by simp)] at hK
    have hEr := HE.out.keep hW.keep (by omega) hN
    have hcall : Ber.readP g (d + 1) (l.drop (i + k)) ≠ .bad := by
      intro hbad
      rw [hbad] at hK
      exact HNB.out hK.symm
    have hcl := HIH.out g (by omega) _ (i + k) (d + 1) hW.rd hEr (by omega) hcall
    have hcl2 : Calls Tryd.prog 33 #[.iface 53 (.pointer (some ⟨R, 0, none⟩)), .int .i64 ((d : Int) + 1)] wr fun e w' => PackOut N wr.heap.size R A l (i + k) (Ber.readP g (d + 1) (l.drop (i + k))) e w' ∧ Keep wr.heap.size R wr w' := hcl
    have HCL := Lib.hid hcl2
    have HW := Lib.hid hW
    have HK := Lib.hid hK
    clear hW hK hcl hcl2 hcall hP0 hEr
    go_wp2_with fail
    refine HCL.out.mono ?_
    rintro e w2 ⟨ho, hk2⟩
    have hkk := HK.out
    cases hrp : Ber.readP g (d + 1) (l.drop (i + k)) with
    | bad => rw [hrp] at hkk; exact absurd hkk.symm HNB.out
    | err =>
      rw [hrp] at hkk ho
      obtain ⟨m, ev, rfl, hev⟩ := ho
      have hkw := HW.out.keep.trans (hk2.mono HW.out.keep.size)
      have HKW := Lib.hid hkw
      have hev2 := hev.mono HW.out.keep.size
      have hE2 := HE.out.keep hkw (by omega) hN
      obtain ⟨a, rfl⟩ := hev.iface
      have HEV := Lib.hid hev2
      have HE2 := Lib.hid hE2
      have HKK := Lib.hid hkk
      clear hkw hev hev2 hE2 hkk hk2 hrp
      go_wp2_with fail
      refine (uneof_any N w.heap.size w2 HE2.out _ HEV.out).mono ?_
      rintro e w3 ⟨ev, rfl, hev3, rfl⟩
      obtain ⟨a3, rfl⟩ := hev3.iface
      have HEV3 := Lib.hid hev3
      clear hev3
      go_wp2
      go_ret3
      rw [← HKK.out]
      exact ⟨⟨_, _, rfl, HEV3.out⟩, HKW.out⟩
    | ok p rest' =>
      rw [hrp] at hkk ho
      obtain ⟨q, k', rfl, hqB, hst, hrd, hrest'⟩ := ho
      have hfits := Ber.readP_fits _ _ _ _ _ hrp
      have hpos2 := hrd.pos
      have hcons : (l.drop (i + k)).length - rest'.length = k' := by rw [hrest', List.length_drop, List.length_drop]; omega
      have hk'2 : 2 ≤ k' := by
        obtain ⟨m, hm1, hm2, hm3⟩ := hfits.drop
        have h9 := congrArg List.length hm1
        rw [List.length_drop] at h9
        rw [← hcons]
        omega
      have hsize : (Ber.bodies items).length + (Ber.enc p).length ≤ 20 * (k + k') := by
        have h1 := hfits.size
        have h2 := HW.out.size
        rw [hrest', List.length_drop, List.length_drop] at h1
        omega
      simp only [] at hkk
      rw [hcons, if_neg (by omega)] at hkk
      obtain ⟨hway2, hkids2⟩ := HW.out.child hRlt (by omega) (by omega) hk2 hrd hst
      have htree := hst.now
      have heoc := eoc_tree w2 q p htree
      have hrest2 : rest' = l.drop (i + (k + k')) := by rw [hrest', Nat.add_assoc]
      have t3 : decide ((got : Int) + (k' : Int) > 2147483647) = false := by simp; omega
      have hgk9 : got + k' < 1000000000 ∧ k + k' < 1000000000 := by omega
      obtain ⟨hgk1, hgk2⟩ := hgk9
      have HFIT := Lib.hid hfits
      have HSIZE := Lib.hid hsize
      have HKK := Lib.hid hkk
      have HWAY2 := Lib.hid hway2
      have HKIDS2 := Lib.hid hkids2
      have HTREE := Lib.hid htree
      have HEOC := Lib.hid heoc
      have HREST2 := Lib.hid hrest2
      clear hfits hsize hkk hway2 hkids2 htree heoc hrest2 hst hrd hk2 hrest' hrp hcons
      go_wp2_with fail
      refine HEOC.out.mono ?_
      rintro e w3 ⟨rfl, rfl⟩
      have hkk := HKK.out
      by_cases he : Ber.isEOC p = true
      · rw [if_pos he] at hkk
        rw [he]
        rw [if_pos trivial] at hkk
        have hE := HWAY2.out.done (N := N) hc4 ht63 (by omega) (by omega)
        rw [← HREST2.out, hkk] at hE
        have HE1 := Lib.hid hE
        clear hE hkk
        go_wp2
        go_ret3
        exact HE1.out
      · rw [if_neg he] at hkk
        have hef : Ber.isEOC p = false := by simpa using he
        rw [hef]
        have hnext : Calls Tryd.prog 39 #[.pointer (some ⟨w1.heap.size + 1, 0, none⟩), .pointer (some ⟨q, 0, none⟩)] w2 fun e w' => (∃ v, e = .returned v) ∧ ∃ row' C' cap',
            Way R A l i c t w (w1.heap.size + 1) (w1.heap.size + 1 + 1) (k + k') (got + k') row' C' cap' (xs ++ [.pointer (some ⟨q, 0, none⟩)]) (items ++ [p]) w' := by
          have hw2 := HWAY2.out
          obtain ⟨pc, pb, pt, pd, pi⟩ := p
          have htr := HTREE.out
          unfold Tree at htr
          obtain ⟨D2, row2, C2, cap2, bv2, xs2, hc2, ht2, hp2, hb2, -, -, -, -, -⟩ := htr
          have hel := HSIZE.out
          have hbl : (Ber.body (.mk pc pb pt pd pi)).length ≤ (Ber.enc (.mk pc pb pt pd pi)).length := by simp only [Ber.enc, List.length_append]; omega
          refine (append_any w2 (w1.heap.size + 1) (w1.heap.size + 1 + 1) C cap q D2 row row2 ((c * 64 : Nat) : Int) 32 t .nilIface (.slice none 0 0) (.string ⟨#[]⟩) xs (Ber.bodies items) (Ber.body (.mk pc pb pt pd pi)) pc pt pb _ _ _ _ hc2 ht2 hw2.hP hw2.hC (by have := HW.out.few; omega) hw2.hD (by omega) (by omega) hp2 hb2).mono ?_
          rintro e w' ⟨he, row', C', cap', h1, h2, h3, h4, h5, h6⟩
          exact ⟨he, row', C', cap', hw2.next hRlt hAlt (by omega) (by omega) HKIDS2.out h1 h2 h3 h4 h5 h6 HSIZE.out (by have := HW.out.few; omega)⟩
        have HNEXT := Lib.hid hnext
        have HKK2 := Lib.hid hkk
        clear hnext hkk
        go_wp2_with fail
        refine HNEXT.out.mono ?_
        rintro e w4 ⟨⟨v, rfl⟩, row', C', cap', hw4⟩
        have HW4 := Lib.hid hw4
        clear hw4
        go_wp2_with fail
        go_roundg g
        case measure => exact Nat.lt_succ_self _
        case rel => exact ⟨k + k', got + k', row', C', cap', _, _, by go_num, by go_num, by omega, HW4.out, by rw [← HREST2.out]; exact HKK2.out⟩
end Go.Proofs.YtdfehaonngccjaaDoor

/- bytes.NewReader over a string's bytes, what is left of it, and the text of an error. -/
namespace Go.Proofs.YtdfehaonngccjaaDoor
open Go Go.RowKit

theorem bytesWorld_below (B : Nat) (w : World) (e : TypeId) (s : ByteArray) (hB : B ≤ w.heap.size) : Below B w (Lib.bytesWorld w e s) :=
  ⟨rfl, rfl, rfl, by rw [Lib.bytesWorld_size]; omega, fun k hk => Lib.bytesWorld_at_old w e s k (by omega)⟩

theorem newReader_any (w : World) (p : Option Addr) (n c : Nat) :
    Calls Tryd.prog 22 #[.slice p n c] w fun e w' => e = .returned (.pointer (some ⟨w.heap.size, 0, none⟩)) ∧ w.alloc (.cells #[.slice p n c, .int .i64 0, .int .i64 (-1)] 83) = w' := by
  go_enter Tryd.func22, Tryd.ntmps22
  go_wp2
  go_ret
  exact ⟨rfl, rfl⟩

theorem rd_new (w : World) (s : ByteArray) (hl : s.size < 1000000000) :
    Rd ((Lib.bytesWorld w 5 s).alloc (.cells #[.slice (some ⟨w.heap.size, 0, none⟩) s.size (grownCap w s.size 0 5), .int .i64 0, .int .i64 (-1)] 83)) (w.heap.size + 1) w.heap.size s.data.toList 0 := by
  refine ⟨⟨grownCap w s.size 0 5, -1, ?_, ?_⟩, ?_, by omega, Nat.zero_le _, by simpa using hl⟩
  · have := grownCap_ge w s.size 0 5
    simpa using this
  · have := heap_alloc_new (Lib.bytesWorld w 5 s) (.cells #[.slice (some ⟨w.heap.size, 0, none⟩) s.size (grownCap w s.size 0 5), .int .i64 0, .int .i64 (-1)] 83)
    rw [Lib.bytesWorld_size] at this
    simpa using this
  · intro j v hv
    have hj : j < s.size := by
      have := (List.getElem?_eq_some_iff.1 hv).1
      simpa [Lib.byteCells] using this
    refine cell_alloc ?_ _
    rw [Lib.bytesWorld_cell w 5 s j hj]
    simp only [Lib.byteCells] at hv
    rw [List.getElem?_map, List.getElem?_eq_getElem (by simpa using hj)] at hv
    simp only [Option.map_some] at hv
    rw [← hv]
    simp [List.getD, hj]

theorem reader_len (w : World) (R A : Nat) (l : List UInt8) (i : Nat) (h : Rd w R A l i) :
    Calls Tryd.prog 25 #[.pointer (some ⟨R, 0, none⟩)] w fun e w' => e = .returned (.int .i64 ((l.length - i : Nat) : Int)) ∧ Same w w' := by
  obtain ⟨cap, pr, hcap, hb⟩ := h.blk
  have hlen := h.len
  have hpos := h.pos
  have c0 : w.cell? ⟨R, 0, none⟩ = some (.slice (some ⟨A, 0, none⟩) l.length cap) := blockCell hb 0
  have c1 : w.cell? ⟨R, 1, none⟩ = some (.int .i64 i) := blockCell hb 1
  clear hb h
  by_cases hi : i = l.length
  · have t1 : decide ((i : Int) ≥ (l.length : Int)) = true := by simp; omega
    go_enter Tryd.func25, Tryd.ntmps25
    go_wp2
    go_quiet (fail)
    go_wp2
    go_ret
    refine ⟨?_, (Same.refl w).drewN _⟩
    rw [hi, Nat.sub_self]; rfl
  · have t1 : decide ((i : Int) ≥ (l.length : Int)) = false := by simp; omega
    have e1 : ((l.length - i : Nat) : Int) = (l.length : Int) - (i : Int) := by omega
    have E1 := Lib.hid e1
    clear e1
    go_enter Tryd.func25, Tryd.ntmps25
    go_wp2
    go_quiet (fail)
    go_wp2
    go_quiet (fail)
    go_wp2
    go_ret
    exact ⟨by rw [E1.out]; rfl, ((Same.refl w).drewN _).drewN _⟩

theorem errText_any (w : World) (a : Addr) (s : ByteArray) (h : w.cell? a = some (.string s)) :
    Calls Tryd.prog 112 #[.pointer (some a)] w fun e w' => e = .returned (.string s) ∧ w = w' := by
  go_enter Tryd.func112, Tryd.ntmps112
  go_wp2
  go_ret
  exact ⟨rfl, rfl⟩
theorem nil_ahead_err (a : Addr) (w : World) : (nilAhead 288 122 (.pointer (some a)) "Error").run Tryd.prog w = .ok (some false) w := by kernel_rfl
theorem method_err (a : Addr) (w : World) : (method 288 122 (.pointer (some a)) "Error").run Tryd.prog w = .ok (112, .pointer (some a)) w := by kernel_rfl
end Go.Proofs.YtdfehaonngccjaaDoor

/- readPacket answers as the plain function; ReadPacket. -/
namespace Go.Proofs.YtdfehaonngccjaaDoor
open Go Go.RowKit

theorem header_prim {s : List UInt8} {c t : Nat} {r : List UInt8} (h : Ber.header s = some (c, false, t, none, r)) : False := by
  simp only [Ber.header] at h
  split at h
  · cases h
  · split at h
    · cases h
    · rename_i hh
      split at h
      · cases h
      · rename_i hne
        simp only [Option.some.injEq, Prod.mk.injEq] at h
        exact hne ⟨h.2.2.2.1, h.2.1⟩

theorem read_holds (N R A : Nat) (l : List UInt8) (hN : N ≤ R) (f : Nat) : ReadHolds N R A l f := by
  induction f using Nat.strongRecOn with
  | _ f ih =>
  intro w i d h hE hd hnb
  cases f with
  | zero => exact absurd (by simp [Ber.readP]) hnb
  | succ f =>
    have ih' : ∀ g, g < f → ReadHolds N R A l g := fun g hg => ih g (by omega)
    simp only [Ber.readP] at hnb ⊢
    by_cases hd1 : 1000 ≤ d
    · rw [if_pos hd1]
      exact pack_deep N w R A l i d hd1 hd
    · rw [if_neg hd1] at hnb ⊢
      have hd2 : d < 1000 := by omega
      cases hh : Ber.header (l.drop i) with
      | none => exact pack_head N w R A l i h hE hN d hd2 hh
      | some x =>
        obtain ⟨c, b, t, len, rest⟩ := x
        rw [hh] at hnb
        cases len with
        | none =>
          cases b with
          | false => exact absurd (header_prim hh) id
          | true => exact pack_built_none N R A l hN f ih' w i d c t rest _ h hE hd2 hh rfl hnb
        | some n =>
          cases b with
          | true =>
            simp only [] at hnb ⊢
            by_cases hn : 2147483647 < n
            · rw [if_pos hn]; exact pack_long N w R A l i h hE hN d hd2 c t n true rest hh hn
            · rw [if_neg hn] at hnb ⊢
              exact pack_built_some N R A l hN f ih' w i d c t n (by omega) rest _ h hE hd2 hh rfl hnb
          | false =>
            simp only [] at hnb ⊢
            by_cases hn : 2147483647 < n
            · rw [if_pos hn]; exact pack_long N w R A l i h hE hN d hd2 c t n false rest hh hn
            · rw [if_neg hn] at hnb ⊢
              simp only [Bool.false_eq_true, if_false] at hnb ⊢
              unfold Ber.prim at hnb ⊢
              by_cases h0 : n = 0
              · subst h0
                rw [if_pos rfl] at hnb ⊢
                by_cases hk : Ber.known c t = true
                · rw [if_pos hk]; exact pack_zero N w R A l i h hE hN d hd2 c t rest hh hk
                · rw [if_neg hk] at hnb; exact absurd rfl hnb
              · rw [if_neg h0] at hnb ⊢
                by_cases h4 : 480 < n ∧ 480 < rest.length
                · rw [if_pos h4] at hnb; exact absurd rfl hnb
                · rw [if_neg h4] at hnb ⊢
                  by_cases hs : rest.length < n
                  · rw [if_pos hs]
                    exact pack_short N w R A l i h hE hN d hd2 c t n rest hh (by omega) (by omega) hs
                  · rw [if_neg hs] at hnb ⊢
                    by_cases hk : Ber.known c t = true
                    · rw [if_pos hk]; exact pack_some N w R A l i h hE hN d hd2 c t n rest hh hk (by omega) (by omega) (by omega)
                    · rw [if_neg hk] at hnb; exact absurd rfl hnb

/-- What ReadPacket comes to. -/
def ReadOut (N B R A : Nat) (l : List UInt8) (r : Ber.Res) (e : Ending) (w' : World) : Prop :=
  match r with
  | .bad => True
  | .err => ∃ ev, e = .returned (.tuple #[.pointer none, ev]) ∧ ErrAt N B w' ev
  | .ok p rest => ∃ q k : Nat, e = .returned (.tuple #[.pointer (some ⟨q, 0, none⟩), .nilIface]) ∧ B ≤ q ∧ TreeAll B w' q p ∧ Rd w' R A l k ∧ rest = l.drop k
where
  TreeAll (B : Nat) (w' : World) (q : Nat) (p : Ber.Pk) : Prop := Stable B w' (fun _ => False) (fun w2 => Tree w2 q p)

set_option maxRecDepth 100000 in
set_option maxHeartbeats 4000000 in
theorem read_packet (N : Nat) (w : World) (R A : Nat) (l : List UInt8) (h : Rd w R A l 0) (hE : Env N w) (hN : N ≤ R) (f : Nat) (r : Ber.Res) (hr : Ber.readP f 0 l = r) (hnb : r ≠ .bad) :
    Calls Tryd.prog 23 #[.iface 53 (.pointer (some ⟨R, 0, none⟩))] w fun e w' => ReadOut N w.heap.size R A l r e w' ∧ Keep w.heap.size R w w' := by
  have hc : Calls Tryd.prog 33 #[.iface 53 (.pointer (some ⟨R, 0, none⟩)), .int .i64 0] w fun e w' => PackOut N w.heap.size R A l 0 r e w' ∧ Keep w.heap.size R w w' := by
    have := read_holds N R A l hN f w 0 0 h hE (by omega) (by rw [List.drop_zero, hr]; exact hnb)
    rw [List.drop_zero, hr] at this
    exact this
  have HC := Lib.hid hc
  have HNB := Lib.hid hnb
  clear hc hr hnb h hE
  cases r with
  | bad => exact absurd rfl HNB.out
  | err =>
    go_enter Tryd.func23, Tryd.ntmps23
    go_wp2_with fail
    refine HC.out.mono ?_
    rintro e w1 ⟨ho, hk⟩
    obtain ⟨n, ev, rfl, hev⟩ := ho
    obtain ⟨a, rfl⟩ := hev.iface
    have HEV := Lib.hid hev
    have HK := Lib.hid hk
    clear hev hk
    go_wp2
    go_ret2
    exact ⟨⟨_, rfl, HEV.out⟩, HK.out⟩
  | ok p rest =>
    go_enter Tryd.func23, Tryd.ntmps23
    go_wp2_with fail
    refine HC.out.mono ?_
    rintro e w1 ⟨ho, hk⟩
    obtain ⟨q, k, rfl, hq, hst, hrd, hrest⟩ := ho
    have HST := Lib.hid hst
    have HK := Lib.hid hk
    have HRD := Lib.hid hrd
    have HREST := Lib.hid hrest
    clear hst hk hrd hrest
    go_wp2
    go_ret2
    refine ⟨⟨q, 0 + k, rfl, hq, HST.out, HRD.out, HREST.out⟩, HK.out⟩
end Go.Proofs.YtdfehaonngccjaaDoor

/- impl.read and BerRead. -/
namespace Go.Proofs.YtdfehaonngccjaaDoor
open Go Go.RowKit Go.Proofs.YtdfehaonngccjaaDoorW.PrintWords Go.Proofs.YtdfehaonngccjaaDoorW.PrintLast Go.Proofs.YtdfehaonngccjaaDoorW.PrintMore

theorem results_cell_two {P : Program} {fn : Func} {p a b : Tmp} {ty : TypeId} (h : fn.results = #[.cell p ty, .tmp a, .tmp b]) (tmps : Array Value) (w : World) (g : Nat) (t : TypeId) (cs : Array Value) (fr : Nat × Nat) (d : TypeDesc)
    (hp : tmps.getD p undef = .pointer (some ⟨g, 0, none⟩)) (hg : w.heap[g]? = some (.cells cs t fr))
    (hu : P.underlying ty = some d) (hd : (match d with | .struct _ | .array _ _ => true | _ => false) = true) (hi : (P.info? ty).map (·.size) = some cs.size) :
    (results fn tmps).run P w = .ok (.tuple #[.agg cs, tmps.getD a undef, tmps.getD b undef]) w := by
  have hp' : tmps[p]?.getD undef = .pointer (some ⟨g, 0, none⟩) := by simpa using hp
  simp [results, h, hp', asAddr, run_loadVar_row w g t ty cs fr d hg hu hd hi]
theorem results_cell_one {P : Program} {fn : Func} {p a : Tmp} {ty : TypeId} (h : fn.results = #[.cell p ty, .tmp a]) (tmps : Array Value) (w : World) (g : Nat) (t : TypeId) (cs : Array Value) (fr : Nat × Nat) (d : TypeDesc)
    (hp : tmps.getD p undef = .pointer (some ⟨g, 0, none⟩)) (hg : w.heap[g]? = some (.cells cs t fr))
    (hu : P.underlying ty = some d) (hd : (match d with | .struct _ | .array _ _ => true | _ => false) = true) (hi : (P.info? ty).map (·.size) = some cs.size) :
    (results fn tmps).run P w = .ok (.tuple #[.agg cs, tmps.getD a undef]) w := by
  have hp' : tmps[p]?.getD undef = .pointer (some ⟨g, 0, none⟩) := by simpa using hp
  simp [results, h, hp', asAddr, run_loadVar_row w g t ty cs fr d hg hu hd hi]

theorem conv_bytes (w : World) (s : ByteArray) : (convert 9 37 (.string s)).run Tryd.prog w = .ok (.slice (some ⟨w.heap.size, 0, none⟩) s.size (grownCap w s.size 0 5)) (Lib.bytesWorld w 5 s) :=
  Lib.run_convert_string_bytes w 9 37 5 s Tryd.underlying9 Tryd.underlying37 Tryd.underlying5

/-- The world behind bytes.NewReader([]byte(s)). -/
def readerW (w : World) (s : ByteArray) : World := (Lib.bytesWorld w 5 s).alloc (.cells #[.slice (some ⟨w.heap.size, 0, none⟩) s.size (grownCap w s.size 0 5), .int .i64 0, .int .i64 (-1)] 83)
theorem readerW_below (w : World) (s : ByteArray) : Below w.heap.size w (readerW w s) := (bytesWorld_below _ w 5 s (Nat.le_refl _)).alloc (by rw [Lib.bytesWorld_size]; omega) _
theorem readerW_size (w : World) (s : ByteArray) : (readerW w s).heap.size = w.heap.size + 2 := by unfold readerW; simp [Lib.bytesWorld_size]
theorem readerW_rd (w : World) (s : ByteArray) (hl : s.size < 1000000000) : Rd (readerW w s) (w.heap.size + 1) w.heap.size s.data.toList 0 := rd_new w s hl

theorem new_reader (w : World) (s : ByteArray) :
    Calls Tryd.prog 22 #[.slice (some ⟨w.heap.size, 0, none⟩) s.size (grownCap w s.size 0 5)] (Lib.bytesWorld w 5 s) fun e w' => e = .returned (.pointer (some ⟨w.heap.size + 1, 0, none⟩)) ∧ w' = readerW w s := by
  refine (newReader_any _ _ _ _).mono fun e w' ⟨h1, h2⟩ => ⟨?_, h2.symm⟩
  rw [h1, Lib.bytesWorld_size]

/-- impl.read of bytes. -/
def ImplOut (B : Nat) (r : Ber.Res) (e : Ending) (w' : World) : Prop :=
  match r with
  | .bad => True
  | .err => ∃ t : ByteArray, 0 < t.size ∧ e = .returned (.tuple #[.pointer none, .string t])
  | .ok p rest => if rest = [] then ∃ q : Nat, e = .returned (.tuple #[.pointer (some ⟨q, 0, none⟩), .string ⟨#[]⟩]) ∧ B ≤ q ∧ Stable B w' (fun _ => False) (fun w2 => Tree w2 q p)
    else ∃ t : ByteArray, 0 < t.size ∧ e = .returned (.tuple #[.pointer none, .string t])

set_option maxRecDepth 100000 in
set_option maxHeartbeats 4000000 in
theorem impl_read (N : Nat) (w : World) (s : ByteArray) (hE : Env N w) (hN : N ≤ w.heap.size) (hl : s.size < 1000000000) (f : Nat) (r : Ber.Res) (hr : Ber.readP f 0 s.data.toList = r) (hnb : r ≠ .bad) :
    Calls Tryd.prog 29 #[.string s] w fun e w' => ImplOut w.heap.size r e w' ∧ Below w.heap.size w w' := by
  have hcv := conv_bytes w s
  have hnr := new_reader w s
  have hb := readerW_below w s
  have hsz := readerW_size w s
  have hrp := read_packet N (readerW w s) (w.heap.size + 1) w.heap.size s.data.toList (readerW_rd w s hl) (hE.below hb hN) (by omega) f r hr hnb
  have hna := nil_ahead_err
  have hme := method_err
  have HNR := Lib.hid hnr
  have HRP := Lib.hid hrp
  have HB := Lib.hid hb
  have HSZ := Lib.hid hsz
  have HL := Lib.hid hl
  clear hnr hrp hb hsz hE hr hl
  go_enter Tryd.func29, Tryd.ntmps29
  go_wp2_with fail
  refine HNR.out.mono ?_
  rintro e w1 ⟨rfl, rfl⟩
  go_wp2_with fail
  refine HRP.out.mono ?_
  rintro e w2 ⟨ho, hk⟩
  have hbel : Below w.heap.size w w2 := HB.out.trans ((hk.mono HB.out.size).toBelow (by omega))
  have HBEL := Lib.hid hbel
  have HBE := Lib.hid (HB.out.size)
  clear hk hbel
  cases r with
  | bad => exact absurd rfl hnb
  | err =>
    obtain ⟨ev, rfl, hev⟩ := ho
    obtain ⟨a, rfl, -, t, cs, tt, hblk, hcl, ht0, -⟩ := hev
    go_wp2_with fail
    refine (errText_any w2 a t hcl).mono ?_
    rintro e w3 ⟨rfl, rfl⟩
    go_wp2
    go_ret2
    exact ⟨⟨t, ht0, rfl⟩, HBEL.out⟩
  | ok p rest =>
    obtain ⟨q, k, rfl, hq, hst, hrd, hrest⟩ := ho
    have hlen := reader_len w2 _ _ _ _ hrd
    have hrl : (s.data.toList.length - k) = rest.length := by rw [hrest, List.length_drop]
    have HREST := Lib.hid hrl
    have HST := Lib.hid hst
    have HQ := Lib.hid hq
    have hklt : ((s.data.toList.length - k : Nat) : Int) < 1000000000 := by have := hrd.len; omega
    obtain ⟨m, hm⟩ : ∃ m : Nat, m = s.data.toList.length - k := ⟨_, rfl⟩
    rw [← hm] at hlen
    have HLEN := Lib.hid hlen
    have HM := Lib.hid hm
    clear hrest hst hrd hq hlen hrl hm hklt
    go_wp2_with fail
    refine HLEN.out.mono ?_
    rintro e w3 ⟨rfl, hs⟩
    have HS := Lib.hid hs
    clear hs
    by_cases hr0 : rest = []
    · subst hr0
      obtain rfl : m = 0 := by rw [HM.out, HREST.out]; rfl
      go_wp2
      go_ret2
      refine ⟨?_, HBEL.out.trans ⟨HS.out.os, HS.out.tape, HS.out.output, by rw [HS.out.heap]; exact Nat.le_refl _, fun k _ => by rw [HS.out.heap]⟩⟩
      unfold ImplOut
      simp only []
      rw [if_pos trivial]
      refine ⟨q, rfl, Nat.le_trans HBE.out HQ.out, fun w4 h4 => HST.out w4 fun k h1 h2 h3 => ?_⟩
      rw [h4 k (Nat.le_trans HBE.out h1) (by rw [HS.out.heap]; exact h2) id, HS.out.heap]
    · have hm0 : 0 < m := by rw [HM.out, HREST.out]; exact List.length_pos_iff.2 hr0
      go_wp2
      go_ret2
      refine ⟨?_, HBEL.out.trans ⟨HS.out.os, HS.out.tape, HS.out.output, by rw [HS.out.heap]; exact Nat.le_refl _, fun k _ => by rw [HS.out.heap]⟩⟩
      unfold ImplOut
      simp only []
      rw [if_neg hr0]
      exact ⟨_, by decide, rfl⟩

/-- BerRead of bytes. -/
def ReadSaid (B : Nat) (size : Nat) (r : Ber.Res) (e : Ending) (w' : World) : Prop :=
  match r with
  | .bad => True
  | .err => ∃ t : ByteArray, 0 < t.size ∧ e = .returned (.tuple #[.agg #[.int .u8 0, .bool false, .int .u64 0, .string ⟨#[]⟩, .slice none 0 0], .int .i64 0, .string t])
  | .ok p rest => ∃ v4 : Value, e = .returned (.tuple #[.agg #[.int .u8 (toS p).f0, .bool (toS p).f1, .int .u64 (toS p).f2, .string (toS p).f3, v4], .int .i64 ((size - rest.length : Nat) : Int), .string ⟨#[]⟩]) ∧ Kd.R PFnBerForms.k31 31 w' B (fun _ => True) v4 (toS p).f4

set_option maxRecDepth 100000 in
set_option maxHeartbeats 4000000 in
theorem ber_read (N : Nat) (w : World) (s : ByteArray) (hE : Env N w) (hN : N ≤ w.heap.size) (hl : s.size < 1000000000) (f : Nat) (r : Ber.Res) (hr : Ber.readP f 0 s.data.toList = r) (hnb : r ≠ .bad) :
    Calls Tryd.prog 9 #[.string s] w fun e w' => ReadSaid w.heap.size s.size r e w' ∧ Below w.heap.size w w' := by
  obtain ⟨w0, hw0⟩ : ∃ w0, w0 = w.alloc (.cells #[.int .u8 0, .bool false, .int .u64 0, .string ⟨#[]⟩, .slice none 0 0] 31) := ⟨_, rfl⟩
  have hB0 : Below w.heap.size w w0 := by rw [hw0]; exact (Below.refl _ w).alloc (Nat.le_refl _) _
  have hK0 : w0.heap[w.heap.size]? = some (.cells #[.int .u8 0, .bool false, .int .u64 0, .string ⟨#[]⟩, .slice none 0 0] 31 (0, 0)) := by rw [hw0]; exact heap_alloc_new w _
  have hsz0 : w0.heap.size = w.heap.size + 1 := by rw [hw0]; simp
  have hcv := conv_bytes w0 s
  have hnr := new_reader w0 s
  have hb := readerW_below w0 s
  have hsz := readerW_size w0 s
  have hrp := read_packet N (readerW w0 s) (w0.heap.size + 1) w0.heap.size s.data.toList (readerW_rd w0 s hl) ((hE.below hB0 hN).below hb (by omega)) (by omega) f r hr hnb
  have hna := nil_ahead_err
  have hme := method_err
  have HNR := Lib.hid hnr
  have HRP := Lib.hid hrp
  have HB := Lib.hid hb
  have HB0 := Lib.hid hB0
  have HK0 := Lib.hid hK0
  have HSZ := Lib.hid hsz
  have HL := Lib.hid hl
  have HR := Lib.hid hr
  clear hnr hrp hb hsz hE hr hl hB0 hK0
  go_enter Tryd.func9, Tryd.ntmps9
  go_wp2_with fail
  rw [← hw0, hcv]
  have HSZ0 := Lib.hid hsz0
  clear hw0 hsz0
  go_wp2_with fail
  refine HNR.out.mono ?_
  rintro e w1 ⟨rfl, rfl⟩
  go_wp2_with fail
  refine HRP.out.mono ?_
  rintro e w2 ⟨ho, hk⟩
  have hbel0 : Below w0.heap.size w0 w2 := HB.out.trans ((hk.mono HB.out.size).toBelow (by omega))
  have HBEL0 := Lib.hid hbel0
  have HBE := Lib.hid (HB.out.size)
  clear hk hbel0
  cases r with
  | bad => exact absurd rfl hnb
  | err =>
    obtain ⟨ev, rfl, hev⟩ := ho
    obtain ⟨a, rfl, -, t, cs, tt, hblk, hcl, ht0, -⟩ := hev
    have hK1 : w2.heap[w.heap.size]? = _ := (HBEL0.out.block w.heap.size (by have := HSZ0.out; omega)).trans HK0.out
    have HK1 := Lib.hid hK1
    clear hK1
    go_wp2_with fail
    refine (errText_any w2 a t hcl).mono ?_
    rintro e w3 ⟨rfl, rfl⟩
    have k0 := blockCell HK1.out 0
    have k1 := blockCell HK1.out 1
    have k2 := blockCell HK1.out 2
    have k3 := blockCell HK1.out 3
    have k4 := blockCell HK1.out 4
    have f0 := blockFrozen HK1.out 0
    have f1 := blockFrozen HK1.out 1
    have f2 := blockFrozen HK1.out 2
    have f3 := blockFrozen HK1.out 3
    have f4 := blockFrozen HK1.out 4
    simp only [List.getElem?_toArray, List.getElem?_cons_zero, List.getElem?_cons_succ] at k0 k1 k2 k3 k4
    go_wp2
    refine bodyPost_ret (results_cell_two rfl _ _ w.heap.size 31 _ (0, 0) _ rfl (five_set HK1.out _ _ _ _ _) Tryd.underlying31 rfl (by kernel_rfl)) rfl ?_
    exact ⟨⟨t, ht0, rfl⟩, (((((HB0.out.trans (HBEL0.out.mono (by have := HSZ0.out; omega))).setCell (Nat.le_refl _) _).setCell (Nat.le_refl _) _).setCell (Nat.le_refl _) _).setCell (Nat.le_refl _) _).setCell (Nat.le_refl _) _⟩
  | ok p rest =>
    obtain ⟨q, k, rfl, hq, hst, hrd, hrest⟩ := ho
    have hfits := Ber.readP_fits _ _ _ _ _ HR.out
    have henc : (Ber.enc p).length ≤ 100000000000 := by
      have h1 := hfits.size
      have h2 := HL.out
      simp at h1
      omega
    have hback := back_any (SizeOf.sizeOf p + 1) p (Nat.lt_succ_self _) w2 q (TreeKept.of hst) henc
    have hK1 : w2.heap[w.heap.size]? = _ := (HBEL0.out.block w.heap.size (by have := HSZ0.out; omega)).trans HK0.out
    have HK1 := Lib.hid hK1
    have HBACK := Lib.hid hback
    have HRD := Lib.hid hrd
    have HREST := Lib.hid hrest
    clear hK1 hback hrd hrest hst henc hfits
    go_wp2_with fail
    refine HBACK.out.mono ?_
    rintro e w3 ⟨v4, rfl, hv4, hb3⟩
    obtain ⟨Ao, co, eo⟩ := Kd.R_slice hv4
    subst eo
    have hrd3 : Rd w3 (w0.heap.size + 1) w0.heap.size s.data.toList k := HRD.out.stays (hb3.block _ HRD.out.lt) (hb3.block _ (by have := HRD.out.lt; omega))
    have hlen := reader_len w3 _ _ _ _ hrd3
    obtain ⟨m, hm⟩ : ∃ m : Nat, m = s.data.toList.length - k := ⟨_, rfl⟩
    rw [← hm] at hlen
    have hms : m ≤ s.size := by rw [hm]; simp
    have HLEN := Lib.hid hlen
    have HM := Lib.hid hm
    have HV4 := Lib.hid hv4
    have HB3 := Lib.hid hb3
    clear hlen hm hv4 hb3 hrd3
    have hl9 : s.size < 1000000000 := HL.out
    go_wp2_with fail
    refine HLEN.out.mono ?_
    rintro e w4 ⟨rfl, hs⟩
    have hsb : Below w3.heap.size w3 w4 := ⟨hs.os, hs.tape, hs.output, by rw [hs.heap]; exact Nat.le_refl _, fun k _ => by rw [hs.heap]⟩
    have hK4 : w4.heap[w.heap.size]? = _ := (congrArg (fun h => h[w.heap.size]?) hs.heap).trans ((HB3.out.block w.heap.size (blockLt HK1.out)).trans HK1.out)
    have HK4 := Lib.hid hK4
    have HBS := Lib.hid ((((HB0.out.trans (HBEL0.out.mono (by have := HSZ0.out; omega)))).trans (HB3.out.mono (by have := blockLt HK1.out; omega))).trans (hsb.mono (by have := blockLt HK1.out; have := HB3.out.size; omega)))
    have HV5 := Lib.hid (Kd.R_newB (Kd.R_below HV4.out hsb) HK1.out)
    have k0 := blockCell hK4 0
    have k1 := blockCell hK4 1
    have k2 := blockCell hK4 2
    have k3 := blockCell hK4 3
    have k4 := blockCell hK4 4
    have f0 := blockFrozen hK4 0
    have f1 := blockFrozen hK4 1
    have f2 := blockFrozen hK4 2
    have f3 := blockFrozen hK4 3
    have f4 := blockFrozen hK4 4
    simp only [List.getElem?_toArray, List.getElem?_cons_zero, List.getElem?_cons_succ] at k0 k1 k2 k3 k4
    have e1 : ((s.size - rest.length : Nat) : Int) = (s.size : Int) - (m : Int) := by
      have h1 : rest.length = m := by rw [HREST.out, List.length_drop, HM.out]
      rw [h1]; omega
    have E1 := Lib.hid e1
    clear hs hsb hK4 e1
    go_wp2
    refine bodyPost_ret (results_cell_two rfl _ _ w.heap.size 31 _ (0, 0) _ rfl (five_set HK4.out _ _ _ _ _) Tryd.underlying31 rfl (by kernel_rfl)) rfl ?_
    refine ⟨⟨_, by rw [E1.out]; rfl, ?_⟩, (((((HBS.out).setCell (Nat.le_refl _) _).setCell (Nat.le_refl _) _).setCell (Nat.le_refl _) _).setCell (Nat.le_refl _) _).setCell (Nat.le_refl _) _⟩
    exact Kd.R_lower (Kd.R_mono (Kd.R_far (p := ⟨w.heap.size, 4, none⟩) (Kd.R_far (p := ⟨w.heap.size, 3, none⟩) (Kd.R_far (p := ⟨w.heap.size, 2, none⟩) (Kd.R_far (p := ⟨w.heap.size, 1, none⟩) (Kd.R_far (p := ⟨w.heap.size, 0, none⟩) HV5.out (fun _ hk => hk.2) _) (fun _ hk => hk.2) _) (fun _ hk => hk.2) _) (fun _ hk => hk.2) _) (fun _ hk => hk.2) _) (fun _ _ => trivial)) (by have := blockLt HK1.out; omega)
end Go.Proofs.YtdfehaonngccjaaDoor

/- berAwake: an integer is read. -/
namespace Go.Proofs.YtdfehaonngccjaaDoor
open Go Go.RowKit Go.Proofs.YtdfehaonngccjaaDoorW.PrintWords Go.Proofs.YtdfehaonngccjaaDoorW.PrintLast Go.Proofs.YtdfehaonngccjaaDoorW.PrintMore

theorem awake_read : Ber.readP 5 0 (⟨#[2, 1, 7]⟩ : ByteArray).data.toList = .ok (.mk 0 false 2 [7] []) [] := by
  simp [Ber.readP, Ber.header, Ber.ident, Ber.lenOf, Ber.prim, Ber.known]

set_option maxRecDepth 100000 in
set_option maxHeartbeats 4000000 in
theorem awake (N : Nat) (w : World) (hE : Env N w) (hN : N ≤ w.heap.size) :
    Calls Tryd.prog 7 #[] w fun e w' => e = .returned (.bool true) ∧ Below w.heap.size w w' := by
  have hr := ber_read N w ⟨#[2, 1, 7]⟩ hE hN (by decide) 5 _ awake_read (by simp)
  have HR := Lib.hid hr
  clear hr hE
  go_enter Tryd.func7, Tryd.ntmps7
  go_wp2_with fail
  refine HR.out.mono ?_
  rintro e w1 ⟨⟨v4, rfl, hv4⟩, hb⟩
  simp only [toS, toSs] at hv4 ⊢
  obtain ⟨Ao, co, eo⟩ := Kd.R_slice hv4
  subst eo
  have HB := Lib.hid hb
  clear hb hv4
  go_wp2
  go_ret
  exact ⟨rfl, HB.out.alloc HB.out.size _⟩
end Go.Proofs.YtdfehaonngccjaaDoor

