/- Packets in memory. -/
import Derived.Test.YtjmahgefijncaaaGreatFmtHd
import Derived.Test.YtjmahgefijncaaaGreatFmtHc
import Derived.Test.YtjmahgefijncaaaGreatFmtParse
import Derived.Test.YtjmahgefijncaaaGreatFmtNTxt
set_option linter.unusedVariables false
set_option linter.unusedSimpArgs false
namespace Go.Proofs.YtjmahgefijncaaaGreatFmt
open Go Go.RowKit

/-- What Value holds. -/
def valOf (c : Nat) (b : Bool) (t : Nat) (data : List UInt8) : Value :=
  if c = 0 ∧ b = false then
    if t = 1 then .iface 4 (.bool (parseOf data != 0))
    else if t = 2 ∨ t = 10 then .iface 2 (.int .i64 (parseOf data))
    else if t = 4 then .iface 9 (.string ⟨data.toArray⟩)
    else .nilIface
  else .nilIface

/-- What ByteValue holds. -/
def BvAt (w : World) (c : Nat) (b : Bool) (data : List UInt8) (bv : Value) : Prop :=
  if c = 0 ∧ b = false then ∃ G cp, bv = .slice (some ⟨G, 0, none⟩) data.length cp ∧ ∀ j v, (Lib.byteCells data)[j]? = some v → w.cell? ⟨G, j, none⟩ = some v
  else bv = .slice none 0 0

mutual
/-- The packet in block p. -/
def Tree (w : World) (p : Nat) : Ber.Pk → Prop
  | .mk c b t data items => ∃ (D : Nat) (row : Option Nat) (C cap : Nat) (bv : Value) (xs : List Value), c < 4 ∧ t < 2 ^ 64 ∧
      w.heap[p]? = some (.cells (PkCells ((c * 64 : Nat) : Int) (if b then 32 else 0) t (valOf c b t data) bv D (.slice (some ⟨C, 0, none⟩) xs.length cap) (.string ⟨#[]⟩)) 171 (0, 0)) ∧
      BufAt w D row (Lib.byteCells (Ber.body (.mk c b t data items))) ∧ KidRow w C cap xs ∧ BvAt w c b data bv ∧ (b = false → items = []) ∧ (b = true → data = []) ∧ Kids w xs items
def Kids (w : World) (xs : List Value) : List Ber.Pk → Prop
  | [] => xs = []
  | x :: r => ∃ q vs, xs = .pointer (some ⟨q, 0, none⟩) :: vs ∧ Tree w q x ∧ Kids w vs r
end

/-- Q holds as long as the blocks from B on stand that are not of Own. -/
def Stable (B : Nat) (w : World) (Own : Nat → Prop) (Q : World → Prop) : Prop :=
  ∀ w2 : World, (∀ k, B ≤ k → k < w.heap.size → ¬ Own k → w2.heap[k]? = w.heap[k]?) → Q w2
theorem Stable.now {B : Nat} {w : World} {Own : Nat → Prop} {Q : World → Prop} (h : Stable B w Own Q) : Q w := h w fun _ _ _ _ => rfl
/-- It stays so behind what turns own blocks alone, whatever own blocks come in place. -/
theorem Stable.only {B : Nat} {w w' : World} {Own Own' S : Nat → Prop} {Q : World → Prop} (h : Stable B w Own Q) (k : Only S w w') (hS : ∀ i, B ≤ i → i < w.heap.size → S i → Own i) (hO : ∀ i, i < w.heap.size → Own' i → Own i) : Stable B w' Own' Q :=
  fun w2 h2 => h w2 fun i hB hi hn => (h2 i hB (Nat.lt_of_lt_of_le hi k.size) (fun e => hn (hO i hi e))).trans (k.block i hi (fun e => hn (hS i hB hi e)))
theorem Stable.lower {B B' : Nat} {w : World} {Own : Nat → Prop} {Q : World → Prop} (h : Stable B w Own Q) (hB : B' ≤ B) : Stable B' w Own Q :=
  fun w2 h2 => h w2 fun i hi hlt hn => h2 i (Nat.le_trans hB hi) hlt hn
theorem Stable.imp {B : Nat} {w : World} {Own : Nat → Prop} {Q Q' : World → Prop} (h : Stable B w Own Q) (k : ∀ w, Q w → Q' w) : Stable B w Own Q' := fun w2 h2 => k _ (h w2 h2)

/-- What readPacket comes to. -/
def PackOut (N B R A : Nat) (l : List UInt8) (i : Nat) (r : Ber.Res) (e : Ending) (w' : World) : Prop :=
  match r with
  | .bad => True
  | .err => ∃ n ev, e = .returned (.tuple #[.pointer none, .int .i64 n, ev]) ∧ ErrAt N B w' ev
  | .ok p rest => ∃ q k : Nat, e = .returned (.tuple #[.pointer (some ⟨q, 0, none⟩), .int .i64 k, .nilIface]) ∧ B ≤ q ∧ Stable B w' (fun _ => False) (fun w2 => Tree w2 q p) ∧ Rd w' R A l (i + k) ∧ rest = l.drop (i + k)

theorem parse_all (w : World) (G c : Nat) (l : List UInt8) (hl : l.length < 1000000000000) (hsrc : ∀ j v, (Lib.byteCells l)[j]? = some v → w.cell? ⟨G, j, none⟩ = some v) :
    Calls Tryz.prog 124 #[.slice (some ⟨G, 0, none⟩) l.length c] w fun e w' => (∃ ev, e = .returned (.tuple #[.int .i64 (parseOf l), ev])) ∧ Below w.heap.size w w' := by
  by_cases h8 : l.length ≤ 8
  · exact (parse_any w G c l h8 hsrc).mono fun e w' ⟨h1, h2⟩ => by subst h2; exact ⟨⟨_, h1⟩, Below.refl _ _⟩
  · have hp : parseOf l = 0 := by unfold parseOf; rw [if_pos (by omega)]
    rw [hp]
    go_enter Tryz.func124, Tryz.ntmps124
    go_wp2_with fail
    refine (new_any _ _).mono ?_
    rintro e w1 ⟨rfl, hw⟩
    have hb : Below w.heap.size w w1 := by rw [← hw]; exact (Below.refl _ w).alloc (Nat.le_refl _) _
    have HB := Lib.hid hb
    clear hb hw
    go_wp2
    go_ret2
    exact ⟨⟨_, rfl⟩, HB.out⟩
end Go.Proofs.YtjmahgefijncaaaGreatFmt

/- readPacket: what is laid at a packet's start; what stands when a primitive one is read. -/
namespace Go.Proofs.YtjmahgefijncaaaGreatFmt
open Go Go.RowKit

theorem make0 (w : World) : (Instr.makeSlice 51 (.int .i64 0) (.int .i64 0)).run Tryz.prog w = .ok (.slice (some ⟨w.heap.size, 0, none⟩) 0 0) (w.alloc (.cells #[] 5)) := by kernel_rfl
theorem make2 (w : World) : (Instr.makeSlice 169 (.int .i64 0) (.int .i64 2)).run Tryz.prog w = .ok (.slice (some ⟨w.heap.size, 0, none⟩) 0 2) (w.alloc (.cells #[.pointer none, .pointer none] 159)) := by kernel_rfl

/-- The four blocks of a packet's start. -/
def startW (w : World) (x y z : Int) : World :=
  (((w.alloc (.cells #[.int .u8 x, .int .u8 y, .int .u64 z] 168)).alloc
    (.cells (PkCells x y z .nilIface (.slice none 0 0) (w.heap.size + 1 + 1) (.slice (some ⟨w.heap.size + 1 + 1 + 1, 0, none⟩) 0 2) (.string ⟨#[]⟩)) 171)).alloc
    (.cells #[.slice none 0 0, .int .i64 0, .int .i8 0] 183)).alloc (.cells #[.pointer none, .pointer none] 159)

theorem heap4 (w : World) (a b c d : Obj) (k : Nat) (hk : k < w.heap.size) : ((((w.alloc a).alloc b).alloc c).alloc d).heap[k]? = w.heap[k]? := by
  rw [Below.heap_alloc _ _ _ (by simp; omega), Below.heap_alloc _ _ _ (by simp; omega), Below.heap_alloc _ _ _ (by simp; omega), Below.heap_alloc _ _ _ hk]

theorem startW_size (w : World) (x y z : Int) : (startW w x y z).heap.size = w.heap.size + 4 := by simp [startW]
theorem startW_P (w : World) (x y z : Int) : (startW w x y z).heap[w.heap.size + 1]? = some (.cells (PkCells x y z .nilIface (.slice none 0 0) (w.heap.size + 1 + 1) (.slice (some ⟨w.heap.size + 1 + 1 + 1, 0, none⟩) 0 2) (.string ⟨#[]⟩)) 171 (0, 0)) := by
  unfold startW
  rw [Below.heap_alloc _ _ _ (by simp), Below.heap_alloc _ _ _ (by simp)]
  exact alloc2_new w _ _
theorem startW_D (w : World) (x y z : Int) : BufAt (startW w x y z) (w.heap.size + 1 + 1) none (Lib.byteCells []) := by
  refine ⟨rfl, 0, ?_⟩
  unfold startW
  rw [Below.heap_alloc _ _ _ (by simp)]
  have := alloc2_new (w.alloc (.cells #[.int .u8 x, .int .u8 y, .int .u64 z] 168)) (.cells (PkCells x y z .nilIface (.slice none 0 0) (w.heap.size + 1 + 1) (.slice (some ⟨w.heap.size + 1 + 1 + 1, 0, none⟩) 0 2) (.string ⟨#[]⟩)) 171) (.cells #[.slice none 0 0, .int .i64 0, .int .i8 0] 183)
  simpa using this
theorem startW_C (w : World) (x y z : Int) : KidRow (startW w x y z) (w.heap.size + 1 + 1 + 1) 2 [] := by
  refine ⟨#[.pointer none, .pointer none], ?_, by simp, by decide, rfl, rfl⟩
  unfold startW
  have := heap_alloc_new (((w.alloc (.cells #[.int .u8 x, .int .u8 y, .int .u64 z] 168)).alloc
    (.cells (PkCells x y z .nilIface (.slice none 0 0) (w.heap.size + 1 + 1) (.slice (some ⟨w.heap.size + 1 + 1 + 1, 0, none⟩) 0 2) (.string ⟨#[]⟩)) 171)).alloc
    (.cells #[.slice none 0 0, .int .i64 0, .int .i8 0] 183)) (.cells #[.pointer none, .pointer none] 159)
  simpa using this
theorem startW_below (w : World) (x y z : Int) : Below w.heap.size w (startW w x y z) :=
  ((((Below.refl _ w).alloc (Nat.le_refl _) _).alloc (by simp) _).alloc (by simp; omega) _).alloc (by simp; omega) _

theorem pk0 {w : World} {p D : Nat} {a0 a1 a2 : Int} {val bv kv ds : Value} {t : TypeId} {fr : Nat × Nat} (h : w.heap[p]? = some (.cells (PkCells a0 a1 a2 val bv D kv ds) t fr)) : w.cell? ⟨p, 0, none⟩ = some (.int .u8 a0) := blockCell h 0
theorem pk1 {w : World} {p D : Nat} {a0 a1 a2 : Int} {val bv kv ds : Value} {t : TypeId} {fr : Nat × Nat} (h : w.heap[p]? = some (.cells (PkCells a0 a1 a2 val bv D kv ds) t fr)) : w.cell? ⟨p, 1, none⟩ = some (.int .u8 a1) := blockCell h 1
theorem pk2 {w : World} {p D : Nat} {a0 a1 a2 : Int} {val bv kv ds : Value} {t : TypeId} {fr : Nat × Nat} (h : w.heap[p]? = some (.cells (PkCells a0 a1 a2 val bv D kv ds) t fr)) : w.cell? ⟨p, 2, none⟩ = some (.int .u64 a2) := blockCell h 2
theorem pk3 {w : World} {p D : Nat} {a0 a1 a2 : Int} {val bv kv ds : Value} {t : TypeId} {fr : Nat × Nat} (h : w.heap[p]? = some (.cells (PkCells a0 a1 a2 val bv D kv ds) t fr)) : w.cell? ⟨p, 3, none⟩ = some val := blockCell h 3
theorem pk4 {w : World} {p D : Nat} {a0 a1 a2 : Int} {val bv kv ds : Value} {t : TypeId} {fr : Nat × Nat} (h : w.heap[p]? = some (.cells (PkCells a0 a1 a2 val bv D kv ds) t fr)) : w.cell? ⟨p, 4, none⟩ = some bv := blockCell h 4
theorem pk5 {w : World} {p D : Nat} {a0 a1 a2 : Int} {val bv kv ds : Value} {t : TypeId} {fr : Nat × Nat} (h : w.heap[p]? = some (.cells (PkCells a0 a1 a2 val bv D kv ds) t fr)) : w.cell? ⟨p, 5, none⟩ = some (.pointer (some ⟨D, 0, none⟩)) := blockCell h 5
theorem pk6 {w : World} {p D : Nat} {a0 a1 a2 : Int} {val bv kv ds : Value} {t : TypeId} {fr : Nat × Nat} (h : w.heap[p]? = some (.cells (PkCells a0 a1 a2 val bv D kv ds) t fr)) : w.cell? ⟨p, 6, none⟩ = some kv := blockCell h 6

/-- A primitive packet stands. -/
theorem prim_stable {B : Nat} {w : World} {p D C cap c t : Nat} {row : Option Nat} {bv : Value} {data : List UInt8} (hc : c < 4) (ht : t < 2 ^ 64)
    (hp : w.heap[p]? = some (.cells (PkCells ((c * 64 : Nat) : Int) 0 t (valOf c false t data) bv D (.slice (some ⟨C, 0, none⟩) 0 cap) (.string ⟨#[]⟩)) 171 (0, 0)))
    (hb : BufAt w D row (Lib.byteCells data)) (hk : KidRow w C cap []) (hpB : B ≤ p) (hDB : B ≤ D) (hCB : B ≤ C) (hrB : ∀ g, row = some g → B ≤ g)
    (hbv : (c ≠ 0 ∧ bv = .slice none 0 0) ∨ c = 0 ∧ ∃ G cp, bv = .slice (some ⟨G, 0, none⟩) data.length cp ∧ B ≤ G ∧ G < w.heap.size ∧ ∀ j v, (Lib.byteCells data)[j]? = some v → w.cell? ⟨G, j, none⟩ = some v) :
    Stable B w (fun _ => False) (fun w2 => Tree w2 p (.mk c false t data [])) := by
  intro w2 h2
  have hplt := blockLt hp
  unfold Tree
  refine ⟨D, row, C, cap, bv, [], hc, ht, (h2 p hpB hplt id).trans hp, hb.kept (h2 D hDB hb.ltD id) (fun g e => h2 g (hrB g e) (by subst e; exact hb.ltG) id), hk.stays (h2 C hCB hk.lt id), ?_, fun _ => rfl, (fun h => by cases h), rfl⟩
  unfold BvAt
  rcases hbv with ⟨h0, rfl⟩ | ⟨h0, G, cp, rfl, hG, hGl, hs⟩
  · rw [if_neg (by rintro ⟨h, _⟩; exact h0 h)]
  · rw [if_pos ⟨h0, rfl⟩]
    exact ⟨G, cp, rfl, fun j v hj => (World.cell?_of_block (w := w) (h2 G hG hGl id)).trans (hs j v hj)⟩
end Go.Proofs.YtjmahgefijncaaaGreatFmt

/- readPacket of a primitive packet. -/
namespace Go.Proofs.YtjmahgefijncaaaGreatFmt
open Go Go.RowKit

theorem known_cases {c t : Nat} (h : Ber.known c t = true) : c ≠ 0 ∨ c = 0 ∧ (t = 0 ∨ t = 1 ∨ t = 2 ∨ t = 4 ∨ t = 5 ∨ t = 10) := by
  simp only [Ber.known, Bool.or_eq_true, Bool.not_eq_true', decide_eq_true_eq, decide_eq_false_iff_not] at h
  omega

theorem prim_end {N : Nat} {w W0 w3 : World} {R A : Nat} {l data rest : List UInt8} {i kk p D C c t : Nat} {m : Int} {row : Option Nat} {bv : Value} (hm : m = (kk : Int)) (hc : c < 4) (ht : t < 2 ^ 63)
    (hK0 : Keep w.heap.size R w W0) (hR0 : Rd W0 R A l (i + kk)) (hC0 : KidRow W0 C 2 []) (hf3 : Only (fun k => k = p ∨ k = D) W0 w3)
    (hp3 : w3.heap[p]? = some (.cells (PkCells ((c * 64 : Nat) : Int) 0 t (valOf c false t data) bv D (.slice (some ⟨C, 0, none⟩) 0 2) (.string ⟨#[]⟩)) 171 (0, 0)))
    (hb3 : BufAt w3 D row (Lib.byteCells data)) (hr : ∀ g, row = some g → w.heap.size ≤ g) (hpB : w.heap.size ≤ p) (hDB : w.heap.size ≤ D) (hCB : w.heap.size ≤ C) (hCp : C ≠ p) (hCD : C ≠ D) (hRlt : R < w.heap.size) (hAlt : A < w.heap.size)
    (hbv : (c ≠ 0 ∧ bv = .slice none 0 0) ∨ c = 0 ∧ ∃ G cp, bv = .slice (some ⟨G, 0, none⟩) data.length cp ∧ w.heap.size ≤ G ∧ G < W0.heap.size ∧ G ≠ p ∧ G ≠ D ∧ ∀ j v, (Lib.byteCells data)[j]? = some v → W0.cell? ⟨G, j, none⟩ = some v)
    (hrest : rest = l.drop (i + kk)) :
    PackOut N w.heap.size R A l i (.ok (.mk c false t data []) rest) (.returned (.tuple #[.pointer (some ⟨p, 0, none⟩), .int .i64 m, .nilIface])) w3 ∧ Keep w.heap.size R w w3 := by
  subst hm
  have hsz := hK0.size
  have hblk : ∀ k, k < W0.heap.size → k ≠ p → k ≠ D → w3.heap[k]? = W0.heap[k]? := fun k hk h1 h2 => hf3.block k hk (by rintro (h | h); exact h1 h; exact h2 h)
  refine ⟨⟨p, kk, rfl, hpB, ?_, ?_, hrest⟩, ?_⟩
  · refine prim_stable hc (by omega) hp3 hb3 (hC0.stays (hblk C hC0.lt hCp hCD)) hpB hDB hCB hr ?_
    rcases hbv with h | ⟨h0, G, cp, h1, h2, h3, h4, h5, h6⟩
    · exact Or.inl h
    · exact Or.inr ⟨h0, G, cp, h1, h2, Nat.lt_of_lt_of_le h3 hf3.size, fun j v hj => (World.cell?_of_block (w := W0) (hblk G h3 h4 h5)).trans (h6 j v hj)⟩
  · exact hR0.stays (hblk R (by omega) (by omega) (by omega)) (hblk A (by omega) (by omega) (by omega))
  · exact hK0.trans (hf3.toKeep (by rintro k (h | h) <;> omega) hsz)

theorem valOf_none {t : Nat} (data : List UInt8) (h : t = 0 ∨ t = 5) : valOf 0 false t data = .nilIface := by
  unfold valOf
  rcases h with rfl | rfl <;> simp

/-- Of the class of universal ones: W4 is what stands behind the storing of ByteValue, and maybe of a call. -/
theorem prim_fin {N : Nat} {w W0 w2 W4 : World} {R A : Nat} {l data rest : List UInt8} {i kk p D C t G cp : Nat} {m : Int} {row : Option Nat} (hm : m = (kk : Int)) (ht : t < 2 ^ 63)
    (hK0 : Keep w.heap.size R w W0) (hR0 : Rd W0 R A l (i + kk)) (hC0 : KidRow W0 C 2 []) (hp0 : p < W0.heap.size)
    (hp2 : w2.heap[p]? = some (.cells (PkCells ((0 * 64 : Nat) : Int) 0 t .nilIface (.slice none 0 0) D (.slice (some ⟨C, 0, none⟩) 0 2) (.string ⟨#[]⟩)) 171 (0, 0)))
    (hb2 : BufAt w2 D row (Lib.byteCells ([] ++ data))) (hr2 : row = none ∨ ∃ g, row = some g ∧ W0.heap.size ≤ g) (hf2 : Only (fun k => k = D ∨ none = some k) W0 w2)
    (hpB : w.heap.size ≤ p) (hDB : w.heap.size ≤ D) (hCB : w.heap.size ≤ C) (hCp : C ≠ p) (hCD : C ≠ D) (hpD : p ≠ D) (hRlt : R < w.heap.size) (hAlt : A < w.heap.size)
    (hGB : w.heap.size ≤ G) (hGl : G < W0.heap.size) (hGp : G ≠ p) (hGD : G ≠ D) (hs : ∀ j v, (Lib.byteCells data)[j]? = some v → W0.cell? ⟨G, j, none⟩ = some v) (hrest : rest = l.drop (i + kk))
    (hbel : Below (w2.setCell ⟨p, 4, none⟩ (.slice (some ⟨G, 0, none⟩) data.length cp)).heap.size (w2.setCell ⟨p, 4, none⟩ (.slice (some ⟨G, 0, none⟩) data.length cp)) W4) :
    (PackOut N w.heap.size R A l i (.ok (.mk 0 false t data []) rest) (.returned (.tuple #[.pointer (some ⟨p, 0, none⟩), .int .i64 m, .nilIface])) (W4.setCell ⟨p, 3, none⟩ (valOf 0 false t data)) ∧ Keep w.heap.size R w (W4.setCell ⟨p, 3, none⟩ (valOf 0 false t data))) ∧
    (valOf 0 false t data = .nilIface → PackOut N w.heap.size R A l i (.ok (.mk 0 false t data []) rest) (.returned (.tuple #[.pointer (some ⟨p, 0, none⟩), .int .i64 m, .nilIface])) W4 ∧ Keep w.heap.size R w W4) ∧
    W4.cell? ⟨p, 3, none⟩ = some .nilIface ∧ W4.frozen? ⟨p, 3, none⟩ = false := by
  have hsz0 := hK0.size
  have hsz2 := hf2.size
  have hsz3 : (w2.setCell ⟨p, 4, none⟩ (.slice (some ⟨G, 0, none⟩) data.length cp)).heap.size = w2.heap.size := by simp [World.setCell]
  have hg2 : ∀ g, row = some g → W0.heap.size ≤ g := fun g e => by
    rcases hr2 with h | ⟨g', h, h'⟩
    · rw [h] at e; cases e
    · rw [h] at e; rw [← Option.some.inj e]; exact h'
  have hp4 : W4.heap[p]? = some (.cells (PkCells ((0 * 64 : Nat) : Int) 0 t .nilIface (.slice (some ⟨G, 0, none⟩) data.length cp) D (.slice (some ⟨C, 0, none⟩) 0 2) (.string ⟨#[]⟩)) 171 (0, 0)) := by
    have h3 := blockSet hp2 4 (.slice (some ⟨G, 0, none⟩) data.length cp)
    refine (hbel.block p (by rw [hsz3]; omega)).trans ?_
    simpa [PkCells] using h3
  have hb4 : BufAt W4 D row (Lib.byteCells data) := by
    rw [List.nil_append] at hb2
    refine hb2.kept ?_ fun g e => ?_
    · rw [hbel.block D (by rw [hsz3]; exact hb2.ltD), Below.heap_setCell _ _ _ _ (by show D ≠ p; omega)]
    · have := hg2 g e
      rw [hbel.block g (by rw [hsz3]; subst e; exact hb2.ltG), Below.heap_setCell _ _ _ _ (by show g ≠ p; omega)]
  have hf4 : Only (fun k => k = p ∨ k = D) W0 W4 := by
    have h1 : Only (fun k => k = p ∨ k = D) W0 w2 := hf2.weaken (by rintro i _ (h | h); exact Or.inr h; cases h)
    exact (h1.setCell (p := ⟨p, 4, none⟩) (Or.inr (Or.inl rfl)) (.slice (some ⟨G, 0, none⟩) data.length cp)).trans (Only.ofBelow hbel)
  refine ⟨?_, fun hn => ?_, pk3 hp4, blockFrozen hp4 3⟩
  · refine prim_end (c := 0) hm (by decide) ht hK0 hR0 hC0 (hf4.setCell (p := ⟨p, 3, none⟩) (Or.inr (Or.inl rfl)) (valOf 0 false t data)) ?_ (hb4.kept (Below.heap_setCell _ _ _ _ (by show D ≠ p; omega)) (fun g e => Below.heap_setCell _ _ _ _ (by have := hg2 g e; show g ≠ p; omega)))
      (fun g e => by have := hg2 g e; omega) hpB hDB hCB hCp hCD hRlt hAlt (Or.inr ⟨rfl, G, cp, rfl, hGB, hGl, hGp, hGD, hs⟩) hrest
    have := blockSet hp4 3 (valOf 0 false t data)
    simpa [PkCells] using this
  · refine prim_end (c := 0) hm (by decide) ht hK0 hR0 hC0 hf4 ?_ hb4 (fun g e => by have := hg2 g e; omega) hpB hDB hCB hCp hCD hRlt hAlt (Or.inr ⟨rfl, G, cp, rfl, hGB, hGl, hGp, hGD, hs⟩) hrest
    rw [hn]; exact hp4

set_option maxRecDepth 100000 in
set_option maxHeartbeats 16000000 in
theorem pack_zero (N : Nat) (w : World) (R A : Nat) (l : List UInt8) (i : Nat) (h : Rd w R A l i) (hE : Env N w) (hN : N ≤ R) (d : Nat) (hd : d < 1000) (c t : Nat) (rest : List UInt8)
    (hh : Ber.header (l.drop i) = some (c, false, t, some 0, rest)) (hkn : Ber.known c t = true) :
    Calls Tryz.prog 110 #[.iface 157 (.pointer (some ⟨R, 0, none⟩)), .int .i64 d] w fun e w' => PackOut N w.heap.size R A l i (.ok (.mk c false t [] []) rest) e w' ∧ Keep w.heap.size R w w' := by
  have hhd := head_any N w R A l i h hE hN
  have hm2 := make2
  have hm0 := make0
  have hdi : decide ((d : Int) ≥ 1000) = false := by simp; omega
  obtain ⟨hc4, ht63, -, -⟩ := Ber.header_bound hh
  have hRlt := h.lt
  have hAlt := h.ltA (by rcases Nat.eq_zero_or_pos l.length with h0 | h0; · rw [List.length_eq_zero_iff.1 h0] at hh; simp [Ber.header, Ber.ident] at hh
                         · exact h0)
  have HHD := Lib.hid hhd
  have HH := Lib.hid hh
  have HR := Lib.hid h
  have hkc := known_cases hkn
  have HKN := Lib.hid hkn
  clear hhd hh h hkn hE
  go_enter Tryz.func110, Tryz.ntmps110
  go_wp2_with fail
  refine HHD.out.mono ?_
  rintro e w1 ⟨ho, hk⟩
  unfold HeadOut at ho
  rw [HH.out] at ho
  obtain ⟨k, rfl, hr1, hrest⟩ := ho
  simp only [lenInt, tagValue]
  have hsz1 := hk.size
  obtain ⟨x, hx⟩ : ∃ x : Nat, x = c * 64 := ⟨_, rfl⟩
  rw [← hx]
  have HX := Lib.hid hx
  have hRA := hr1
  have HO := Lib.hid (And.intro hr1 hrest)
  have HK := Lib.hid hk
  have h0 : ((startW w1 x 0 t).alloc (.cells #[] 5)).heap[w1.heap.size + 1]? = _ := (Below.heap_alloc _ _ _ (by rw [startW_size]; omega)).trans (startW_P w1 x 0 t)
  have hD0 : BufAt ((startW w1 x 0 t).alloc (.cells #[] 5)) (w1.heap.size + 1 + 1) none (Lib.byteCells []) := (startW_D w1 x 0 t).below ((Below.refl _ _).alloc (Nat.le_refl _) _)
  have hC0 : KidRow ((startW w1 x 0 t).alloc (.cells #[] 5)) (w1.heap.size + 1 + 1 + 1) 2 [] := (startW_C w1 x 0 t).stays (Below.heap_alloc _ _ _ (startW_C w1 x 0 t).lt)
  have hR0 : Rd ((startW w1 x 0 t).alloc (.cells #[] 5)) R A l (i + k) := ((((hRA.alloc _).alloc _).alloc _).alloc _).alloc _
  have hK0 : Keep w.heap.size R w ((startW w1 x 0 t).alloc (.cells #[] 5)) := hk.trans (Keep.ofBelow ((startW_below w1 x 0 t).trans ((Below.refl _ _).alloc (by rw [startW_size]; omega) _) |>.mono hsz1))
  have hRd0 : Reads ((startW w1 x 0 t).alloc (.cells #[] 5)) (Lib.byteCells []) (.slice (some ⟨w1.heap.size + 1 + 1 + 1 + 1, 0, none⟩) ([] : List UInt8).length 0) := ⟨_, 0, rfl, Or.inl rfl⟩
  have hsz0 : w.heap.size ≤ ((startW w1 x 0 t).alloc (.cells #[] 5)).heap.size := by rw [World.size_alloc, startW_size]; omega
  have hlim : ([] : List UInt8).length + ([] : List UInt8).length ≤ 140737488355328 := by simp
  have hsrc0 : ∀ j v, (Lib.byteCells ([] : List UInt8))[j]? = some v → ((startW w1 x 0 t).alloc (.cells #[] 5)).cell? ⟨w1.heap.size + 1 + 1 + 1 + 1, j, none⟩ = some v := fun j v hj => by simp [Lib.byteCells] at hj
  have hgb : w.heap.size ≤ w1.heap.size + 1 + 1 + 1 + 1 := by omega
  have hgl : w1.heap.size + 1 + 1 + 1 + 1 < ((startW w1 x 0 t).alloc (.cells #[] 5)).heap.size := by rw [World.size_alloc, startW_size]; omega
  have hdl : ([] : List UInt8).length < 1000000000000 := by simp
  have HSRC := Lib.hid hsrc0
  have HGB := Lib.hid hgb
  have HGL := Lib.hid hgl
  have HDL := Lib.hid hdl
  clear hsrc0 hgb hgl hdl
  have HRD := Lib.hid hRd0
  have HSZ0 := Lib.hid hsz0
  have HLIM := Lib.hid hlim
  have HREST := Lib.hid hrest
  have HP0 := Lib.hid h0
  have HD0 := Lib.hid hD0
  have HC0 := Lib.hid hC0
  have HR0 := Lib.hid hR0
  have HK0 := Lib.hid hK0
  clear hRd0 hsz0 hlim hr1 hrest hk hRA h0 hD0 hC0 hR0 hK0 hx
  have tx : ((x : Int) == 0) = true ∨ ((x : Int) == 0) = false := by cases ((x : Int) == 0) <;> simp
  rcases tx with tx | tx
  · have hc0 : c = 0 := by have := HX.out; simp at tx; omega
    subst hc0
    rcases hkc.resolve_left (fun h => h rfl) with ⟨-, hkt⟩
    rcases hkt with rfl | rfl | rfl | rfl | rfl | rfl
    all_goals
      go_wp2_with fail
      refine (write_bytes _ (w1.heap.size + 1 + 1) none [] ([] : List UInt8) _ HD0.out HRD.out HLIM.out).mono ?_
      rintro e w2 ⟨rfl, row2, hb2, hr2, hf2⟩
      have hp2 := (hf2.block _ (blockLt HP0.out) (by rintro (h | h); omega; cases h)).trans HP0.out
      have c23 := pk3 hp2
      have c22 := pk2 hp2
      have c24 := pk4 hp2
      have f23 := blockFrozen hp2 3
      have f24 := blockFrozen hp2 4
      have hB2 := Lib.hid hb2
      have hR2 := Lib.hid hr2
      have hF2 := Lib.hid hf2
      have hP2 := Lib.hid hp2
      have hF4 := fun W4 hbel => prim_fin (N := N) (W4 := W4) (data := ([] : List UInt8)) (G := (w1.heap.size + 1 + 1 + 1 + 1)) (cp := 0) (show (k : Int) = (k : Int) from rfl) ht63 HK0.out HR0.out HC0.out (blockLt HP0.out) (by rw [HX.out] at hp2; exact hp2) hb2 hr2 hf2 (by omega) (by omega) (by omega) (by omega) (by omega) (by omega) hRlt hAlt HGB.out HGL.out (by omega) (by omega) HSRC.out HREST.out hbel
      have hs3 : ∀ j v, (Lib.byteCells ([] : List UInt8))[j]? = some v → (w2.setCell ⟨w1.heap.size + 1, 4, none⟩ (.slice (some ⟨(w1.heap.size + 1 + 1 + 1 + 1), 0, none⟩) ([] : List UInt8).length 0)).cell? ⟨(w1.heap.size + 1 + 1 + 1 + 1), j, none⟩ = some v := fun j v hj =>
        (World.cell?_of_block (w := w2) (Below.heap_setCell _ _ _ _ (by show (w1.heap.size + 1 + 1 + 1 + 1) ≠ w1.heap.size + 1; omega))).trans ((hf2.cell (p := ⟨(w1.heap.size + 1 + 1 + 1 + 1), j, none⟩) HGL.out (by rintro (h | h); (show False); have h' : (w1.heap.size + 1 + 1 + 1 + 1) = w1.heap.size + 1 + 1 := h; omega; cases h)).trans (HSRC.out j v hj))
      have HF4 := Lib.hid hF4
      have HS3 := Lib.hid hs3
      clear hb2 hr2 hf2 hp2 hF4 hs3
      go_wp2_with fail
    · go_ret3
      exact (HF4.out _ (Below.refl _ _)).2.1 (valOf_none _ (Or.inl rfl))
    · refine (parse_all _ (w1.heap.size + 1 + 1 + 1 + 1) 0 ([] : List UInt8) HDL.out HS3.out).mono ?_
      rintro e w4 ⟨⟨ev, rfl⟩, hbel⟩
      obtain ⟨hE, -, c43, f43⟩ := HF4.out w4 hbel
      have HE := Lib.hid hE
      clear hE hbel
      go_wp2
      go_ret3
      exact HE.out
    · refine (parse_all _ (w1.heap.size + 1 + 1 + 1 + 1) 0 ([] : List UInt8) HDL.out HS3.out).mono ?_
      rintro e w4 ⟨⟨ev, rfl⟩, hbel⟩
      obtain ⟨hE, -, c43, f43⟩ := HF4.out w4 hbel
      have HE := Lib.hid hE
      clear hE hbel
      go_wp2
      go_ret3
      exact HE.out
    · refine (decode_any _ (w1.heap.size + 1 + 1 + 1 + 1) 0 ([] : List UInt8) HS3.out).mono ?_
      rintro e w4 ⟨rfl, rfl⟩
      obtain ⟨hE, -, c43, f43⟩ := HF4.out _ (Below.refl _ _)
      have HE := Lib.hid hE
      clear hE
      go_wp2
      go_ret3
      exact HE.out
    · go_ret3
      exact (HF4.out _ (Below.refl _ _)).2.1 (valOf_none _ (Or.inr rfl))
    · refine (parse_all _ (w1.heap.size + 1 + 1 + 1 + 1) 0 ([] : List UInt8) HDL.out HS3.out).mono ?_
      rintro e w4 ⟨⟨ev, rfl⟩, hbel⟩
      obtain ⟨hE, -, c43, f43⟩ := HF4.out w4 hbel
      have HE := Lib.hid hE
      clear hE hbel
      go_wp2
      go_ret3
      exact HE.out
  · have hc0 : c ≠ 0 := by have := HX.out; simp at tx; omega
    go_wp2_with fail
    refine (write_bytes ((startW w1 x 0 t).alloc (.cells #[] 5)) (w1.heap.size + 1 + 1) none [] ([] : List UInt8) _ HD0.out HRD.out HLIM.out).mono ?_
    rintro e w2 ⟨rfl, row2, hb2, hr2, hf2⟩
    have hp2 := (hf2.block _ (blockLt HP0.out) (by rintro (h | h); omega; cases h)).trans HP0.out
    have hE := prim_end (N := N) (w := w) (i := i) (kk := k) (rest := rest) (c := c) (t := t) (data := ([] : List UInt8)) (row := row2) (bv := .slice none 0 0) (show (k : Int) = (k : Int) from rfl) hc4 ht63 HK0.out HR0.out HC0.out (hf2.weaken (by rintro i _ (h | h); exact Or.inr h; cases h)) (by rw [← HX.out]; simpa [valOf, hc0] using hp2) hb2
      (by rintro g rfl; rcases hr2 with h | ⟨g', h, h'⟩; cases h; rw [Option.some.inj h]; have := HSZ0.out; omega) (by omega) (by omega) (by omega) (by omega) (by omega) hRlt hAlt (Or.inl ⟨hc0, rfl⟩) HREST.out
    have HE := Lib.hid hE
    clear hE hb2 hr2 hf2 hp2
    go_wp2
    go_ret3
    exact HE.out
end Go.Proofs.YtjmahgefijncaaaGreatFmt

/- readPacket of a primitive packet of some contents. -/
namespace Go.Proofs.YtjmahgefijncaaaGreatFmt
open Go Go.RowKit

theorem nil_or {rest : List UInt8} {l : List UInt8} {j : Nat} (h : rest = l.drop j) : rest.length = l.length - j := by rw [h, List.length_drop]

set_option maxRecDepth 100000 in
set_option maxHeartbeats 16000000 in
theorem pack_some0 (N : Nat) (w : World) (R A : Nat) (l : List UInt8) (i : Nat) (h : Rd w R A l i) (hE : Env N w) (hN : N ≤ R) (d : Nat) (hd : d < 1000) (c t n : Nat) (rest0 data rest : List UInt8)
    (hh : Ber.header (l.drop i) = some (c, false, t, some n, rest0)) (hkn : Ber.known c t = true) (hn0 : 0 < n) (hn480 : n ≤ 480) (hlen : n ≤ rest0.length) (hdata : data = rest0.take n) (hrst : rest = rest0.drop n) :
    Calls Tryz.prog 110 #[.iface 157 (.pointer (some ⟨R, 0, none⟩)), .int .i64 d] w fun e w' => PackOut N w.heap.size R A l i (.ok (.mk c false t data []) rest) e w' ∧ Keep w.heap.size R w w' := by
  have hdl : data.length = n := by rw [hdata, List.length_take]; omega
  subst hdl
  have hhd := head_any N w R A l i h hE hN
  have hm2 := make2
  have hdi : decide ((d : Int) ≥ 1000) = false := by simp; omega
  obtain ⟨hc4, ht63, -, -⟩ := Ber.header_bound hh
  have hRlt := h.lt
  have hAlt := h.ltA (by rcases Nat.eq_zero_or_pos l.length with h0 | h0; · rw [List.length_eq_zero_iff.1 h0] at hh; simp [Ber.header, Ber.ident] at hh
                         · exact h0)
  have HHD := Lib.hid hhd
  have HH := Lib.hid hh
  have hkc := known_cases hkn
  have HKN := Lib.hid hkn
  have HE := Lib.hid hE
  have HLEN := Lib.hid hlen
  have HDT := Lib.hid hdata
  have HRST := Lib.hid hrst
  clear hhd hh h hkn hE hlen hdata hrst
  go_enter Tryz.func110, Tryz.ntmps110
  go_wp2_with fail
  refine HHD.out.mono ?_
  rintro e w1 ⟨ho, hk⟩
  unfold HeadOut at ho
  rw [HH.out] at ho
  obtain ⟨k, rfl, hr1, hrest⟩ := ho
  simp only [lenInt, tagValue]
  have hsz1 := hk.size
  obtain ⟨x, hx⟩ : ∃ x : Nat, x = c * 64 := ⟨_, rfl⟩
  rw [← hx]
  have HX := Lib.hid hx
  have hrl := nil_or hrest
  have hlr : i + k < l.length ∧ data.length ≤ l.length - (i + k) := by have := HLEN.out; rw [hrl] at this; omega
  obtain ⟨kk, hkk⟩ : ∃ kk, kk = k + data.length := ⟨_, rfl⟩
  have hkm : (k : Int) + (data.length : Int) = (kk : Int) := by omega
  have HKM := Lib.hid hkm
  clear hkm
  have hk9 : k < 1000000000 := by have := hr1.len; omega
  have HRR := Lib.hid hrest
  have HK := Lib.hid hk
  -- the limited reader
  have hLl : ((startW w1 x 0 t).alloc (.cells #[.iface 157 (.pointer (some ⟨R, 0, none⟩)), .int .i64 data.length] 215)).heap[w1.heap.size + 1 + 1 + 1 + 1]? = some (.cells #[.iface 157 (.pointer (some ⟨R, 0, none⟩)), .int .i64 data.length] 215 (0, 0)) := by
    have := heap_alloc_new (startW w1 x 0 t) (.cells #[.iface 157 (.pointer (some ⟨R, 0, none⟩)), .int .i64 data.length] 215)
    rw [startW_size] at this
    exact this
  have hszl : ((startW w1 x 0 t).alloc (.cells #[.iface 157 (.pointer (some ⟨R, 0, none⟩)), .int .i64 data.length] 215)).heap.size = w1.heap.size + 1 + 1 + 1 + 1 + 1 := by rw [World.size_alloc, startW_size]
  have hkl : Keep w.heap.size R w ((startW w1 x 0 t).alloc (.cells #[.iface 157 (.pointer (some ⟨R, 0, none⟩)), .int .i64 data.length] 215)) := hk.trans (Keep.ofBelow ((startW_below w1 x 0 t).trans ((Below.refl _ _).alloc (by rw [startW_size]; omega) _) |>.mono hsz1))
  have hall := all_some N ((startW w1 x 0 t).alloc (.cells #[.iface 157 (.pointer (some ⟨R, 0, none⟩)), .int .i64 data.length] 215)) (w1.heap.size + 1 + 1 + 1 + 1) R A l (i + k) (((((hr1.alloc _).alloc _).alloc _).alloc _).alloc _) hlr.1 data.length hLl hn0 (by omega) (HE.out.keep hkl (by omega) hN) hN (by omega) (by omega) data.length (by omega) hn480
  rw [hszl] at hall
  have hall2 : Calls Tryz.prog 121 #[.iface 213 (.pointer (some ⟨w1.heap.size + 1 + 1 + 1 + 1, 0, none⟩))] ((startW w1 x 0 t).alloc (.cells #[.iface 157 (.pointer (some ⟨R, 0, none⟩)), .int .i64 data.length] 215)) fun e w' =>
      e = .returned (.tuple #[.slice (some ⟨w1.heap.size + 1 + 1 + 1 + 1 + 1, 0, none⟩) data.length 512, .nilIface]) ∧
      (w'.heap[w1.heap.size + 1]? = some (.cells (PkCells x 0 t .nilIface (.slice none 0 0) (w1.heap.size + 1 + 1) (.slice (some ⟨w1.heap.size + 1 + 1 + 1, 0, none⟩) 0 2) (.string ⟨#[]⟩)) 171 (0, 0)) ∧
       BufAt w' (w1.heap.size + 1 + 1) none (Lib.byteCells []) ∧ KidRow w' (w1.heap.size + 1 + 1 + 1) 2 [] ∧ Rd w' R A l (i + kk) ∧ Keep w.heap.size R w w' ∧
       Reads w' (Lib.byteCells data) (.slice (some ⟨w1.heap.size + 1 + 1 + 1 + 1 + 1, 0, none⟩) data.length 512) ∧
       (∀ j v, (Lib.byteCells data)[j]? = some v → w'.cell? ⟨w1.heap.size + 1 + 1 + 1 + 1 + 1, j, none⟩ = some v) ∧ w1.heap.size + 1 + 1 + 1 + 1 + 1 < w'.heap.size) := by
    refine hall.mono fun e w' ⟨he, hkp, hrd, hrow⟩ => ?_
    have hst : ∀ q, q < w1.heap.size + 1 + 1 + 1 + 1 → q ≠ R → w'.heap[q]? = (startW w1 x 0 t).heap[q]? := fun q hq hqR => (hkp.block q hq hqR).trans (Below.heap_alloc _ _ _ (by rw [startW_size]; omega))
    have hcs : ∀ j v, (Lib.byteCells data)[j]? = some v → w'.cell? ⟨w1.heap.size + 1 + 1 + 1 + 1 + 1, j, none⟩ = some v := by
      intro j v hj
      rw [blockCell hrow j, List.getElem?_toArray]
      have hd2 : Lib.byteCells data = Lib.byteCells ((l.drop (i + k)).take data.length) := by have h1 := HDT.out; rw [HRR.out] at h1; exact congrArg _ h1
      rw [← hd2]
      have hjl := (List.getElem?_eq_some_iff.1 hj).1
      simp only [splice, List.take_zero, List.nil_append, Nat.zero_add]
      rw [List.getElem?_append_left hjl]
      exact hj
    refine ⟨he, (hst _ (by omega) (by omega)).trans (startW_P w1 x 0 t), (startW_D w1 x 0 t).kept (hst _ (by omega) (by omega)) (fun g e => by cases e), (startW_C w1 x 0 t).stays (hst _ (by omega) (by omega)), by rw [hkk, ← Nat.add_assoc]; exact hrd, hkl.trans (hkp.mono (by omega)), ?_, hcs, blockLt hrow⟩
    exact ⟨_, 512, by rw [cells_length], Or.inr ⟨_, rfl, ⟨_, hrow⟩, hcs⟩⟩
  have hnb : decide ((data.length : Int) > 2147483647) = false := by simp; omega
  have hn1 : ((data.length : Int) != -1) = true := by rw [bne_iff_ne]; omega
  have hn2 : ((data.length : Int) == -1) = false := by rw [beq_eq_false_iff_ne]; omega
  have hn3 : decide ((data.length : Int) > 0) = true := by simp; omega
  have hn4 : decide ((data.length : Int) < (data.length : Int)) = false := by simp
  have hrest' : rest = l.drop (i + kk) := by rw [HRST.out, HRR.out, List.drop_drop, hkk]; congr 1; omega
  have hgb : w.heap.size ≤ w1.heap.size + 1 + 1 + 1 + 1 + 1 := by omega
  have hlim : ([] : List UInt8).length + data.length ≤ 140737488355328 := by simp; omega
  have hdll : data.length < 1000000000000 := by omega
  have HALL := Lib.hid hall2
  have HGB := Lib.hid hgb
  have HLIM := Lib.hid hlim
  have HDL := Lib.hid hdll
  have HREST := Lib.hid hrest'
  have HKK := Lib.hid hkk
  clear hr1 hrest hk hx hLl hszl hkl hall hall2 hrest' hgb hlim hdll hlr hrl hkk
  go_wp2_with fail
  refine (limit_any _ R data.length).mono ?_
  rintro e w3 ⟨rfl, rfl⟩
  go_wp2_with fail
  refine HALL.out.mono ?_
  rintro e w5 ⟨rfl, hP5, hD5, hC5, hR5, hK5, hRd5, hS5, hG5⟩
  have HP0 := Lib.hid hP5
  have HD0 := Lib.hid hD5
  have HC0 := Lib.hid hC5
  have HR0 := Lib.hid hR5
  have HK0 := Lib.hid hK5
  have HRD := Lib.hid hRd5
  have HSRC := Lib.hid hS5
  have HGL := Lib.hid hG5
  have hsz5 : w.heap.size ≤ w5.heap.size := hK5.size
  have HSZ0 := Lib.hid hsz5
  have p51 := pk1 hP5
  have p50 := pk0 hP5
  have p55 := pk5 hP5
  clear hP5 hD5 hC5 hR5 hK5 hRd5 hS5 hG5 hsz5
  have tx : ((x : Int) == 0) = true ∨ ((x : Int) == 0) = false := by cases ((x : Int) == 0) <;> simp
  rcases tx with tx | tx
  · have hc0 : c = 0 := by have := HX.out; simp at tx; omega
    subst hc0
    rcases hkc.resolve_left (fun h => h rfl) with ⟨-, hkt⟩
    rcases hkt with rfl | rfl | rfl | rfl | rfl | rfl
    all_goals
      go_wp2_with fail
      refine (write_bytes _ (w1.heap.size + 1 + 1) none [] data _ HD0.out HRD.out HLIM.out).mono ?_
      rintro e w2 ⟨rfl, row2, hb2, hr2, hf2⟩
      have hp2 := (hf2.block _ (blockLt HP0.out) (by rintro (h | h); omega; cases h)).trans HP0.out
      have c23 := pk3 hp2
      have c22 := pk2 hp2
      have c24 := pk4 hp2
      have f23 := blockFrozen hp2 3
      have f24 := blockFrozen hp2 4
      have hB2 := Lib.hid hb2
      have hR2 := Lib.hid hr2
      have hF2 := Lib.hid hf2
      have hP2 := Lib.hid hp2
      have hF4 := fun W4 hbel => prim_fin (N := N) (W4 := W4) (data := data) (G := (w1.heap.size + 1 + 1 + 1 + 1 + 1)) (cp := 512) HKM.out ht63 HK0.out HR0.out HC0.out (blockLt HP0.out) (by rw [HX.out] at hp2; exact hp2) hb2 hr2 hf2 (by omega) (by omega) (by omega) (by omega) (by omega) (by omega) hRlt hAlt HGB.out HGL.out (by omega) (by omega) HSRC.out HREST.out hbel
      have hs3 : ∀ j v, (Lib.byteCells data)[j]? = some v → (w2.setCell ⟨w1.heap.size + 1, 4, none⟩ (.slice (some ⟨(w1.heap.size + 1 + 1 + 1 + 1 + 1), 0, none⟩) data.length 512)).cell? ⟨(w1.heap.size + 1 + 1 + 1 + 1 + 1), j, none⟩ = some v := fun j v hj =>
        (World.cell?_of_block (w := w2) (Below.heap_setCell _ _ _ _ (by show (w1.heap.size + 1 + 1 + 1 + 1 + 1) ≠ w1.heap.size + 1; omega))).trans ((hf2.cell (p := ⟨(w1.heap.size + 1 + 1 + 1 + 1 + 1), j, none⟩) HGL.out (by rintro (h | h); (show False); have h' : (w1.heap.size + 1 + 1 + 1 + 1 + 1) = w1.heap.size + 1 + 1 := h; omega; cases h)).trans (HSRC.out j v hj))
      have HF4 := Lib.hid hF4
      have HS3 := Lib.hid hs3
      clear hb2 hr2 hf2 hp2 hF4 hs3
      go_wp2_with fail
    · go_ret3
      exact (HF4.out _ (Below.refl _ _)).2.1 (valOf_none _ (Or.inl rfl))
    · refine (parse_all _ (w1.heap.size + 1 + 1 + 1 + 1 + 1) 512 data HDL.out HS3.out).mono ?_
      rintro e w4 ⟨⟨ev, rfl⟩, hbel⟩
      obtain ⟨hE, -, c43, f43⟩ := HF4.out w4 hbel
      have HE := Lib.hid hE
      clear hE hbel
      go_wp2
      go_ret3
      exact HE.out
    · refine (parse_all _ (w1.heap.size + 1 + 1 + 1 + 1 + 1) 512 data HDL.out HS3.out).mono ?_
      rintro e w4 ⟨⟨ev, rfl⟩, hbel⟩
      obtain ⟨hE, -, c43, f43⟩ := HF4.out w4 hbel
      have HE := Lib.hid hE
      clear hE hbel
      go_wp2
      go_ret3
      exact HE.out
    · refine (decode_any _ (w1.heap.size + 1 + 1 + 1 + 1 + 1) 512 data HS3.out).mono ?_
      rintro e w4 ⟨rfl, rfl⟩
      obtain ⟨hE, -, c43, f43⟩ := HF4.out _ (Below.refl _ _)
      have HE := Lib.hid hE
      clear hE
      go_wp2
      go_ret3
      exact HE.out
    · go_ret3
      exact (HF4.out _ (Below.refl _ _)).2.1 (valOf_none _ (Or.inr rfl))
    · refine (parse_all _ (w1.heap.size + 1 + 1 + 1 + 1 + 1) 512 data HDL.out HS3.out).mono ?_
      rintro e w4 ⟨⟨ev, rfl⟩, hbel⟩
      obtain ⟨hE, -, c43, f43⟩ := HF4.out w4 hbel
      have HE := Lib.hid hE
      clear hE hbel
      go_wp2
      go_ret3
      exact HE.out
  · have hc0 : c ≠ 0 := by have := HX.out; simp at tx; omega
    go_wp2_with fail
    refine (write_bytes w5 (w1.heap.size + 1 + 1) none [] data _ HD0.out HRD.out HLIM.out).mono ?_
    rintro e w2 ⟨rfl, row2, hb2, hr2, hf2⟩
    have hp2 := (hf2.block _ (blockLt HP0.out) (by rintro (h | h); omega; cases h)).trans HP0.out
    have hE := prim_end (N := N) (w := w) (i := i) (kk := kk) (rest := rest) (c := c) (t := t) (data := data) (row := row2) (bv := .slice none 0 0) HKM.out hc4 ht63 HK0.out HR0.out HC0.out (hf2.weaken (by rintro i _ (h | h); exact Or.inr h; cases h)) (by rw [← HX.out]; simpa [valOf, hc0] using hp2) hb2
      (by rintro g rfl; rcases hr2 with h | ⟨g', h, h'⟩; cases h; rw [Option.some.inj h]; have := HSZ0.out; omega) (by omega) (by omega) (by omega) (by omega) (by omega) hRlt hAlt (Or.inl ⟨hc0, rfl⟩) HREST.out
    have HE := Lib.hid hE
    clear hE hb2 hr2 hf2 hp2
    go_wp2
    go_ret3
    exact HE.out



theorem pack_some (N : Nat) (w : World) (R A : Nat) (l : List UInt8) (i : Nat) (h : Rd w R A l i) (hE : Env N w) (hN : N ≤ R) (d : Nat) (hd : d < 1000) (c t n : Nat) (rest : List UInt8)
    (hh : Ber.header (l.drop i) = some (c, false, t, some n, rest)) (hkn : Ber.known c t = true) (hn0 : 0 < n) (hn480 : n ≤ 480) (hlen : n ≤ rest.length) :
    Calls Tryz.prog 110 #[.iface 157 (.pointer (some ⟨R, 0, none⟩)), .int .i64 d] w fun e w' => PackOut N w.heap.size R A l i (.ok (.mk c false t (rest.take n) []) (rest.drop n)) e w' ∧ Keep w.heap.size R w w' :=
  pack_some0 N w R A l i h hE hN d hd c t n rest _ _ hh hkn hn0 hn480 hlen rfl rfl
end Go.Proofs.YtjmahgefijncaaaGreatFmt

/- Values written as '#04..': the hexadecimal digits of an octet string in BER. -/
namespace Go.Proofs.YtjmahgefijncaaaGreatFmt
open Go Go.RowKit

/-- The octet string that a text of hexadecimal digits holds: tag, length (below 128), contents. -/
def octVal (t : List UInt8) : Option (List UInt8) :=
  match Lib.Hx.decode t with
  | (4 :: n :: v, .ok) => if n.toNat = v.length ∧ v.length < 128 then some v else none
  | _ => none
def hashVal (l : List UInt8) : Option (List UInt8) := if l[0]? = some 35 then octVal (l.drop 1) else Nm.decode l

theorem octVal_form {t v : List UInt8} (h : octVal t = some v) : ∃ n : UInt8, Lib.Hx.decode t = (4 :: n :: v, .ok) ∧ n.toNat = v.length ∧ v.length < 128 := by
  unfold octVal at h
  split at h
  · rename_i n u hd
    split at h
    · rename_i hc
      obtain rfl := Option.some.inj h
      exact ⟨n, hd, hc.1, hc.2⟩
    · cases h
  · cases h

theorem hexB_dec : ∀ c : Nat, c < 256 → (match NT.hexB (UInt8.ofNat c) with | [p, q] => decide (Lib.Hx.v p ≤ 15 ∧ Lib.Hx.v q ≤ 15 ∧ Lib.Hx.v p * 16 + Lib.Hx.v q = c) | _ => false) = true := by decide +kernel
theorem decode_hexB (c : UInt8) (r : List UInt8) : Lib.Hx.decode (NT.hexB c ++ r) = (c :: (Lib.Hx.decode r).1, (Lib.Hx.decode r).2) := by
  have h := hexB_dec c.toNat c.toNat_lt
  rw [UInt8.ofNat_toNat] at h
  have e : NT.hexB c = [(NT.hexB c)[0]!, (NT.hexB c)[1]!] := rfl
  generalize (NT.hexB c)[0]! = p at e
  generalize (NT.hexB c)[1]! = q at e
  rw [e] at h ⊢
  simp only [decide_eq_true_eq] at h
  obtain ⟨h1, h2, h3⟩ := h
  show Lib.Hx.decode (p :: q :: r) = _
  rw [Lib.Hx.decode_two, if_neg (by omega), if_neg (by omega), h3, UInt8.ofNat_toNat]
theorem decode_hexs : ∀ l : List UInt8, Lib.Hx.decode (l.flatMap NT.hexB) = (l, .ok)
  | [] => Lib.Hx.decode_nil
  | c :: r => by
    rw [List.flatMap_cons, decode_hexB, decode_hexs r]
theorem octVal_hash (v : List UInt8) (h : v.length < 128) : octVal ((NT.hashText v).drop 1) = some v := by
  have e : (NT.hashText v).drop 1 = ((4 : UInt8) :: v.length.toUInt8 :: v).flatMap NT.hexB := by
    simp only [NT.hashText, List.flatMap_cons]
    rfl
  unfold octVal
  rw [e, decode_hexs]
  have : v.length.toUInt8.toNat = v.length := by
    show v.length % 256 = v.length
    omega
  simp only [this, true_and]
  rw [if_pos h]
theorem hash_ok (st : Nat → UInt8) : NT.ValOK hashVal st :=
  ⟨fun t h => by unfold hashVal; rw [if_neg h], fun _ v h => by
    unfold hashVal
    rw [if_pos (by simp [NT.hashText])]
    exact octVal_hash v h⟩

/-- bytes.NewBuffer. -/
theorem newbuf_any (p : Option Addr) (n c : Nat) (w : World) :
    Calls Tryz.prog 98 #[.slice p n c] w fun e w' => e = .returned (.pointer (some ⟨w.heap.size, 0, none⟩)) ∧ w.alloc (.cells #[.slice p n c, .int .i64 0, .int .i8 0] 183) = w' := by
  go_enter Tryz.func98, Tryz.ntmps98
  go_wp2
  go_ret
  exact ⟨rfl, rfl⟩

/-- Len of a buffer that is read to its end. -/
theorem len_end_buf (w : World) (R A : Nat) (l : List UInt8) (h : Rd w R A l l.length) :
    Calls Tryz.prog 100 #[.pointer (some ⟨R, 0, none⟩)] w fun e w' => e = .returned (.int .i64 0) ∧ Same w w' := by
  obtain ⟨m, cap, hm, hb⟩ : ∃ (m cap : Nat), m ≤ 1000000000 ∧ ∃ (pr : Int), w.heap[R]? = some (.cells #[.slice (some ⟨A, 0, none⟩) m cap, .int .i64 m, .int .i8 pr] 183 (0, 0)) := by
    have := h.len
    rcases h.blk with ⟨cap, pr, _, hb⟩ | ⟨_, cap, pr, hb⟩
    · exact ⟨_, cap, by omega, pr, hb⟩
    · exact ⟨0, cap, by omega, pr, hb⟩
  obtain ⟨pr, hb⟩ := hb
  have c0 : w.cell? ⟨R, 0, none⟩ = some (.slice (some ⟨A, 0, none⟩) m cap) := blockCell hb 0
  have c1 : w.cell? ⟨R, 1, none⟩ = some (.int .i64 m) := blockCell hb 1
  clear hb h
  go_enter Tryz.func100, Tryz.ntmps100
  go_wp2
  go_quiet (fail)
  go_wp2
  go_ret
  exact ⟨by simp, (Same.refl w).drewN _⟩

/-- ReadPacket of an octet string that is all there is. -/
theorem read_oct (N : Nat) (w : World) (R A : Nat) (n : UInt8) (v l : List UInt8) (hlv : l = 4 :: n :: v) (h : Rd w R A l 0) (hE : Env N w) (hN : N ≤ R) (hn : n.toNat = v.length) (hv : v.length < 128) :
    Calls Tryz.prog 99 #[.iface 157 (.pointer (some ⟨R, 0, none⟩))] w fun e w' => (∃ q, e = .returned (.tuple #[.pointer (some ⟨q, 0, none⟩), .nilIface]) ∧ Tree w' q (.mk 0 false 4 v [])) ∧
      Rd w' R A l l.length ∧ Keep w.heap.size R w w' := by
  have hh : Ber.header (l.drop 0) = some (0, false, 4, some v.length, v) := by
    subst hlv
    have h1 : Ber.lenOf (n :: v) = some (some v.length, v) := by
      simp only [Ber.lenOf, hn]
      rw [if_neg (by omega), if_neg (by omega), if_pos hv]
    simp [Ber.header, Ber.ident, h1]
  have hp : Calls Tryz.prog 110 #[.iface 157 (.pointer (some ⟨R, 0, none⟩)), .int .i64 (0 : Nat)] w fun e w' => PackOut N w.heap.size R A l 0 (.ok (.mk 0 false 4 v []) []) e w' ∧ Keep w.heap.size R w w' := by
    rcases Nat.eq_zero_or_pos v.length with h0 | h0
    · obtain rfl : v = [] := List.length_eq_zero_iff.1 h0
      exact pack_zero N w R A _ 0 h hE hN 0 (by omega) 0 4 [] hh (by rfl)
    · have := pack_some N w R A _ 0 h hE hN 0 (by omega) 0 4 v.length v hh (by rfl) h0 (by omega) (Nat.le_refl _)
      rw [List.take_length, List.drop_length] at this
      exact this
  have HP := Lib.hid hp
  clear hp hh h hE
  go_enter Tryz.func99, Tryz.ntmps99
  go_wp2_with fail
  refine HP.out.mono ?_
  rintro e w1 ⟨hpo, hk⟩
  obtain ⟨q, k, rfl, _, hst, hr, hrest⟩ := hpo
  have hkl : l.length = 0 + k := by
    have h1 := hr.pos
    have h2 := congrArg List.length hrest
    rw [List.length_drop, List.length_nil] at h2
    omega
  have hend : Rd w1 R A l l.length := by rw [← hkl] at hr; exact hr
  have HF := Lib.hid (And.intro hst.now (And.intro hend hk))
  clear hst hr hrest hkl hend hk HP
  go_wp2_with fail
  go_ret2
  exact ⟨⟨q, rfl, HF.out.1⟩, HF.out.2⟩

/-- hex.DecodeString of digits in pairs. -/
theorem hexs_some (t l : List UInt8) (hd : Lib.Hx.decode t = (l, .ok)) (ht : t.length < 100000000) (w : World) (ev : Value) (hE : w.cell? ⟨1, 0, none⟩ = some ev) :
    Calls Tryz.prog 97 #[.string (Nm.bs t)] w fun e w' => ∃ cap, e = .returned (.tuple #[.slice (some ⟨w.heap.size, 0, none⟩) l.length cap, .nilIface]) ∧ l.length ≤ cap ∧
      (∀ j v, (Lib.byteCells l)[j]? = some v → w'.cell? ⟨w.heap.size, j, none⟩ = some v) ∧ Below w.heap.size w w' := by
  have htl : (Nm.bs t).data.toList = t := rfl
  have h := Tryz.hex_DecodeString (Nm.bs t) w ev hE (by rw [bs_size]; omega)
  have hle := Lib.Hx.decode_len t
  rw [htl, hd] at h
  rw [hd] at hle
  have hle : l.length ≤ t.length / 2 := hle
  have hsz := bs_size t
  refine h.mono ?_
  rintro e w1 ⟨rfl, hrow, hb⟩
  refine ⟨_, rfl, by rw [hsz]; exact hle, fun j v hj => ?_, hb⟩
  simp only [Lib.byteCells, List.getElem?_map, Option.map_eq_some_iff] at hj
  obtain ⟨b, hj, rfl⟩ := hj
  obtain ⟨hjl, rfl⟩ := List.getElem?_eq_some_iff.1 hj
  refine (hrow.cell (i := j) (by rw [hsz]; exact Nat.lt_of_lt_of_le hjl hle)).trans ?_
  unfold Lib.Hx.rowP
  rw [if_pos ⟨Nat.zero_le _, by rw [Nat.zero_add]; exact hjl⟩, Nat.sub_zero]
  show some (Value.int .u8 ((l[j]?.getD 0).toNat : Int)) = _
  rw [hj]
  rfl

set_option maxRecDepth 100000 in
set_option maxHeartbeats 8000000 in
/-- decodeEncodedString. -/
theorem enc_some (t v : List UInt8) (hl : t.length < 100000000) (hv : octVal t = some v) (w : World) (ev : Value) (hE : w.cell? ⟨1, 0, none⟩ = some ev) (hN : Env w.heap.size w) :
    Calls Tryz.prog 86 #[.string (Nm.bs t)] w fun e w' => e = .returned (.tuple #[.string (Nm.bs v), .nilIface]) ∧ Below w.heap.size w w' := by
  obtain ⟨n, hd, hn, hv128⟩ := octVal_form hv
  obtain ⟨l, hlv⟩ : ∃ l, l = 4 :: n :: v := ⟨_, rfl⟩
  rw [← hlv] at hd
  have hm : l.length ≤ 130 := by rw [hlv]; simp; omega
  have HD := Lib.hid (hexs_some t l hd hl w ev hE)
  have HLV := Lib.hid hlv
  have HENV := Lib.hid hN
  have HN := Lib.hid (And.intro hn hv128)
  clear hd hv hE hlv hN hn hv128
  go_enter Tryz.func86, Tryz.ntmps86
  go_wp2_with fail
  refine HD.out.mono ?_
  rintro e w1 ⟨cap, rfl, hcap, hrow, hb1⟩
  have hs1 := hb1.size
  have hAlt : l.length ≠ 0 → w.heap.size < w1.heap.size := fun h0 => by
    obtain ⟨b, r, e⟩ : ∃ b r, l = b :: r := by cases hx : l with | nil => rw [hx] at h0; simp at h0 | cons b r => exact ⟨b, r, rfl⟩
    exact World.block_lt_of_cell? w1 ⟨w.heap.size, 0, none⟩ (hrow 0 (.int .u8 b.toNat) (by rw [e]; simp [Lib.byteCells]))
  have hA1 : w.heap.size < w1.heap.size := hAlt (by rw [HLV.out]; simp)
  have HROW := Lib.hid hrow
  have HB1 := Lib.hid hb1
  clear hrow hb1 hAlt HD
  go_wp2_with fail
  refine (newbuf_any _ _ _ w1).mono ?_
  rintro e w2 ⟨rfl, hw2⟩
  have hb2 : Below w.heap.size w w2 := by rw [← hw2]; exact HB1.out.alloc hs1 _
  have hs2 : w2.heap.size = w1.heap.size + 1 := by rw [← hw2]; simp
  have hrd : Rd w2 w1.heap.size w.heap.size l 0 := by
    refine ⟨Or.inl ⟨cap, 0, hcap, by rw [← hw2]; exact heap_alloc_new _ _⟩, fun j v hj => ?_, by omega, Nat.zero_le _, by omega⟩
    rw [← hw2]
    exact cell_alloc (HROW.out j v hj) _
  have HR := Lib.hid (read_oct w.heap.size w2 w1.heap.size w.heap.size n v l HLV.out hrd (HENV.out.below hb2 (Nat.le_refl _)) hs1 HN.out.1 HN.out.2)
  have HB2 := Lib.hid hb2
  have hlt2 : w1.heap.size < w2.heap.size := by omega
  clear hrd hw2 hb2 hs2 HROW HB1 HENV
  generalize w1.heap.size = R at *
  go_wp2_with fail
  refine HR.out.mono ?_
  rintro e w3 ⟨⟨q, rfl, htree⟩, hend, hk3⟩
  have hb3 : Below w.heap.size w w3 := HB2.out.trans ((hk3.mono (Nat.le_trans hs1 (Nat.le_of_lt hlt2))).toBelow hs1)
  have HLEN := Lib.hid (len_end_buf w3 R _ l hend)
  obtain ⟨D, row, C, cp, bv, xs, _, _, hq, hbuf, _⟩ := htree
  have cD : w3.cell? ⟨q, 5, none⟩ = some (.pointer (some ⟨D, 0, none⟩)) := blockCell hq 5
  have HS := Lib.hid (fun w4 (hs : Same w3 w4) => Tryz.Buffer_String 0 D v w4 (show Lib.IsBuffer _ _ 0 D (Lib.byteCells v) w4 from (hbuf.kept (by rw [hs.heap]) (fun g _ => by rw [hs.heap])).isBuffer))
  have HB3 := Lib.hid hb3
  clear hend hk3 hb3 hq hbuf HR HB2
  go_wp2_with fail
  refine HLEN.out.mono ?_
  rintro e w4 ⟨rfl, hs4⟩
  have cD4 : w4.cell? ⟨q, 5, none⟩ = some (.pointer (some ⟨D, 0, none⟩)) := (hs4.cell _).trans cD
  have HST := Lib.hid (HS.out w4 hs4)
  have HB4 := Lib.hid (HB3.out.trans ((hs4.keep w3.heap.size w3.heap.size).toBelow (Nat.le_refl _) |>.mono HB3.out.size))
  clear cD hs4 HS HLEN
  go_wp2_with fail
  refine HST.out.mono ?_
  rintro e w5 ⟨rfl, k, rfl⟩
  go_wp2_with fail
  go_ret2
  exact ⟨rfl, ⟨HB4.out.os, HB4.out.tape, HB4.out.output, HB4.out.size, HB4.out.block⟩⟩

set_option maxRecDepth 100000 in
set_option maxHeartbeats 1000000 in
/-- setValue behind a number sign. -/
theorem value_hash (l : List UInt8) (hl : l.length < 100000000) (h35 : l[0]? = some 35) (v : List UInt8) (hv : octVal (l.drop 1) = some v) (w : World) (ev : Value) (hE : w.cell? ⟨1, 0, none⟩ = some ev) (hN : Env w.heap.size w) (A : Nat) (s0 s1 : Value)
    (hA : w.heap[A]? = some (.cells #[s0, s1] 120 (0, 0))) :
    Calls Tryz.prog 70 #[.pointer (some ⟨A, 0, none⟩), .string (Nm.bs l)] w fun e w' => e = .returned .nilIface ∧ w'.heap[A]? = some (.cells #[s0, .string (Nm.bs v)] 120 (0, 0)) ∧ Keep w.heap.size A w w' := by
  obtain ⟨t, ht⟩ : ∃ t, t = l.drop 1 := ⟨_, rfl⟩
  have htl : t.length < 100000000 := by rw [ht]; simp; omega
  rw [← ht] at hv
  have hC := Lib.hid (enc_some t v htl hv w ev hE hN)
  have hAlt := blockLt hA
  have HA := Lib.hid hA
  have hsz := bs_size l
  have hpos : 0 < l.length := by
    rcases Nat.eq_zero_or_pos l.length with h | h
    · rw [List.getElem?_eq_none (by omega)] at h35; cases h35
    · exact h
  have hlt : 0 < (Nm.bs l).size := by omega
  have hget : ((Nm.bs l)[0]'hlt).toNat = 35 := by
    rw [bs_get]
    have := List.getElem?_eq_some_iff.1 h35
    obtain ⟨_, e⟩ := this
    rw [e]; rfl
  have hsl := bs_slice l 1 l.length (Nat.le_refl _)
  rw [List.take_length, ← ht] at hsl
  have h1 : ¬ l.length < 1 := by omega
  clear hA hv hE hN h35 ht htl
  go_enter Tryz.func70, Tryz.ntmps70
  go_wp2_with fail
  refine hC.out.mono ?_
  rintro e w1 ⟨rfl, hb⟩
  have hA1 := (hb.block A hAlt).trans HA.out
  have c1 : w1.cell? ⟨A, 1, none⟩ = some s1 := blockCell hA1 1
  have f1 := blockFrozen hA1 1
  have hE1 := blockSet hA1 1 (.string (Nm.bs v))
  have hk : Keep w.heap.size A w (w1.setCell ⟨A, 1, none⟩ (.string (Nm.bs v))) := (Keep.ofBelow hb).setCell (p := ⟨A, 1, none⟩) (Or.inr rfl) _
  have HE := Lib.hid (And.intro hE1 hk)
  clear hA1 hE1 hk hb
  go_wp2_with fail
  go_ret
  exact ⟨rfl, by simpa using HE.out.1, HE.out.2⟩

theorem Env.mono {N N' : Nat} {w : World} (h : Env N w) (hN : N ≤ N') : Env N' w := by
  obtain ⟨⟨a, h1, h2, h3⟩, ⟨b, g1, g2, g3⟩, ⟨f1, f2⟩⟩ := h
  exact ⟨⟨a, h1, by omega, h3⟩, ⟨b, g1, by omega, g3⟩, by omega, by omega⟩
theorem hash_works (w0 : World) (hN : Env w0.heap.size w0) : ValAt w0 hashVal := by
  intro l hl v hv w hb ev hE A s0 s1 hA
  unfold hashVal at hv
  split at hv
  · rename_i h35
    have hNw : Env w.heap.size w := by
      have h := hN.below hb (Nat.le_refl _)
      exact h.mono hb.size
    exact value_hash l hl h35 v hv w ev hE hNw A s0 s1 hA
  · exact value_some l hl (by assumption) v hv w ev hE A s0 s1 hA
end Go.Proofs.YtjmahgefijncaaaGreatFmt

