/- The law FnNameOrder, as a call: the names that are read. -/
import Derived.Test.YtjmahgefijncaaaGreatFmtQ36
import Derived.Test.YtjmahgefijncaaaGreatFmtQ37
import Derived.Deep.RegionWith
set_option linter.unusedVariables false
set_option linter.unusedSimpArgs false
namespace Go.Proofs.YtjmahgefijncaaaGreatFmt
open Go Go.RowKit Go.Extern.Stop Go.Stop Go.Extern

/-- The names read so far lie in block LB. -/
def OrdL (w wr : World) (LB i : Nat) : Prop := ∃ (v : Nat → Value) (n : Nat → Nm.Name), Below w.heap.size w wr ∧ w.heap.size ≤ LB ∧
  wr.heap[LB]? = some (.cells #[if 0 < i then v 0 else .slice none 0 0, if 1 < i then v 1 else .slice none 0 0, if 2 < i then v 2 else .slice none 0 0] 60 (0, 0)) ∧
  ∀ j, j < i → NameOwn 71 70 0 wr (v j) (n j) ∧ NameFits (n j)

/-- What is told of the names lies in block XB: of those pairs of which D speaks. -/
structure OrdX (w wr : World) (LB XB : Nat) (v : Nat → Value) (n : Nat → Nm.Name) (D : Nat → Nat → Prop) : Prop where
  bel : Below w.heap.size w wr
  low : w.heap.size ≤ LB ∧ w.heap.size ≤ XB
  blk : wr.heap[LB]? = some (.cells #[v 0, v 1, v 2] 60 (0, 0))
  own : ∀ j, j < 3 → NameOwn 71 70 0 wr (v j) (n j) ∧ NameFits (n j)
  tab : ∃ cs, wr.heap[XB]? = some (.cells cs 62 (0, 0)) ∧ cs.size = 36 ∧ (∀ j, j < 36 → ∃ b, cs[j]? = some (.bool b)) ∧ ∀ i k, i < 3 → k < 3 → D i k →
    cs[i * 12 + k * 4]? = some (.bool (NC.namesEq false (n i) (n k))) ∧ cs[i * 12 + k * 4 + 1]? = some (.bool (NC.namesEq true (n i) (n k))) ∧ cs[i * 12 + k * 4 + 2]? = some (.bool (NC.above false (n i) (n k))) ∧ cs[i * 12 + k * 4 + 3]? = some (.bool (NC.above true (n i) (n k)))
def noPairs : Array Value := #[.bool false, .bool false, .bool false, .bool false, .bool false, .bool false, .bool false, .bool false, .bool false, .bool false, .bool false, .bool false, .bool false, .bool false, .bool false, .bool false, .bool false, .bool false, .bool false, .bool false, .bool false, .bool false, .bool false, .bool false, .bool false, .bool false, .bool false, .bool false, .bool false, .bool false, .bool false, .bool false, .bool false, .bool false, .bool false, .bool false]
theorem noPairs_at (j : Nat) (hj : j < 36) : ∃ b, noPairs[j]? = some (.bool b) := by
  have hall : ∀ x ∈ noPairs, x = .bool false := by intro x hx; simpa [noPairs] using hx
  have hs : j < noPairs.size := hj
  exact ⟨false, by rw [Array.getElem?_eq_getElem hs, hall _ (Array.getElem_mem hs)]⟩
theorem three_at (v : Nat → Value) (i : Nat) (hi : i < 3) : (#[v 0, v 1, v 2] : Array Value)[i]? = some (v i) := by
  have h : i = 0 ∨ i = 1 ∨ i = 2 := by omega
  rcases h with rfl | rfl | rfl <;> rfl
theorem OrdX.spot {w wr : World} {LB XB : Nat} {v : Nat → Value} {n : Nat → Nm.Name} {D : Nat → Nat → Prop} (h : OrdX w wr LB XB v n D) {w1 : World} (hb : Below wr.heap.size wr w1) (i k : Nat) (hi : i < 3) (hk : k < 3) :
    (∃ z, w1.cell? ⟨XB, i * 12 + k * 4, none⟩ = some z) ∧ (∃ z, w1.cell? ⟨XB, i * 12 + k * 4 + 1, none⟩ = some z) ∧ (∃ z, w1.cell? ⟨XB, i * 12 + k * 4 + 2, none⟩ = some z) ∧ (∃ z, w1.cell? ⟨XB, i * 12 + k * 4 + 3, none⟩ = some z) ∧ ∀ j, w1.frozen? ⟨XB, j, none⟩ = false := by
  obtain ⟨cs, h1, h2, h3, -⟩ := h.tab
  have hbk := (hb.block XB (blockLt h1)).trans h1
  have g : ∀ j, j < 36 → ∃ z, w1.cell? ⟨XB, j, none⟩ = some z := fun j hj => by
    obtain ⟨b, hb⟩ := h3 j hj
    exact ⟨_, (blockCell hbk j).trans hb⟩
  exact ⟨g _ (by omega), g _ (by omega), g _ (by omega), g _ (by omega), fun j => blockFrozen hbk j⟩
theorem text_some (s : ByteArray) (h : 0 < s.size) : s.toList.isEmpty = false := by
  rw [ByteArray.toList_eq]
  cases hd : s.data.toList with
  | nil =>
    have h2 : s.size = s.data.toList.length := by show s.data.size = s.data.toList.length; rw [Array.length_toList]
    rw [hd, List.length_nil] at h2
    omega
  | cons a r => rfl
theorem ordL_below {w wr : World} {LB i : Nat} (h : OrdL w wr LB i) : Below w.heap.size w wr := by obtain ⟨_, _, h, _⟩ := h; exact h
theorem NameOwn.away {e1 e2 : TypeId} {B : Nat} {w w' : World} {v : Value} {n : Nm.Name} (h : NameOwn e1 e2 B w v n) (k : ∀ (g : Nat) (c : Array Value) (t : TypeId), w.heap[g]? = some (Obj.cells c t (0, 0)) → (t = e1 ∨ t = e2) → w'.heap[g]? = w.heap[g]?) : NameOwn e1 e2 0 w' v n := by
  obtain ⟨vs, h1, h2⟩ := h
  refine ⟨vs, ⟨h1.1, h1.2.imp id ?_⟩, rowsOwn_lower (Nat.zero_le _) (h2.stays fun g c hg => k g c e2 hg (Or.inr rfl))⟩
  rintro ⟨g, cap, cur, a1, a2, a3, a4⟩
  exact ⟨g, cap, cur, a1, Nat.zero_le _, (k g _ e1 a3 (Or.inl rfl)).trans a3, a4⟩
theorem NameOwn.form {e1 e2 : TypeId} {B : Nat} {w : World} {v : Value} {n : Nm.Name} (h : NameOwn e1 e2 B w v n) : ∃ o c, v = .slice o n.length c := by
  obtain ⟨vs, h1, h2⟩ := h
  exact owns_form h1

theorem ordL_next {w wr w2 : World} {LB i : Nat} {u : Value} {n : Nm.Name} (h : OrdL w wr LB i) (hi : i < 3) (hb : Below wr.heap.size wr w2) (hn : NameOwn 71 70 wr.heap.size w2 u n) (hf : NameFits n) :
    OrdL w (w2.setCell ⟨LB, i, none⟩ u) LB (i + 1) ∧ (∃ z, w2.cell? ⟨LB, i, none⟩ = some z) ∧ w2.frozen? ⟨LB, i, none⟩ = false := by
  obtain ⟨v, m, hbl, hLB, hblk, hown⟩ := h
  have hLlt := blockLt hblk
  have hblk2 := (hb.block LB hLlt).trans hblk
  refine ⟨⟨fun j => if j = i then u else v j, fun j => if j = i then n else m j, (hbl.trans (hb.mono hbl.size)).setCell (p := ⟨LB, i, none⟩) hLB u, hLB, ?_, ?_⟩, ?_, blockFrozen hblk2 i⟩
  · have := blockSet hblk2 i u
    rw [this]
    have h3 : i = 0 ∨ i = 1 ∨ i = 2 := by omega
    rcases h3 with rfl | rfl | rfl <;> simp
  · intro j hj
    have hst : ∀ (g : Nat) (c : Array Value) (t : TypeId), w2.heap[g]? = some (Obj.cells c t (0, 0)) → (t = 71 ∨ t = 70) → (w2.setCell ⟨LB, i, none⟩ u).heap[g]? = w2.heap[g]? := by
      intro g c t hg ht
      refine Below.heap_setCell _ _ _ _ ?_
      rintro rfl
      have e := hblk2.symm.trans hg
      injection e with e
      injection e with _ e _
      rw [← e] at ht
      exact absurd ht (by decide)
    by_cases hji : j = i
    · simp only [if_pos hji]
      exact ⟨hn.away hst, hf⟩
    · simp only [if_neg hji]
      obtain ⟨h1, h2⟩ := hown j (by omega)
      exact ⟨(h1.away (w' := w2) fun g c t hg _ => hb.block g (blockLt hg)).away hst, h2⟩
  · have h3 : i = 0 ∨ i = 1 ∨ i = 2 := by omega
    rcases h3 with rfl | rfl | rfl
    · exact ⟨_, blockCell hblk2 0⟩
    · exact ⟨_, blockCell hblk2 1⟩
    · exact ⟨_, blockCell hblk2 2⟩

/-- Three boxes, wherever they lie. -/
def Tri (w0 wx : World) (t1 t2 t3 : Value) (a b c : Array Value) : Prop := ∃ P Q R, t1 = .pointer (some ⟨P, 0, none⟩) ∧ t2 = .pointer (some ⟨Q, 0, none⟩) ∧ t3 = .pointer (some ⟨R, 0, none⟩) ∧
  wx.heap[P]? = some (.cells a 55 (0, 0)) ∧ wx.heap[Q]? = some (.cells b 55 (0, 0)) ∧ wx.heap[R]? = some (.cells c 55 (0, 0)) ∧ Below w0.heap.size w0 wx
theorem three_alloc (w : World) (x y z : Obj) : ((((w.alloc x).alloc y).alloc z).drew).heap[w.heap.size]? = some x ∧ ((((w.alloc x).alloc y).alloc z).drew).heap[w.heap.size + 1]? = some y ∧ ((((w.alloc x).alloc y).alloc z).drew).heap[w.heap.size + 1 + 1]? = some z ∧ Below w.heap.size w ((((w.alloc x).alloc y).alloc z).drew) := by
  have e : ((((w.alloc x).alloc y).alloc z).drew).heap = (((w.alloc x).alloc y).alloc z).heap := rfl
  rw [e]
  refine ⟨?_, ?_, ?_, ((((Below.refl _ w).alloc (Nat.le_refl _) _).alloc (by simp) _).alloc (by simp; omega) _).drew⟩
  · rw [Below.heap_alloc _ _ _ (by simp; omega), Below.heap_alloc _ _ _ (by simp)]; exact heap_alloc_new w _
  · rw [Below.heap_alloc _ _ _ (by simp)]
    have := heap_alloc_new (w.alloc x) y
    simpa using this
  · have := heap_alloc_new ((w.alloc x).alloc y) z
    simpa using this
theorem OrdX.pair {w wr : World} {LB XB : Nat} {v : Nat → Value} {n : Nat → Nm.Name} {D : Nat → Nat → Prop} (h : OrdX w wr LB XB v n D) {i k : Nat} (hi : i < 3) (hk : k < 3) (hD : D i k) :
    wr.cell? ⟨XB, i * 12 + k * 4, none⟩ = some (.bool (NC.namesEq false (n i) (n k))) ∧ wr.cell? ⟨XB, i * 12 + k * 4 + 1, none⟩ = some (.bool (NC.namesEq true (n i) (n k))) ∧ wr.cell? ⟨XB, i * 12 + k * 4 + 2, none⟩ = some (.bool (NC.above false (n i) (n k))) ∧ wr.cell? ⟨XB, i * 12 + k * 4 + 3, none⟩ = some (.bool (NC.above true (n i) (n k))) := by
  obtain ⟨cs, h1, -, -, h4⟩ := h.tab
  obtain ⟨g0, g1, g2, g3⟩ := h4 i k hi hk hD
  exact ⟨(blockCell h1 _).trans g0, (blockCell h1 _).trans g1, (blockCell h1 _).trans g2, (blockCell h1 _).trans g3⟩
theorem OrdX.below {w wr w' : World} {LB XB : Nat} {v : Nat → Value} {n : Nat → Nm.Name} {D : Nat → Nat → Prop} (h : OrdX w wr LB XB v n D) (hb : Below wr.heap.size wr w') : OrdX w w' LB XB v n D := by
  obtain ⟨cs, h1, h2⟩ := h.tab
  exact ⟨h.bel.trans (hb.mono h.bel.size), h.low, (hb.block LB (blockLt h.blk)).trans h.blk, fun j hj => ⟨(h.own j hj).1.away fun g c t hg _ => hb.block g (blockLt hg), (h.own j hj).2⟩, cs, (hb.block XB (blockLt h1)).trans h1, h2⟩
theorem set4 (cs : Array Value) (o : Nat) (ho : o + 4 ≤ cs.size) (a b c d : Value) : ∃ cs' : Array Value, cs' = (((cs.setIfInBounds o a).setIfInBounds (o + 1) b).setIfInBounds (o + 2) c).setIfInBounds (o + 3) d ∧ cs'.size = cs.size ∧ cs'[o]? = some a ∧ cs'[o + 1]? = some b ∧ cs'[o + 2]? = some c ∧ cs'[o + 3]? = some d ∧
    ∀ j, (j < o ∨ o + 4 ≤ j) → cs'[j]? = cs[j]? := by
  refine ⟨_, rfl, by simp, ?_, ?_, ?_, ?_, fun j hj => ?_⟩
  · rw [Array.getElem?_setIfInBounds_ne (by omega), Array.getElem?_setIfInBounds_ne (by omega), Array.getElem?_setIfInBounds_ne (by omega), Array.getElem?_setIfInBounds_self_of_lt (by omega)]
  · rw [Array.getElem?_setIfInBounds_ne (by omega), Array.getElem?_setIfInBounds_ne (by omega), Array.getElem?_setIfInBounds_self_of_lt (by simp; omega)]
  · rw [Array.getElem?_setIfInBounds_ne (by omega), Array.getElem?_setIfInBounds_self_of_lt (by simp; omega)]
  · rw [Array.getElem?_setIfInBounds_self_of_lt (by simp; omega)]
  · rw [Array.getElem?_setIfInBounds_ne (by omega), Array.getElem?_setIfInBounds_ne (by omega), Array.getElem?_setIfInBounds_ne (by omega), Array.getElem?_setIfInBounds_ne (by omega)]
theorem OrdX.next {w wr : World} {LB XB : Nat} {v : Nat → Value} {n : Nat → Nm.Name} {i k : Nat} (h : OrdX w wr LB XB v n (fun a b => a < i ∨ (a = i ∧ b < k))) {w1 : World} (hb : Below wr.heap.size wr w1) (hi : i < 3) (hk : k < 3) :
    OrdX w ((((w1.setCell ⟨XB, i * 12 + k * 4, none⟩ (.bool (NC.namesEq false (n i) (n k)))).setCell ⟨XB, i * 12 + k * 4 + 1, none⟩ (.bool (NC.namesEq true (n i) (n k)))).setCell ⟨XB, i * 12 + k * 4 + 2, none⟩ (.bool (NC.above false (n i) (n k)))).setCell ⟨XB, i * 12 + k * 4 + 3, none⟩ (.bool (NC.above true (n i) (n k))))
      LB XB v n (fun a b => a < i ∨ (a = i ∧ b < k + 1)) := by
  obtain ⟨cs, h1, h2, h3, h4⟩ := h.tab
  have hbk := (hb.block XB (blockLt h1)).trans h1
  have hLk := (hb.block LB (blockLt h.blk)).trans h.blk
  have hLX : LB ≠ XB := ne_of_types h.blk h1 (by decide)
  obtain ⟨cs', e, z, g0, g1, g2, g3, gj⟩ := set4 cs (i * 12 + k * 4) (by omega) (.bool (NC.namesEq false (n i) (n k))) (.bool (NC.namesEq true (n i) (n k))) (.bool (NC.above false (n i) (n k))) (.bool (NC.above true (n i) (n k)))
  have hbl := h.bel.trans (hb.mono h.bel.size)
  have hst : ∀ g, g ≠ XB → ((((w1.setCell ⟨XB, i * 12 + k * 4, none⟩ (.bool (NC.namesEq false (n i) (n k)))).setCell ⟨XB, i * 12 + k * 4 + 1, none⟩ (.bool (NC.namesEq true (n i) (n k)))).setCell ⟨XB, i * 12 + k * 4 + 2, none⟩ (.bool (NC.above false (n i) (n k)))).setCell ⟨XB, i * 12 + k * 4 + 3, none⟩ (.bool (NC.above true (n i) (n k)))).heap[g]? = w1.heap[g]? := fun g hg => by
    rw [Below.heap_setCell _ _ _ _ hg, Below.heap_setCell _ _ _ _ hg, Below.heap_setCell _ _ _ _ hg, Below.heap_setCell _ _ _ _ hg]
  refine ⟨(((hbl.setCell (p := ⟨XB, _, none⟩) h.low.2 _).setCell (p := ⟨XB, _, none⟩) h.low.2 _).setCell (p := ⟨XB, _, none⟩) h.low.2 _).setCell (p := ⟨XB, _, none⟩) h.low.2 _, h.low, (hst LB hLX).trans hLk, fun j hj => ⟨?_, (h.own j hj).2⟩, cs', ?_, by rw [z]; exact h2, fun j hj => ?_, fun a b ha hb2 hab => ?_⟩
  · refine ((h.own j hj).1.away (w' := w1) fun g c t hg _ => hb.block g (blockLt hg)).away fun g c t hg ht => hst g ?_
    rintro rfl
    have e2 := hbk.symm.trans hg
    injection e2 with e2
    injection e2 with _ e2 _
    rw [← e2] at ht
    exact absurd ht (by decide)
  · rw [e]
    exact blockSet (blockSet (blockSet (blockSet hbk _ _) _ _) _ _) _ _
  · by_cases hj2 : j < i * 12 + k * 4 ∨ i * 12 + k * 4 + 4 ≤ j
    · rw [gj j hj2]; exact h3 j hj
    · have h5 : j = i * 12 + k * 4 ∨ j = i * 12 + k * 4 + 1 ∨ j = i * 12 + k * 4 + 2 ∨ j = i * 12 + k * 4 + 3 := by omega
      rcases h5 with rfl | rfl | rfl | rfl
      · exact ⟨_, g0⟩
      · exact ⟨_, g1⟩
      · exact ⟨_, g2⟩
      · exact ⟨_, g3⟩
  · by_cases hab2 : a = i ∧ b = k
    · obtain ⟨rfl, rfl⟩ := hab2
      exact ⟨g0, g1, g2, g3⟩
    · obtain ⟨f0, f1, f2, f3⟩ := h4 a b ha hb2 (by omega)
      rw [gj _ (by omega), gj _ (by omega), gj _ (by omega), gj _ (by omega)]
      exact ⟨f0, f1, f2, f3⟩

set_option maxRecDepth 100000 in
set_option maxHeartbeats 32000000 in
theorem law_order (F : Interp) (s0 s1 s2 : List UInt8) (w : World) (hF : F.told.answers w.tape) (et : TypeId) (eu : Value) (hE : w.cell? ⟨1, 0, none⟩ = some (.iface et eu)) (hN : EnvT w.heap.size w) :
    Calls Tryz.prog 7 #[.agg #[.string (Nm.bs s0), .string (Nm.bs s1), .string (Nm.bs s2)]] w fun e w' => e = .returned (.bool true) ∧ Below w.heap.size w w' := by
  have hi0 := fun w => idx0 (Nm.bs s0) (Nm.bs s1) (Nm.bs s2) w
  have hi1 := fun w => idx1 (Nm.bs s0) (Nm.bs s1) (Nm.bs s2) w
  have hi2 := fun w => idx2 (Nm.bs s0) (Nm.bs s1) (Nm.bs s2) w
  have hgl : 1 < w.heap.size := World.block_lt_of_cell? w ⟨1, 0, none⟩ hE
  have HEV := Lib.hid (fun (w2 : World) (h : Below w.heap.size w w2) => (h.cell (p := ⟨1, 0, none⟩) hgl).trans hE)
  have HRD : Hid (∀ (w2 : World) (_ : Below w.heap.size w w2) (s : List UInt8) (_ : s.length ≤ 100), Calls Tryz.prog 13 #[.string (Nm.bs s)] w2 fun e w' => (∃ r, Nm.parseDNR AnyR AnyE s r ∧ NameOut w2.heap.size r e w') ∧ Below w2.heap.size w2 w') :=
    Lib.hid (fun w2 h s hs => read_total F AnyR AnyE s (by omega) w2 (by rw [h.tape]; exact hF) (val_total F w2 et eu (HEV.out w2 h) ((hN.below h (Nat.le_refl _)).mono h.size)) _ (HEV.out w2 h))
  have HAW := Lib.hid (fun (w2 : World) (h : Below w.heap.size w w2) => awake_any w2 _ (HEV.out w2 h))
  clear hF hE hN
  go_enter Tryz.func7, Tryz.ntmps7
  go_wp2_with fail
  refine (fits16_any _ _ _ _).mono ?_
  rintro e w1 ⟨⟨r, rfl⟩, hb1⟩
  have hb0 : Below w.heap.size w w1 := ((Below.refl _ w).alloc (Nat.le_refl _) _).trans (hb1.mono (by simp))
  have HB0 := Lib.hid hb0
  have hs0 : w.heap.size < w1.heap.size := by have := hb1.size; simp at this; omega
  have hbx : w1.heap[w.heap.size]? = some (.cells #[.string (Nm.bs s0), .string (Nm.bs s1), .string (Nm.bs s2)] 58 (0, 0)) := (hb1.block _ (by simp)).trans (heap_alloc_new w _)
  have hbx2 : (w1.alloc (.cells #[.slice none 0 0, .slice none 0 0, .slice none 0 0] 60)).heap[w.heap.size]? = some (.cells #[.string (Nm.bs s0), .string (Nm.bs s1), .string (Nm.bs s2)] 58 (0, 0)) := (Below.heap_alloc _ _ _ hs0).trans hbx
  have c0 : (w1.alloc (.cells #[.slice none 0 0, .slice none 0 0, .slice none 0 0] 60)).cell? ⟨w.heap.size, 0, none⟩ = some (.string (Nm.bs s0)) := blockCell hbx2 0
  have c1 : (w1.alloc (.cells #[.slice none 0 0, .slice none 0 0, .slice none 0 0] 60)).cell? ⟨w.heap.size, 1, none⟩ = some (.string (Nm.bs s1)) := blockCell hbx2 1
  have c2 : (w1.alloc (.cells #[.slice none 0 0, .slice none 0 0, .slice none 0 0] 60)).cell? ⟨w.heap.size, 2, none⟩ = some (.string (Nm.bs s2)) := blockCell hbx2 2
  have hL0 : OrdL w (w1.alloc (.cells #[.slice none 0 0, .slice none 0 0, .slice none 0 0] 60)) w1.heap.size 0 := ⟨fun _ => .slice none 0 0, fun _ => [], hb0.alloc hb0.size _, by omega, heap_alloc_new _ _, fun j hj => absurd hj (by omega)⟩
  have HL0 := Lib.hid hL0
  clear hbx hbx2 hL0
  clear hb1 hb0
  cases r with
  | false =>
    go_wp2_with fail
    go_ret
    exact ⟨rfl, HB0.out⟩
  | true =>
    go_wp2_with fail
    clear c0 c1 c2
    generalize w1.heap.size = LB at *
    generalize (w1.alloc (.cells #[.slice none 0 0, .slice none 0 0, .slice none 0 0] 60)) = wL at *
    go_loopw [22] (fun t22 wr => ∃ (i : Nat), t22 = .int .i64 i ∧ i ≤ 3 ∧ Hid (OrdL w wr LB i)) (fun t22 _ => 3 - (intOf t22).toNat)
    case atStart => exact ⟨0, rfl, by omega, HL0⟩
    case round =>
      clear HL0 HB0
      obtain ⟨i, rfl, hi, HL⟩ := hrel
      have h4 : i = 0 ∨ i = 1 ∨ i = 2 ∨ i = 3 := by omega
      rcases h4 with rfl | rfl | rfl | rfl
      · as_aux_lemma =>
          by_cases hs : s0.length ≤ 100
          · have HC := Lib.hid (HRD.out wr (ordL_below HL.out) s0 hs)
            have t28 : decide (((Nm.bs s0).size : Int) > 100) = false := by rw [bs_size]; simp; omega
            have hsz := bs_size s0
            go_wp2_with fail
            refine HC.out.mono ?_
            rintro e w2 ⟨⟨rr, hr, ho⟩, hb2⟩
            cases rr with
            | none =>
              obtain ⟨s, rfl, hs0⟩ := ho
              have hne := text_some s hs0
              have HA := Lib.hid (HAW.out w2 ((ordL_below HL.out).trans (hb2.mono (ordL_below HL.out).size)))
              have HB2 := Lib.hid ((ordL_below HL.out).trans (hb2.mono (ordL_below HL.out).size))
              clear hb2 hr hs0 HC
              go_wp2_with fail
              refine HA.out.mono ?_
              rintro e w3 ⟨rfl, hb3⟩
              have HB3 := Lib.hid (HB2.out.trans (hb3.mono HB2.out.size))
              clear hb3
              go_wp2_with fail
              go_ret
              exact ⟨rfl, HB3.out⟩
            | some n =>
              obtain ⟨v, rfl, hn⟩ := ho
              obtain ⟨o, c, rfl⟩ := hn.form
              obtain ⟨hnext, ⟨z, hz⟩, hfz⟩ := ordL_next HL.out (by omega) hb2 hn (any_fits (by omega) hr)
              have HN := Lib.hid hnext
              clear hnext hn hb2 hr HC
              go_wp2_with fail
              exact ⟨⟨1, rfl, by omega, HN⟩, by simp [intOf]⟩
          · have t28 : decide (((Nm.bs s0).size : Int) > 100) = true := by rw [bs_size]; simp; omega
            have hsz := bs_size s0
            have HA := Lib.hid (HAW.out wr (ordL_below HL.out))
            have HB2 := Lib.hid (ordL_below HL.out)
            go_wp2_with fail
            refine HA.out.mono ?_
            rintro e w3 ⟨rfl, hb3⟩
            have HB3 := Lib.hid (HB2.out.trans (hb3.mono HB2.out.size))
            clear hb3
            go_wp2_with fail
            go_ret
            exact ⟨rfl, HB3.out⟩
      · as_aux_lemma =>
          by_cases hs : s1.length ≤ 100
          · have HC := Lib.hid (HRD.out wr (ordL_below HL.out) s1 hs)
            have t28 : decide (((Nm.bs s1).size : Int) > 100) = false := by rw [bs_size]; simp; omega
            have hsz := bs_size s1
            go_wp2_with fail
            refine HC.out.mono ?_
            rintro e w2 ⟨⟨rr, hr, ho⟩, hb2⟩
            cases rr with
            | none =>
              obtain ⟨s, rfl, hs0⟩ := ho
              have hne := text_some s hs0
              have HA := Lib.hid (HAW.out w2 ((ordL_below HL.out).trans (hb2.mono (ordL_below HL.out).size)))
              have HB2 := Lib.hid ((ordL_below HL.out).trans (hb2.mono (ordL_below HL.out).size))
              clear hb2 hr hs0 HC
              go_wp2_with fail
              refine HA.out.mono ?_
              rintro e w3 ⟨rfl, hb3⟩
              have HB3 := Lib.hid (HB2.out.trans (hb3.mono HB2.out.size))
              clear hb3
              go_wp2_with fail
              go_ret
              exact ⟨rfl, HB3.out⟩
            | some n =>
              obtain ⟨v, rfl, hn⟩ := ho
              obtain ⟨o, c, rfl⟩ := hn.form
              obtain ⟨hnext, ⟨z, hz⟩, hfz⟩ := ordL_next HL.out (by omega) hb2 hn (any_fits (by omega) hr)
              have HN := Lib.hid hnext
              clear hnext hn hb2 hr HC
              go_wp2_with fail
              exact ⟨⟨2, rfl, by omega, HN⟩, by simp [intOf]⟩
          · have t28 : decide (((Nm.bs s1).size : Int) > 100) = true := by rw [bs_size]; simp; omega
            have hsz := bs_size s1
            have HA := Lib.hid (HAW.out wr (ordL_below HL.out))
            have HB2 := Lib.hid (ordL_below HL.out)
            go_wp2_with fail
            refine HA.out.mono ?_
            rintro e w3 ⟨rfl, hb3⟩
            have HB3 := Lib.hid (HB2.out.trans (hb3.mono HB2.out.size))
            clear hb3
            go_wp2_with fail
            go_ret
            exact ⟨rfl, HB3.out⟩
      · as_aux_lemma =>
          by_cases hs : s2.length ≤ 100
          · have HC := Lib.hid (HRD.out wr (ordL_below HL.out) s2 hs)
            have t28 : decide (((Nm.bs s2).size : Int) > 100) = false := by rw [bs_size]; simp; omega
            have hsz := bs_size s2
            go_wp2_with fail
            refine HC.out.mono ?_
            rintro e w2 ⟨⟨rr, hr, ho⟩, hb2⟩
            cases rr with
            | none =>
              obtain ⟨s, rfl, hs0⟩ := ho
              have hne := text_some s hs0
              have HA := Lib.hid (HAW.out w2 ((ordL_below HL.out).trans (hb2.mono (ordL_below HL.out).size)))
              have HB2 := Lib.hid ((ordL_below HL.out).trans (hb2.mono (ordL_below HL.out).size))
              clear hb2 hr hs0 HC
              go_wp2_with fail
              refine HA.out.mono ?_
              rintro e w3 ⟨rfl, hb3⟩
              have HB3 := Lib.hid (HB2.out.trans (hb3.mono HB2.out.size))
              clear hb3
              go_wp2_with fail
              go_ret
              exact ⟨rfl, HB3.out⟩
            | some n =>
              obtain ⟨v, rfl, hn⟩ := ho
              obtain ⟨o, c, rfl⟩ := hn.form
              obtain ⟨hnext, ⟨z, hz⟩, hfz⟩ := ordL_next HL.out (by omega) hb2 hn (any_fits (by omega) hr)
              have HN := Lib.hid hnext
              clear hnext hn hb2 hr HC
              go_wp2_with fail
              exact ⟨⟨3, rfl, by omega, HN⟩, by simp [intOf]⟩
          · have t28 : decide (((Nm.bs s2).size : Int) > 100) = true := by rw [bs_size]; simp; omega
            have hsz := bs_size s2
            have HA := Lib.hid (HAW.out wr (ordL_below HL.out))
            have HB2 := Lib.hid (ordL_below HL.out)
            go_wp2_with fail
            refine HA.out.mono ?_
            rintro e w3 ⟨rfl, hb3⟩
            have HB3 := Lib.hid (HB2.out.trans (hb3.mono HB2.out.size))
            clear hb3
            go_wp2_with fail
            go_ret
            exact ⟨rfl, HB3.out⟩
      · obtain ⟨v, n, hbl, hLB, hblk, hown⟩ := HL.out
        have hX : OrdX w (wr.alloc (.cells #[.bool false, .bool false, .bool false, .bool false, .bool false, .bool false, .bool false, .bool false, .bool false, .bool false, .bool false, .bool false, .bool false, .bool false, .bool false, .bool false, .bool false, .bool false, .bool false, .bool false, .bool false, .bool false, .bool false, .bool false, .bool false, .bool false, .bool false, .bool false, .bool false, .bool false, .bool false, .bool false, .bool false, .bool false, .bool false, .bool false] 62)) LB wr.heap.size v n (fun i _ => i < 0) := by
          refine ⟨hbl.alloc hbl.size _, ⟨hLB, hbl.size⟩, (Below.heap_alloc _ _ _ (blockLt hblk)).trans hblk, fun j hj => ⟨(hown j hj).1.away fun g c t hg _ => Below.heap_alloc _ _ _ (blockLt hg), (hown j hj).2⟩, _, heap_alloc_new _ _, rfl, ?_, fun i k _ _ h => absurd h (Nat.not_lt_zero _)⟩
          exact noPairs_at
        have HX := Lib.hid hX
        clear hX hblk hown hLB hbl HL hi0 hi1 hi2
        go_wp2_with fail
        generalize (wr.alloc (.cells #[.bool false, .bool false, .bool false, .bool false, .bool false, .bool false, .bool false, .bool false, .bool false, .bool false, .bool false, .bool false, .bool false, .bool false, .bool false, .bool false, .bool false, .bool false, .bool false, .bool false, .bool false, .bool false, .bool false, .bool false, .bool false, .bool false, .bool false, .bool false, .bool false, .bool false, .bool false, .bool false, .bool false, .bool false, .bool false, .bool false] 62)) = wX at *
        generalize wr.heap.size = XB at *
        go_loopw [42] (fun t42 wr => ∃ (i : Nat), t42 = .int .i64 i ∧ i ≤ 3 ∧ Hid (OrdX w wr LB XB v n (fun a _ => a < i))) (fun t42 _ => 3 - (intOf t42).toNat)
        case atStart => exact ⟨0, rfl, by omega, HX⟩
        case round =>
          clear HX wX
          obtain ⟨i, rfl, hi3, HX⟩ := hrel
          by_cases hie : i = 3
          · subst hie
            have t1 : decide (((3 : Nat) : Int) < 3) = false := by decide
            have HA3 : Hid (OrdX w wr LB XB v n (fun a _ => a < 3)) := HX
            clear HX
            go_wp2_with fail
            go_loopw [100] (fun t100 wr => ∃ (i : Nat), t100 = .int .i64 i ∧ i ≤ 3 ∧ Hid (OrdX w wr LB XB v n (fun a _ => a < 3))) (fun t100 _ => 3 - (intOf t100).toNat)
            case atStart => exact ⟨0, rfl, by omega, HA3⟩
            case round =>
              clear HA3 t1 hi3 hi
              obtain ⟨i, rfl, hi3, HX⟩ := hrel
              by_cases hie : i = 3
              · subst hie
                have t1 : decide (((3 : Nat) : Int) < 3) = false := by decide
                have HA := Lib.hid (HAW.out wr HX.out.bel)
                go_wp2_with fail
                refine HA.out.mono ?_
                rintro e w3 ⟨rfl, hb3⟩
                have HB3 := Lib.hid (HX.out.bel.trans (hb3.mono HX.out.bel.size))
                clear hb3
                go_wp2_with fail
                go_ret
                exact ⟨rfl, HB3.out⟩
              · have hil : i < 3 := by omega
                have t1 : decide ((i : Int) < 3) = true := by simp; omega
                go_wp2_with fail
                go_loopw [103] (fun t103 wr => ∃ (k : Nat), t103 = .int .i64 k ∧ k ≤ 3 ∧ Hid (OrdX w wr LB XB v n (fun a _ => a < 3))) (fun t103 _ => 3 - (intOf t103).toNat)
                case atStart => exact ⟨0, rfl, by omega, HX⟩
                case round =>
                  clear HX
                  obtain ⟨k, rfl, hk3, HX⟩ := hrel
                  by_cases hke : k = 3
                  · subst hke
                    have t2 : decide (((3 : Nat) : Int) < 3) = false := by decide
                    go_wp2_with fail
                    exact ⟨⟨i + 1, by go_num, by omega, HX⟩, by simp [intOf]; omega⟩
                  · have hkl : k < 3 := by omega
                    have t2 : decide ((k : Int) < 3) = true := by simp; omega
                    have HXD := Lib.hid (fun (m : Nat) => HX.out.below (w' := wr.drewN m) ⟨rfl, rfl, rfl, Nat.le_refl _, fun _ _ => rfl⟩)
                    obtain ⟨a0, a1, a2, a3⟩ := HX.out.pair hil hkl hil
                    obtain ⟨b0, b1, b2, b3⟩ := HX.out.pair hkl hil hkl
                    rw [NC.eq_comm] at b0 b1
                    have pb := NC.pair_back (n i) (n k)
                    generalize NC.namesEq false (n i) (n k) = e at *
                    generalize NC.namesEq true (n i) (n k) = f at *
                    generalize NC.above true (n i) (n k) = g1 at *
                    generalize NC.above true (n k) (n i) = g2 at *
                    clear a2 b2
                    go_wp2_with fail
                    go_cut [149] from 106 to 149 (fun t149 wx => t149 = .bool false ∧ Hid (∃ m, wx = wr.drewN m))
                    case first =>
                      as_aux_lemma =>
                        cases g1 <;> cases g2
                        all_goals first
                          | exact absurd pb (by decide)
                          | (go_wp2_with fail
                             go_quiet (fail)
                             go_wp2_with fail
                             go_meet
                             exact ⟨by simp, Lib.hid ⟨nq, rfl⟩⟩)
                    case rest =>
                      obtain ⟨rfl, HM⟩ := hcut
                      obtain ⟨m, rfl⟩ := HM.out
                      have HX2 := Lib.hid (HXD.out m)
                      clear HM HXD pb HX a0 a1 a3 b0 b1 b3
                      generalize wr.drewN m = wd at *
                      go_wp2_with fail
                      go_loopw [150] (fun t150 wr => ∃ (m : Nat), t150 = .int .i64 m ∧ m ≤ 3 ∧ Hid (OrdX w wr LB XB v n (fun a _ => a < 3))) (fun t150 _ => 3 - (intOf t150).toNat)
                      case atStart => exact ⟨0, rfl, by omega, HX2⟩
                      case round =>
                        clear HX2
                        obtain ⟨m, rfl, hm3, HX⟩ := hrel
                        by_cases hme : m = 3
                        · subst hme
                          have t3 : decide (((3 : Nat) : Int) < 3) = false := by decide
                          go_wp2_with fail
                          exact ⟨⟨k + 1, by go_num, by omega, HX⟩, by simp [intOf]; omega⟩
                        · have hml : m < 3 := by omega
                          have t3 : decide ((m : Int) < 3) = true := by simp; omega
                          obtain ⟨a0, a1, a2, a3⟩ := HX.out.pair hil hkl hil
                          obtain ⟨b0, b1, b2, b3⟩ := HX.out.pair hkl hml hkl
                          obtain ⟨c0, c1, c2, c3⟩ := HX.out.pair hil hml hil
                          have hXlt : XB < wr.heap.size := by obtain ⟨cs, h1, _⟩ := HX.out.tab; exact blockLt h1
                          have hxa : ∀ (W : World) (o : Obj) (j : Nat), XB < W.heap.size → (W.alloc o).cell? ⟨XB, j, none⟩ = W.cell? ⟨XB, j, none⟩ := fun W o j h => World.cell?_of_block (w := W) (Below.heap_alloc W o XB h)
                          have l1 : XB < wr.heap.size + 1 := by omega
                          have l2 : XB < wr.heap.size + 1 + 1 := by omega
                          have l3 : XB < wr.heap.size + 2 := by omega
                          go_wp2_with fail
                          go_cut [15, 16, 17] from 153 to 167 (fun t15 t16 t17 wx => Hid (Tri wr wx t15 t16 t17 #[.bool (NC.namesEq false (n i) (n k)), .bool (NC.namesEq true (n i) (n k)), .bool (NC.above false (n i) (n k)), .bool (NC.above true (n i) (n k))] #[.bool (NC.namesEq false (n k) (n m)), .bool (NC.namesEq true (n k) (n m)), .bool (NC.above false (n k) (n m)), .bool (NC.above true (n k) (n m))] #[.bool (NC.namesEq false (n i) (n m)), .bool (NC.namesEq true (n i) (n m)), .bool (NC.above false (n i) (n m)), .bool (NC.above true (n i) (n m))]))
                          case first =>
                            as_aux_lemma =>
                              go_region
                              all_goals
                                obtain ⟨hx, hy, hz, hb⟩ := three_alloc wr _ _ _
                                go_wp2_with fail
                                go_meet
                                first
                                  | exact Lib.hid ⟨_, _, _, rfl, rfl, rfl, hx, hy, hz, hb⟩
                                  | exact Lib.hid ⟨_, _, _, rfl, rfl, rfl, hx, hz, hy, hb⟩
                                  | exact Lib.hid ⟨_, _, _, rfl, rfl, rfl, hy, hx, hz, hb⟩
                                  | exact Lib.hid ⟨_, _, _, rfl, rfl, rfl, hy, hz, hx, hb⟩
                                  | exact Lib.hid ⟨_, _, _, rfl, rfl, rfl, hz, hx, hy, hb⟩
                                  | exact Lib.hid ⟨_, _, _, rfl, rfl, rfl, hz, hy, hx, hb⟩
                          case rest =>
                            obtain ⟨P, Q, R, rfl, rfl, rfl, hP, hQ, hR, hb⟩ := hcut.out
                            have HZ := Lib.hid (HX.out.below hb)
                            clear a0 a1 a2 a3 b0 b1 b2 b3 c0 c1 c2 c3 hXlt hxa l1 l2 l3 HX hcut hb
                            have x0 := blockCell hP 0
                            have x1 := blockCell hP 1
                            have x2 := blockCell hP 2
                            have x3 := blockCell hP 3
                            have y0 := blockCell hQ 0
                            have y1 := blockCell hQ 1
                            have y2 := blockCell hQ 2
                            have y3 := blockCell hQ 3
                            have z0 := blockCell hR 0
                            have z1 := blockCell hR 1
                            have z2 := blockCell hR 2
                            have z3 := blockCell hR 3
                            obtain ⟨q1, q2, q3, q4, q5, q6⟩ := NC.triple_ok (n i) (n k) (n m)
                            obtain ⟨p1, p2, p3⟩ := NC.pair_ok (n i) (n k)
                            obtain ⟨r1, r2, r3⟩ := NC.pair_ok (n k) (n m)
                            clear hP hQ hR
                            simp only [List.getElem?_toArray, List.getElem?_cons_zero, List.getElem?_cons_succ] at x0 x1 x2 x3 y0 y1 y2 y3 z0 z1 z2 z3
                            obtain ⟨a0, ha0⟩ : ∃ b, b = NC.namesEq false (n i) (n k) := ⟨_, rfl⟩
                            obtain ⟨a1, ha1⟩ : ∃ b, b = NC.namesEq true (n i) (n k) := ⟨_, rfl⟩
                            obtain ⟨a2, ha2⟩ : ∃ b, b = NC.above false (n i) (n k) := ⟨_, rfl⟩
                            obtain ⟨a3, ha3⟩ : ∃ b, b = NC.above true (n i) (n k) := ⟨_, rfl⟩
                            obtain ⟨b0, hb0⟩ : ∃ b, b = NC.namesEq false (n k) (n m) := ⟨_, rfl⟩
                            obtain ⟨b1, hb1⟩ : ∃ b, b = NC.namesEq true (n k) (n m) := ⟨_, rfl⟩
                            obtain ⟨b2, hb2⟩ : ∃ b, b = NC.above false (n k) (n m) := ⟨_, rfl⟩
                            obtain ⟨b3, hb3⟩ : ∃ b, b = NC.above true (n k) (n m) := ⟨_, rfl⟩
                            obtain ⟨c0, hc0⟩ : ∃ b, b = NC.namesEq false (n i) (n m) := ⟨_, rfl⟩
                            obtain ⟨c1, hc1⟩ : ∃ b, b = NC.namesEq true (n i) (n m) := ⟨_, rfl⟩
                            obtain ⟨c2, hc2⟩ : ∃ b, b = NC.above false (n i) (n m) := ⟨_, rfl⟩
                            obtain ⟨c3, hc3⟩ : ∃ b, b = NC.above true (n i) (n m) := ⟨_, rfl⟩
                            rw [← ha0] at x0
                            rw [← ha1] at x1
                            rw [← ha2] at x2
                            rw [← ha3] at x3
                            rw [← hb0] at y0
                            rw [← hb1] at y1
                            rw [← hb2] at y2
                            rw [← hb3] at y3
                            rw [← hc0] at z0
                            rw [← hc1] at z1
                            rw [← hc2] at z2
                            rw [← hc3] at z3
                            rw [← ha0, ← ha1] at p1
                            rw [← ha2, ← ha3] at p2
                            rw [← ha1, ← ha3] at p3
                            rw [← hb0, ← hb1] at r1
                            rw [← hb2, ← hb3] at r2
                            rw [← hb1, ← hb3] at r3
                            rw [← ha0, ← hb0, ← hc0] at q1
                            rw [← ha1, ← hb1, ← hc1] at q2
                            rw [← ha2, ← hb2, ← hc2] at q3
                            rw [← ha3, ← hb3, ← hc3] at q4
                            rw [← ha0, ← hb2, ← hc2] at q5
                            rw [← ha2, ← hb0, ← hc2] at q6
                            clear ha0 ha1 ha2 ha3 hb0 hb1 hb2 hb3 hc0 hc1 hc2 hc3
                            go_upto_region 39 with (fail)
                            go_cut [243] from 168 to 243 (fun t243 wx => t243 = .bool false ∧ Hid (∃ m, wx = wc.drewN m))
                            case first =>
                              as_aux_lemma =>
                                simp only [app_cons, app_nil]
                                cases a0 <;> cases a1 <;> cases a2 <;> cases a3
                                all_goals first
                                  | exact absurd p1 (by decide)
                                  | exact absurd p2 (by decide)
                                  | exact absurd p3 (by decide)
                                  | skip
                                · as_aux_lemma =>
                                    refine wp_region_still ?_
                                    repeat (go_big_quiet_step (fail))
                                    refine wpQuiet_nil ?_
                                    intro _ hw'
                                    obtain ⟨nq, hw''⟩ := hw'
                                    subst hw''
                                    go_wp2_with fail
                                    go_meet
                                    exact ⟨rfl, Lib.hid ⟨nq, rfl⟩⟩
                                · as_aux_lemma =>
                                    cases b3
                                    all_goals first
                                      | exact absurd r1 (by decide)
                                      | exact absurd r2 (by decide)
                                      | exact absurd r3 (by decide)
                                      | skip
                                    all_goals
                                      (try obtain rfl := need_c q1)
                                      (try obtain rfl := need_c q2)
                                      (try obtain rfl := need_c q3)
                                      (try obtain rfl := need_c q5)
                                      (try obtain rfl := need_c q6)
                                      (try obtain rfl := need_c q4)
                                      refine wp_region_still ?_
                                      repeat (go_big_quiet_step (fail))
                                      refine wpQuiet_nil ?_
                                      intro _ hw'
                                      obtain ⟨nq, hw''⟩ := hw'
                                      subst hw''
                                      go_wp2_with fail
                                      go_meet
                                      exact ⟨rfl, Lib.hid ⟨nq, rfl⟩⟩
                                · as_aux_lemma =>
                                    cases b2 <;> cases b3 <;> cases b0
                                    all_goals first
                                      | exact absurd r1 (by decide)
                                      | exact absurd r2 (by decide)
                                      | exact absurd r3 (by decide)
                                      | skip
                                    all_goals
                                      (try obtain rfl := need_c q1)
                                      (try obtain rfl := need_c q2)
                                      (try obtain rfl := need_c q3)
                                      (try obtain rfl := need_c q5)
                                      (try obtain rfl := need_c q6)
                                      (try obtain rfl := need_c q4)
                                      refine wp_region_still ?_
                                      repeat (go_big_quiet_step (fail))
                                      refine wpQuiet_nil ?_
                                      intro _ hw'
                                      obtain ⟨nq, hw''⟩ := hw'
                                      subst hw''
                                      go_wp2_with fail
                                      go_meet
                                      exact ⟨rfl, Lib.hid ⟨nq, rfl⟩⟩
                                · as_aux_lemma =>
                                    cases b1
                                    all_goals first
                                      | exact absurd r1 (by decide)
                                      | exact absurd r2 (by decide)
                                      | exact absurd r3 (by decide)
                                      | skip
                                    all_goals
                                      (try obtain rfl := need_c q1)
                                      (try obtain rfl := need_c q2)
                                      (try obtain rfl := need_c q3)
                                      (try obtain rfl := need_c q5)
                                      (try obtain rfl := need_c q6)
                                      (try obtain rfl := need_c q4)
                                      refine wp_region_still ?_
                                      repeat (go_big_quiet_step (fail))
                                      refine wpQuiet_nil ?_
                                      intro _ hw'
                                      obtain ⟨nq, hw''⟩ := hw'
                                      subst hw''
                                      go_wp2_with fail
                                      go_meet
                                      exact ⟨rfl, Lib.hid ⟨nq, rfl⟩⟩
                                · as_aux_lemma =>
                                    cases b0 <;> cases b1 <;> cases b2
                                    all_goals first
                                      | exact absurd r1 (by decide)
                                      | exact absurd r2 (by decide)
                                      | exact absurd r3 (by decide)
                                      | skip
                                    all_goals
                                      (try obtain rfl := need_c q1)
                                      (try obtain rfl := need_c q2)
                                      (try obtain rfl := need_c q3)
                                      (try obtain rfl := need_c q5)
                                      (try obtain rfl := need_c q6)
                                      (try obtain rfl := need_c q4)
                                      refine wp_region_still ?_
                                      repeat (go_big_quiet_step (fail))
                                      refine wpQuiet_nil ?_
                                      intro _ hw'
                                      obtain ⟨nq, hw''⟩ := hw'
                                      subst hw''
                                      go_wp2_with fail
                                      go_meet
                                      exact ⟨rfl, Lib.hid ⟨nq, rfl⟩⟩
                            case rest =>
                              obtain ⟨rfl, HM⟩ := hcut
                              obtain ⟨m9, rfl⟩ := HM.out
                              have HZ2 := Lib.hid (HZ.out.below (w' := wc.drewN m9) ⟨rfl, rfl, rfl, Nat.le_refl _, fun _ _ => rfl⟩)
                              clear x0 x1 x2 x3 y0 y1 y2 y3 z0 z1 z2 z3 q1 q2 q3 q4 q5 q6 p1 p2 p3 r1 r2 r3 HM HZ
                              go_wp2_with fail
                              exact ⟨⟨m + 1, by go_num, by omega, HZ2⟩, by simp [intOf]; omega⟩
          · have hil : i < 3 := by omega
            have t1 : decide ((i : Int) < 3) = true := by simp; omega
            have HY0 : Hid (OrdX w wr LB XB v n (fun a b => a < i ∨ (a = i ∧ b < 0))) := Lib.hid ⟨HX.out.bel, HX.out.low, HX.out.blk, HX.out.own, by
              obtain ⟨cs, h1, h2, h3, h4⟩ := HX.out.tab
              exact ⟨cs, h1, h2, h3, fun a b ha hb hab => h4 a b ha hb (by omega)⟩⟩
            clear HX
            go_wp2_with fail
            go_loopw [45] (fun t45 wr => ∃ (k : Nat), t45 = .int .i64 k ∧ k ≤ 3 ∧ Hid (OrdX w wr LB XB v n (fun a b => a < i ∨ (a = i ∧ b < k)))) (fun t45 _ => 3 - (intOf t45).toNat)
            case atStart => exact ⟨0, rfl, by omega, HY0⟩
            case round =>
              clear HY0
              obtain ⟨k, rfl, hk3, HY⟩ := hrel
              by_cases hke : k = 3
              · subst hke
                have t2 : decide (((3 : Nat) : Int) < 3) = false := by decide
                go_wp2_with fail
                exact ⟨⟨i + 1, by go_num, by omega, Lib.hid ⟨HY.out.bel, HY.out.low, HY.out.blk, HY.out.own, by
                  obtain ⟨cs, h1, h2, h3, h4⟩ := HY.out.tab
                  exact ⟨cs, h1, h2, h3, fun a b ha hb hab => h4 a b ha hb (by omega)⟩⟩⟩, by simp [intOf]; omega⟩
              · have hkl : k < 3 := by omega
                have t2 : decide ((k : Int) < 3) = true := by simp; omega
                have hvi : wr.cell? ⟨LB, i, none⟩ = some (v i) := (blockCell HY.out.blk i).trans (three_at v i hil)
                have hvk : wr.cell? ⟨LB, k, none⟩ = some (v k) := (blockCell HY.out.blk k).trans (three_at v k hkl)
                have hC : Calls Tryz.prog 30 #[v i, v k] wr.drew fun e w' => e = .returned (Cmp (n i) (n k)) ∧ Below wr.drew.heap.size wr.drew w' :=
                  names_cmp _ _ _ _ wr.drew ((HY.out.own i hil).1.in'.stays (Below.refl _ wr).drew) ((HY.out.own k hkl).1.in'.stays (Below.refl _ wr).drew) (HY.out.own i hil).2 (HY.out.own k hkl).2
                have HC := Lib.hid hC
                have HQ := Lib.hid (fun (w1 : World) (hb : Below wr.drew.heap.size wr.drew w1) => HY.out.spot (w1 := w1) ⟨hb.os, hb.tape, hb.output, hb.size, hb.block⟩ i k hil hkl)
                clear hC
                go_wp2_with fail
                go_cut [56] from 48 to 58 (fun t56 wx => Hid (OrdX w wx LB XB v n (fun a b => a < i ∨ (a = i ∧ b < k + 1))))
                case first =>
                  as_aux_lemma =>
                    go_region_with (go_at_call 30; refine HC.out.mono ?_; rintro e w1 ⟨rfl, hb1⟩; simp only [Cmp]; obtain ⟨⟨z0, q0⟩, ⟨z1, q1⟩, ⟨z2, q2⟩, ⟨z3, q3⟩, hfz⟩ := HQ.out w1 hb1)
                    all_goals
                      go_wp2_with fail
                      go_meet
                      exact Lib.hid (HY.out.next (w1 := w1) ⟨hb1.os, hb1.tape, hb1.output, hb1.size, hb1.block⟩ hil hkl)
                case rest =>
                  have HZ := hcut
                  clear hcut HC HQ hvi hvk HY
                  obtain ⟨f0, f1, f2, f3⟩ := HZ.out.pair hil hkl (Or.inr ⟨rfl, Nat.lt_succ_self k⟩)
                  obtain ⟨p1, p2, p3⟩ := NC.pair_ok (n i) (n k)
                  have p4 : i = k → NC.namesEq false (n i) (n k) = true := fun h => by subst h; exact NC.namesEq_refl false (n i)
                  generalize NC.namesEq false (n i) (n k) = e at *
                  generalize NC.namesEq true (n i) (n k) = f at *
                  generalize NC.above false (n i) (n k) = a at *
                  generalize NC.above true (n i) (n k) = g at *
                  have hik : (i = k ∧ ((i : Int) == (k : Int)) = true) ∨ (i ≠ k ∧ ((i : Int) == (k : Int)) = false) := by
                    by_cases h : i = k
                    · exact Or.inl ⟨h, by simp [h]⟩
                    · exact Or.inr ⟨h, by rw [beq_eq_false_iff_ne]; omega⟩
                  have HZA := Lib.hid (fun o => HZ.out.below ((Below.refl _ wc).alloc (Nat.le_refl _) o))
                  as_aux_lemma =>
                    rcases hik with ⟨hik, tik⟩ | ⟨hik, tik⟩
                    all_goals
                      cases e <;> cases f <;> cases a <;> cases g
                      all_goals first
                        | exact absurd p1 (by decide)
                        | exact absurd p2 (by decide)
                        | exact absurd p3 (by decide)
                        | exact absurd (p4 hik) (by decide)
                        | (clear p1 p2 p3 p4 hik
                           go_wp2_with fail
                           exact ⟨⟨k + 1, by go_num, by omega, Lib.hid (HZA.out _)⟩, by simp [intOf]; omega⟩)
end Go.Proofs.YtjmahgefijncaaaGreatFmt

