/- ParseDN's memory: what its blocks hold; how a name grows in it. -/
import Derived.Test.YtjmahgefijncaaaGreatFmtMem
namespace Go.Proofs.YtjmahgefijncaaaGreatFmt
open Go Go.RowKit

/-- Blocks of other types are other blocks. -/
theorem ne_of_types {w : World} {a b : Nat} {x y : Array Value} {t u : TypeId} {f g : Nat × Nat} (ha : w.heap[a]? = some (.cells x t f)) (hb : w.heap[b]? = some (.cells y u g)) (h : t ≠ u) : a ≠ b := by
  rintro rfl
  rw [ha] at hb
  injection hb with hb
  injection hb with _ h2 _
  exact h h2
theorem own_ne {w : World} {B : Nat} {e : TypeId} {sz : Nat} {v : Value} {n : Nat} {xs : List Value} (h : w.ownsRow B e sz v n xs) {b : Nat} {y : Array Value} {u : TypeId} {g : Nat × Nat} (hb : w.heap[b]? = some (.cells y u g)) (hne : e ≠ u) : v.ownBlock ≠ some b := by
  rcases h.2 with ⟨hv, _⟩ | ⟨k, cap, cur, hv, _, hg, _⟩
  · rw [hv]; simp [Value.ownBlock]
  · rw [hv]
    simp only [Value.ownBlock, ne_eq, Option.some.injEq]
    exact ne_of_types hg hb hne

/-- A row has been lengthened by a pointer: in place, or in a new block. -/
structure Longer (e t : TypeId) (R : Nat) (v : Value) (xs : List Value) (u : Value) (w w' : World) (v' : Value) : Prop where
  block : w'.heap[R]? = some (.cells #[v'] t (0, 0))
  own : w'.ownsRow 0 e 1 v' (xs.length + 1) (xs ++ [u])
  at' : v'.ownBlock = v.ownBlock ∨ ∃ g, v'.ownBlock = some g ∧ w.heap.size ≤ g
  only : Only (fun k => k = R ∨ v.ownBlock = some k) w w'
def LongerSome (e t : TypeId) (R : Nat) (v : Value) (xs : List Value) (u : Value) (w w' : World) : Prop := ∃ v', Longer e t R v xs u w w' v'

theorem longer_end {e t : TypeId} {R : Nat} {v : Value} {xs : List Value} {u : Value} {w w4 : World} {o : Obj} {g cap : Nat} (hR : w.heap[R]? = some (.cells #[v] t (0, 0))) (hvR : v.ownBlock ≠ some R)
    (hown : w4.ownsRow 0 e 1 (.slice (some ⟨g, 0, none⟩) (xs.length + 1) cap) (xs.length + 1) (xs ++ [u])) (hgr : ((w.alloc o).drew).grownBy w4 v.ownBlock) (hat : v.ownBlock = some g ∨ g = w.heap.size + 1) :
    LongerSome e t R v xs u w (w4.setCell ⟨R, 0, none⟩ (.slice (some ⟨g, 0, none⟩) (xs.length + 1) cap)) := by
  have hRlt := blockLt hR
  have hgR : g ≠ R := by
    rcases hat with h | h
    · rintro rfl; exact hvR h
    · omega
  have hR4 : w4.heap[R]? = some (.cells #[v] t (0, 0)) := (hgr.block R (by simp; omega) (fun h => hvR h.symm)).trans ((Below.heap_alloc w o R hRlt).trans hR)
  refine ⟨_, by simpa using blockSet hR4 0 (.slice (some ⟨g, 0, none⟩) (xs.length + 1) cap), owns_stays hown (fun k hk => Below.heap_setCell _ _ _ _ (by simp only [Value.ownBlock, Option.some.injEq] at hk; subst hk; exact hgR)), ?_, ?_⟩
  · rcases hat with h | h
    · exact Or.inl h.symm
    · exact Or.inr ⟨g, rfl, by omega⟩
  · have h1 : Only (fun k => k = R ∨ v.ownBlock = some k) w (w.alloc o).drew := ((Only.refl _ w).alloc o).drew
    have h2 : Only (fun k => v.ownBlock = some k) (w.alloc o).drew w4 := ⟨hgr.os, hgr.tape, hgr.output, hgr.size, fun k hk hs => hgr.block k hk (fun e => hs e.symm)⟩
    exact (h1.trans2 h2 (fun i _ h => Or.inr h)).setCell (p := ⟨R, 0, none⟩) (Or.inr (Or.inl rfl)) _

/-- The parser's blocks: X holds the relative name at hand, Y the attribute at hand, Z the name. -/
structure PInv (B X Y Z D Rb A : Nat) (v : Value) (xs : List Value) (vd : Value) (ds : List Value) (S : Nat → Prop) (ty val : List UInt8) (rdn : List Nm.Part) (dn : Nm.Name) (w : World) : Prop where
  hX : w.heap[X]? = some (.cells #[.pointer (some ⟨Rb, 0, none⟩)] 115 (0, 0))
  hY : w.heap[Y]? = some (.cells #[.pointer (some ⟨A, 0, none⟩)] 119 (0, 0))
  hZ : w.heap[Z]? = some (.cells #[.pointer (some ⟨D, 0, none⟩)] 81 (0, 0))
  hR : w.heap[Rb]? = some (.cells #[v] 118 (0, 0))
  hD : w.heap[D]? = some (.cells #[vd] 114 (0, 0))
  hA : PartAt w A (ty, val)
  own : w.ownsRow 0 119 1 v xs.length xs
  ownD : w.ownsRow 0 115 1 vd ds.length ds
  vY : v.ownBlock ≠ some Y
  dX : vd.ownBlock ≠ some X
  parts : PartsAt w S xs rdn
  rdns : RdnsAt w S ds dn
  avoid : ∀ k, S k → k < w.heap.size ∧ k ≠ X ∧ k ≠ Y ∧ k ≠ A ∧ k ≠ Rb ∧ k ≠ D ∧ v.ownBlock ≠ some k ∧ vd.ownBlock ≠ some k
  low : B ≤ X ∧ B ≤ Y ∧ B ≤ Z ∧ B ≤ D ∧ B ≤ A ∧ B ≤ Rb
  lowv : ∀ k, v.ownBlock = some k ∨ vd.ownBlock = some k → B ≤ k

section
variable {B X Y Z D Rb A : Nat} {v : Value} {xs : List Value} {vd : Value} {ds : List Value} {S : Nat → Prop} {ty val : List UInt8} {rdn : List Nm.Part} {dn : Nm.Name} {w w' wc : World}

/-- It stands where old blocks stand but for the attribute at hand. -/
theorem PInv.keep (h : PInv B X Y Z D Rb A v xs vd ds S ty val rdn dn w) (k : Keep w.heap.size A w w') {ty' val' : List UInt8} (hA : PartAt w' A (ty', val')) : PInv B X Y Z D Rb A v xs vd ds S ty' val' rdn dn w' := by
  have hb : ∀ i, i < w.heap.size → i ≠ A → w'.heap[i]? = w.heap[i]? := k.block
  have hAX := ne_of_types h.hA h.hX (by decide)
  have hAY := ne_of_types h.hA h.hY (by decide)
  have hAZ := ne_of_types h.hA h.hZ (by decide)
  have hAR := ne_of_types h.hA h.hR (by decide)
  have hAD := ne_of_types h.hA h.hD (by decide)
  have hAv := own_ne h.own h.hA (by decide)
  have hAd := own_ne h.ownD h.hA (by decide)
  have hS : ∀ i, S i → w'.heap[i]? = w.heap[i]? := fun i hi => hb i (h.avoid i hi).1 (h.avoid i hi).2.2.2.1
  exact ⟨(hb _ (blockLt h.hX) hAX.symm).trans h.hX, (hb _ (blockLt h.hY) hAY.symm).trans h.hY, (hb _ (blockLt h.hZ) hAZ.symm).trans h.hZ, (hb _ (blockLt h.hR) hAR.symm).trans h.hR, (hb _ (blockLt h.hD) hAD.symm).trans h.hD, hA,
    owns_stays h.own (fun g hg => hb g (owns_lt h.own g hg) (fun e => hAv (by rw [hg, e]))), owns_stays h.ownD (fun g hg => hb g (owns_lt h.ownD g hg) (fun e => hAd (by rw [hg, e]))), h.vY, h.dX,
    h.parts.stays hS (fun _ h => h), h.rdns.stays hS (fun _ h => h), fun i hi => ⟨Nat.lt_of_lt_of_le (h.avoid i hi).1 k.size, (h.avoid i hi).2⟩, h.low, h.lowv⟩

/-- The attribute at hand is added; a new one is at hand. -/
theorem PInv.part (h : PInv B X Y Z D Rb A v xs vd ds S ty val rdn dn w) {v' : Value} (k : Longer 119 118 Rb v xs (.pointer (some ⟨A, 0, none⟩)) w wc v')
    (hw : w' = (wc.setCell ⟨Y, 0, none⟩ (.pointer (some ⟨wc.heap.size, 0, none⟩))).alloc (.cells #[.string (Nm.bs []), .string (Nm.bs [])] 120 (0, 0))) :
    PInv B X Y Z D Rb wc.heap.size v' (xs ++ [.pointer (some ⟨A, 0, none⟩)]) vd ds (fun i => S i ∨ i = A) [] [] (rdn ++ [(ty, val)]) dn w' ∧ Below B w w' := by
  have hAX := ne_of_types h.hA h.hX (by decide)
  have hAY := ne_of_types h.hA h.hY (by decide)
  have hAR := ne_of_types h.hA h.hR (by decide)
  have hAD := ne_of_types h.hA h.hD (by decide)
  have hRX := ne_of_types h.hR h.hX (by decide)
  have hRY := ne_of_types h.hR h.hY (by decide)
  have hRZ := ne_of_types h.hR h.hZ (by decide)
  have hRD := ne_of_types h.hR h.hD (by decide)
  have hYX := ne_of_types h.hY h.hX (by decide)
  have hYZ := ne_of_types h.hY h.hZ (by decide)
  have hYD := ne_of_types h.hY h.hD (by decide)
  have vX := own_ne h.own h.hX (by decide)
  have vZ := own_ne h.own h.hZ (by decide)
  have vD := own_ne h.own h.hD (by decide)
  have vA := own_ne h.own h.hA (by decide)
  have vR := own_ne h.own h.hR (by decide)
  have dY := own_ne h.ownD h.hY (by decide)
  have dA := own_ne h.ownD h.hA (by decide)
  have dR := own_ne h.ownD h.hR (by decide)
  have hsz := k.only.size
  have lX := blockLt h.hX
  have lY := blockLt h.hY
  have lZ := blockLt h.hZ
  have lR := blockLt h.hR
  have lD := blockLt h.hD
  have lA := blockLt h.hA
  have hsz2 : w'.heap.size = wc.heap.size + 1 := by rw [hw]; simp [World.setCell]
  -- what stands
  have st : ∀ i, i < w.heap.size → i ≠ Rb → v.ownBlock ≠ some i → i ≠ Y → w'.heap[i]? = w.heap[i]? := fun i hi h1 h2 h3 => by
    rw [hw, Below.heap_alloc _ _ _ (by simp [World.setCell]; omega), Below.heap_setCell _ _ _ _ (by simpa using h3)]
    exact k.only.block i hi (by rintro (e | e); exact h1 e; exact h2 e)
  have st2 : ∀ i, i < wc.heap.size → i ≠ Y → w'.heap[i]? = wc.heap[i]? := fun i hi h3 => by
    rw [hw, Below.heap_alloc _ _ _ (by simp [World.setCell]; omega), Below.heap_setCell _ _ _ _ (by simpa using h3)]
  have hYc : wc.heap[Y]? = w.heap[Y]? := k.only.block Y lY (by rintro (e | e); exact hRY e.symm; exact h.vY e)
  have hY' := blockSet (hYc.trans h.hY) 0 (.pointer (some ⟨wc.heap.size, 0, none⟩))
  rw [← Below.heap_alloc _ (.cells #[.string (Nm.bs []), .string (Nm.bs [])] 120 (0, 0)) _ (by simp [World.setCell]; omega), ← hw] at hY'
  have hA' : w'.heap[wc.heap.size]? = some (.cells #[.string (Nm.bs []), .string (Nm.bs [])] 120 (0, 0)) := by
    have := heap_alloc_new (wc.setCell ⟨Y, 0, none⟩ (.pointer (some ⟨wc.heap.size, 0, none⟩))) (.cells #[.string (Nm.bs []), .string (Nm.bs [])] 120 (0, 0))
    rw [← hw] at this
    simpa [World.setCell] using this
  have hv' : ∀ g, v'.ownBlock = some g → g < wc.heap.size := owns_lt k.own
  have v'Y : v'.ownBlock ≠ some Y := by
    rcases k.at' with e | ⟨g, e, hg⟩
    · rw [e]; exact h.vY
    · rw [e]; intro e2; injection e2 with e2; omega
  have hS : ∀ i, S i → w'.heap[i]? = w.heap[i]? := fun i hi => by
    obtain ⟨a1, a2, a3, a4, a5, a6, a7, a8⟩ := h.avoid i hi
    exact st i a1 a5 a7 a3
  refine ⟨⟨?_, by simpa using hY', ?_, ?_, ?_, hA', ?_, ?_, v'Y, h.dX, ?_, ?_, ?_, ?_, ?_⟩, ?_⟩
  · exact (st X lX hRX.symm vX hYX.symm).trans h.hX
  · exact (st Z lZ hRZ.symm vZ hYZ.symm).trans h.hZ
  · exact (st2 Rb (by omega) hRY).trans k.block
  · exact (st D lD hRD.symm vD hYD.symm).trans h.hD
  · have := owns_stays k.own (w' := w') (fun g hg => st2 g (hv' g hg) (fun e => v'Y (by rw [hg, e])))
    simpa using this
  · refine owns_stays h.ownD (fun g hg => st g (owns_lt h.ownD g hg) (fun e => dR (by rw [hg, e])) ?_ (fun e => dY (by rw [hg, e])))
    intro e
    rcases h.own.2 with ⟨e1, _⟩ | ⟨a, c1, u1, e1, _, e3, _⟩
    · rw [e1] at e; simp [Value.ownBlock] at e
    · rcases h.ownD.2 with ⟨e5, _⟩ | ⟨b, c2, u2, e5, _, e7, _⟩
      · rw [e5] at hg; simp [Value.ownBlock] at hg
      · rw [e1] at e; rw [e5] at hg
        simp only [Value.ownBlock, Option.some.injEq] at e hg
        exact ne_of_types e3 e7 (by decide) (by omega)
  · refine PartsAt.snoc (Or.inr rfl) ((st A lA hAR vA hAY).trans h.hA) (h.parts.stays hS (fun _ h => Or.inl h))
  · exact h.rdns.stays hS (fun _ h => Or.inl h)
  · intro i hi
    rcases hi with hi | rfl
    · obtain ⟨a1, a2, a3, a4, a5, a6, a7, a8⟩ := h.avoid i hi
      refine ⟨by omega, a2, a3, by omega, a5, a6, ?_, a8⟩
      rcases k.at' with e | ⟨g, e, hg⟩
      · rw [e]; exact a7
      · rw [e]; intro e2; injection e2 with e2; omega
    · refine ⟨by omega, hAX, hAY, by omega, hAR, hAD, ?_, dA⟩
      rcases k.at' with e | ⟨g, e, hg⟩
      · rw [e]; exact vA
      · rw [e]; intro e2; injection e2 with e2; omega
  · obtain ⟨b1, b2, b3, b4, b5, b6⟩ := h.low
    exact ⟨b1, b2, b3, b4, by omega, b6⟩
  · intro i hi
    rcases hi with hi | hi
    · rcases k.at' with e | ⟨g, e, hg⟩
      · exact h.lowv i (Or.inl (by rw [← e]; exact hi))
      · rw [e] at hi; injection hi with hi; obtain ⟨b1, _⟩ := h.low; omega
    · exact h.lowv i (Or.inr hi)
  · obtain ⟨b1, b2, b3, b4, b5, b6⟩ := h.low
    have hb : Below B w wc := ⟨k.only.os, k.only.tape, k.only.output, k.only.size, fun i hi => k.only.block i (by omega) (by
      rintro (e | e)
      · omega
      · have := h.lowv i (Or.inl e); omega)⟩
    rw [hw]
    exact (hb.setCell (p := ⟨Y, 0, none⟩) b2 _).alloc (by simp [World.setCell]; omega) _

/-- The relative name at hand is added; a new one is at hand. -/
theorem PInv.last (h : PInv B X Y Z D Rb A v xs vd ds S ty val rdn dn w) {vd' : Value} (k : Longer 115 114 D vd ds (.pointer (some ⟨Rb, 0, none⟩)) w wc vd')
    (hw : w' = (wc.setCell ⟨X, 0, none⟩ (.pointer (some ⟨wc.heap.size, 0, none⟩))).alloc (.cells #[.slice none 0 0] 118 (0, 0))) :
    PInv B X Y Z D wc.heap.size A (.slice none 0 0) [] vd' (ds ++ [.pointer (some ⟨Rb, 0, none⟩)]) (fun i => S i ∨ i = Rb ∨ v.ownBlock = some i) ty val [] (dn ++ [rdn]) w' ∧ Below B w w' := by
  have hAX := ne_of_types h.hA h.hX (by decide)
  have hAD := ne_of_types h.hA h.hD (by decide)
  have hRX := ne_of_types h.hR h.hX (by decide)
  have hRY := ne_of_types h.hR h.hY (by decide)
  have hRA := ne_of_types h.hR h.hA (by decide)
  have hRD := ne_of_types h.hR h.hD (by decide)
  have hYX := ne_of_types h.hY h.hX (by decide)
  have hYD := ne_of_types h.hY h.hD (by decide)
  have hZX := ne_of_types h.hZ h.hX (by decide)
  have hZD := ne_of_types h.hZ h.hD (by decide)
  have hXD := ne_of_types h.hX h.hD (by decide)
  have vX := own_ne h.own h.hX (by decide)
  have vZ := own_ne h.own h.hZ (by decide)
  have vD := own_ne h.own h.hD (by decide)
  have vA := own_ne h.own h.hA (by decide)
  have vR := own_ne h.own h.hR (by decide)
  have dY := own_ne h.ownD h.hY (by decide)
  have dZ := own_ne h.ownD h.hZ (by decide)
  have dA := own_ne h.ownD h.hA (by decide)
  have dR := own_ne h.ownD h.hR (by decide)
  have dv : ∀ g, v.ownBlock = some g → vd.ownBlock ≠ some g := by
    intro g e hg
    rcases h.own.2 with ⟨e1, _⟩ | ⟨a, c1, u1, e1, _, e3, _⟩
    · rw [e1] at e; simp [Value.ownBlock] at e
    · rcases h.ownD.2 with ⟨e5, _⟩ | ⟨b, c2, u2, e5, _, e7, _⟩
      · rw [e5] at hg; simp [Value.ownBlock] at hg
      · rw [e1] at e; rw [e5] at hg
        simp only [Value.ownBlock, Option.some.injEq] at e hg
        exact ne_of_types e3 e7 (by decide) (by omega)
  have hsz := k.only.size
  have lX := blockLt h.hX
  have lY := blockLt h.hY
  have lZ := blockLt h.hZ
  have lR := blockLt h.hR
  have lD := blockLt h.hD
  have lA := blockLt h.hA
  have lv := owns_lt h.own
  have hsz2 : w'.heap.size = wc.heap.size + 1 := by rw [hw]; simp [World.setCell]
  have st : ∀ i, i < w.heap.size → i ≠ D → vd.ownBlock ≠ some i → i ≠ X → w'.heap[i]? = w.heap[i]? := fun i hi h1 h2 h3 => by
    rw [hw, Below.heap_alloc _ _ _ (by simp [World.setCell]; omega), Below.heap_setCell _ _ _ _ (by simpa using h3)]
    exact k.only.block i hi (by rintro (e | e); exact h1 e; exact h2 e)
  have st2 : ∀ i, i < wc.heap.size → i ≠ X → w'.heap[i]? = wc.heap[i]? := fun i hi h3 => by
    rw [hw, Below.heap_alloc _ _ _ (by simp [World.setCell]; omega), Below.heap_setCell _ _ _ _ (by simpa using h3)]
  have hXc : wc.heap[X]? = w.heap[X]? := k.only.block X lX (by rintro (e | e); exact hXD e; exact h.dX e)
  have hX' := blockSet (hXc.trans h.hX) 0 (.pointer (some ⟨wc.heap.size, 0, none⟩))
  rw [← Below.heap_alloc _ (.cells #[.slice none 0 0] 118 (0, 0)) _ (by simp [World.setCell]; omega), ← hw] at hX'
  have hR' : w'.heap[wc.heap.size]? = some (.cells #[.slice none 0 0] 118 (0, 0)) := by
    have := heap_alloc_new (wc.setCell ⟨X, 0, none⟩ (.pointer (some ⟨wc.heap.size, 0, none⟩))) (.cells #[.slice none 0 0] 118 (0, 0))
    rw [← hw] at this
    simpa [World.setCell] using this
  have hv' : ∀ g, vd'.ownBlock = some g → g < wc.heap.size := owns_lt k.own
  have d'X : vd'.ownBlock ≠ some X := by
    rcases k.at' with e | ⟨g, e, hg⟩
    · rw [e]; exact h.dX
    · rw [e]; intro e2; injection e2 with e2; omega
  have d'old : ∀ i, i < w.heap.size → vd.ownBlock ≠ some i → vd'.ownBlock ≠ some i := fun i hi hn => by
    rcases k.at' with e | ⟨g, e, hg⟩
    · rw [e]; exact hn
    · rw [e]; intro e2; injection e2 with e2; omega
  have hS : ∀ i, S i → w'.heap[i]? = w.heap[i]? := fun i hi => by
    obtain ⟨a1, a2, a3, a4, a5, a6, a7, a8⟩ := h.avoid i hi
    exact st i a1 a6 a8 a2
  have hvs : ∀ g, v.ownBlock = some g → w'.heap[g]? = w.heap[g]? := fun g hg => st g (lv g hg) (fun e => vD (by rw [hg, e])) (dv g hg) (fun e => vX (by rw [hg, e]))
  refine ⟨⟨by simpa using hX', ?_, ?_, hR', ?_, ?_, ⟨rfl, Or.inl ⟨rfl, rfl⟩⟩, ?_, by simp [Value.ownBlock], d'X, rfl, ?_, ?_, ?_, ?_⟩, ?_⟩
  · exact (st Y lY hYD dY hYX).trans h.hY
  · exact (st Z lZ hZD dZ hZX).trans h.hZ
  · exact (st2 D (by omega) hXD.symm).trans k.block
  · exact (st A lA hAD dA hAX).trans h.hA
  · have := owns_stays k.own (w' := w') (fun g hg => st2 g (hv' g hg) (fun e => d'X (by rw [hg, e])))
    simpa using this
  · refine RdnsAt.snoc ⟨Or.inr (Or.inl rfl), v, xs, (st Rb lR hRD dR hRX).trans h.hR, owns_stays h.own hvs, fun g hg => Or.inr (Or.inr hg), h.parts.stays hS (fun _ h => Or.inl h)⟩ (h.rdns.stays hS (fun _ h => Or.inl h))
  · intro i hi
    rcases hi with hi | rfl | hi
    · obtain ⟨a1, a2, a3, a4, a5, a6, a7, a8⟩ := h.avoid i hi
      exact ⟨by omega, a2, a3, a4, by omega, a6, by simp [Value.ownBlock], d'old i a1 a8⟩
    · exact ⟨by omega, hRX, hRY, hRA, by omega, hRD, by simp [Value.ownBlock], d'old i lR dR⟩
    · have hl := lv i hi
      exact ⟨by omega, fun e => vX (by rw [← e]; exact hi), fun e => h.vY (by rw [← e]; exact hi), fun e => vA (by rw [← e]; exact hi), by omega, fun e => vD (by rw [← e]; exact hi), by simp [Value.ownBlock], d'old i hl (dv i hi)⟩
  · obtain ⟨b1, b2, b3, b4, b5, b6⟩ := h.low
    exact ⟨b1, b2, b3, b4, b5, by omega⟩
  · intro i hi
    rcases hi with hi | hi
    · simp [Value.ownBlock] at hi
    · rcases k.at' with e | ⟨g, e, hg⟩
      · exact h.lowv i (Or.inr (by rw [← e]; exact hi))
      · rw [e] at hi; injection hi with hi; obtain ⟨b1, _⟩ := h.low; omega
  · obtain ⟨b1, b2, b3, b4, b5, b6⟩ := h.low
    have hb : Below B w wc := ⟨k.only.os, k.only.tape, k.only.output, k.only.size, fun i hi => k.only.block i (by omega) (by
      rintro (e | e)
      · omega
      · have := h.lowv i (Or.inr e); omega)⟩
    rw [hw]
    exact (hb.setCell (p := ⟨X, 0, none⟩) b1 _).alloc (by simp [World.setCell]; omega) _
end
end Go.Proofs.YtjmahgefijncaaaGreatFmt
