/- strings.Builder's writes leave iterators alone. -/
import Derived.Test.YtjmahgefijncaaaGreatFmtBldS
import Derived.Lib.OthersKept
namespace Go.Proofs.YtjmahgefijncaaaGreatFmt
open Go Go.RowKit

def IterKept (w w' : World) : Prop := ∀ (k : Nat) (s : ByteArray) (pos : Nat), w.heap[k]? = some (.stringIter s pos) → w'.heap[k]? = some (.stringIter s pos)
theorem IterKept.refl (w : World) : IterKept w w := fun _ _ _ h => h
theorem IterKept.trans {a b c : World} (h : IterKept a b) (k : IterKept b c) : IterKept a c := fun i s p e => k i s p (h i s p e)
theorem IterKept.alloc {a w : World} (h : IterKept a w) (o : Obj) : IterKept a (w.alloc o) := fun i s p e => (Below.heap_alloc _ _ _ (Array.getElem?_eq_some_iff.1 (h i s p e)).1).trans (h i s p e)
theorem IterKept.setCell {a w : World} (h : IterKept a w) {b o : Nat} {cs : Array Value} {t : TypeId} {f : Nat × Nat} (hb : w.heap[b]? = some (.cells cs t f)) (u : Value) : IterKept a (w.setCell ⟨b, o, none⟩ u) := fun i s p e => by
  have e2 := h i s p e
  rw [Below.heap_setCell _ _ _ _ (fun e3 => by
    have e4 : i = b := e3
    rw [e4, hb] at e2; cases e2)]
  exact e2
theorem IterKept.grown {a w w' : World} (h : IterKept a w) {B : Nat} {e : TypeId} {sz n : Nat} {v : Value} {xs : List Value} (ho : w.ownsRow B e sz v n xs) (hg : w.grownBy w' v.ownBlock) : IterKept a w' := fun i s p e1 => by
  have e2 := h i s p e1
  rw [hg.block i (Array.getElem?_eq_some_iff.1 e2).1 (fun e3 => by
    rcases ho.2 with ⟨hv, _⟩ | ⟨g, cap, cur, hv, _, hc, _⟩
    · rw [hv] at e3; cases e3
    · rw [hv] at e3
      have e4 : i = g := Option.some.inj e3
      rw [e4, hc] at e2; cases e2)]
  exact e2

set_option maxRecDepth 100000 in
set_option maxHeartbeats 2000000 in
theorem check_k (B b : Nat) (l : List Value) (w : World) (h : Bld B b l w) :
    Calls Tryz.prog 87 #[.pointer (some ⟨b, 0, none⟩)] w fun e w' => e = .returned (.tuple #[]) ∧ Lib.BuilderAt 130 5 B b (.pointer (some ⟨b, 0, none⟩)) l w' ∧ Below B w w' ∧ IterKept w w' := by
  obtain ⟨j, hj, hjs⟩ := info_bld
  rcases h with h | h
  · have h0 := h.cell0
    have hsh := h.shape
    have hfz := h.frozen0
    have hto := Lib.run_to_unsafe w ⟨b, 0, none⟩ Tryz.underlying128 Tryz.underlying172 hj (by rw [hjs]; decide) hsh (Nat.zero_lt_succ 1)
    have hfrom := Lib.run_from_unsafe w ⟨b, 0, none⟩ Tryz.underlying172 Tryz.underlying128 hj hsh bld_lies
    have hesc := escape_call (.pointer (some ⟨b, 0, none⟩)) w
    go_enter Tryz.func87, Tryz.ntmps87
    go_wp2_with fail
    go_end0
    exact ⟨rfl, h.used _, (Below.refl B w).setCell (p := ⟨b, 0, none⟩) h.1 _, by obtain ⟨_, v, hv, _⟩ := id h; exact (IterKept.refl w).setCell hv _⟩
  · have h0 := h.cell0
    have hne := Lib.run_neq_ptr_same w ⟨b, 0, none⟩ Tryz.underlying128 hj
    go_enter Tryz.func87, Tryz.ntmps87
    go_wp2_with fail
    go_end0
    exact ⟨rfl, h, Below.refl _ _, IterKept.refl _⟩

set_option maxRecDepth 100000 in
set_option maxHeartbeats 4000000 in
theorem rune_k (B b : Nat) (l : List Value) (r : Int) (hr0 : -2147483648 ≤ r) (hr1 : r ≤ 2147483647) (w : World) (h : Bld B b l w) (hlen : l.length < 1000000000) (hBw : B ≤ w.heap.size) :
    Calls Tryz.prog 74 #[.pointer (some ⟨b, 0, none⟩), .int .i32 r] w fun e w' => (∃ n, e = .returned (.tuple #[.int .i64 n, .nilIface])) ∧ Bld B b (l ++ Lib.runeCells r) w' ∧ Below B w w' ∧ IterKept w w' := by
  go_enter Tryz.func74, Tryz.ntmps74
  go_wp2_with fail
  refine (check_k B b l _ h).mono ?_
  rintro e w1 ⟨rfl, h1, hb1, hk1⟩
  have HK1 := Lib.hid hk1
  clear hk1
  have hsz1 := hb1.size
  obtain ⟨hB, v, hbk, hown, hne⟩ := h1
  have hlt := blockLt hbk
  have c0 : w1.cell? ⟨b, 0, none⟩ = some (.pointer (some ⟨b, 0, none⟩)) := blockCell hbk 0
  have c1 : w1.cell? ⟨b, 1, none⟩ = some v := blockCell hbk 1
  have HK := Lib.hid hbk
  clear hbk
  obtain ⟨o, cap, hv⟩ : ∃ o cap, v = .slice o l.length cap := by
    rcases hown.2 with ⟨hv, h0⟩ | ⟨g, cap, cur, hv, _⟩
    · exact ⟨none, 0, by rw [hv, h0]⟩
    · exact ⟨_, _, hv⟩
  have HO := Lib.hid hown
  have hr := Tryz.utf8_AppendRune_plain B v l.length l r hr0 hr1 w1 hown (by omega) (by omega)
  rw [hv] at hr c1
  have HR := Lib.hid hr
  have HB1 := Lib.hid hb1
  clear hr hown hb1
  go_wp2_with fail
  refine HR.out.mono ?_
  rintro e w2 ⟨v', rfl, hown', ob, hgrow⟩
  have hb2 : w2.heap[b]? = some (.cells #[.pointer (some ⟨b, 0, none⟩), v] 130 (0, 0)) :=
    (hgrow.block b (by simp; omega) (by rw [← hv]; exact fun e => hne e.symm)).trans ((Below.heap_alloc _ _ _ hlt).trans HK.out)
  have d0 : w2.cell? ⟨b, 0, none⟩ = some (.pointer (some ⟨b, 0, none⟩)) := blockCell hb2 0
  have d1 : w2.cell? ⟨b, 1, none⟩ = some v := blockCell hb2 1
  have f1 : w2.frozen? ⟨b, 1, none⟩ = false := blockFrozen hb2 1
  have hrl := Lib.runeCells_le r
  obtain ⟨g, cap', hv'⟩ : ∃ g cap, v' = .slice (some ⟨g, 0, none⟩) (l.length + (Lib.runeCells r).length) cap := by
    rcases hown'.2 with ⟨_, h0⟩ | ⟨g, cap, cur, hv, _⟩
    · omega
    · exact ⟨g, cap, hv⟩
  have hend : Bld B b (l ++ Lib.runeCells r) (w2.setCell ⟨b, 1, none⟩ v') := Or.inr (Lib.BuilderAt.put hB hb2 (by rw [List.length_append]; exact hown') (by decide))
  have hbel : Below B w (w2.setCell ⟨b, 1, none⟩ v') :=
    ((HB1.out.alloc (by omega) ob).grown hgrow (by simp; omega) (fun k hk => (HO.out.lt k (by rw [hv]; exact hk)).1)).setCell (p := ⟨b, 1, none⟩) hB _
  have hit : IterKept w (w2.setCell ⟨b, 1, none⟩ v') := ((HK1.out.alloc ob).grown (HO.out.alloc ob) (by rw [hv]; exact hgrow)).setCell hb2 _
  rw [hv'] at hend hbel hit
  subst hv'
  rw [hv] at d1
  have HE := Lib.hid (And.intro hend (And.intro hbel hit))
  clear hit hend hbel hb2 hgrow hown'
  go_wp2_with fail
  go_ret2
  exact ⟨⟨_, rfl⟩, HE.out⟩
set_option maxRecDepth 100000 in
set_option maxHeartbeats 4000000 in
theorem str_k (B b : Nat) (l : List Value) (s : List UInt8) (hs0 : s ≠ []) (hsl : s.length < 1000000000) (w : World) (h : Bld B b l w) (hlen : l.length < 1000000000) (hBw : B ≤ w.heap.size) :
    Calls Tryz.prog 73 #[.pointer (some ⟨b, 0, none⟩), .string (Nm.bs s)] w fun e w' => (∃ n, e = .returned (.tuple #[.int .i64 n, .nilIface])) ∧ Bld B b (l ++ Lib.byteCells s) w' ∧ Below B w w' ∧ IterKept w w' := by
  obtain ⟨i0, hi, hz0, hz1, hz2⟩ := info_byte
  have hssz := bs_size s
  have hspos : 0 < s.length := by cases s with | nil => exact absurd rfl hs0 | cons _ _ => simp
  go_enter Tryz.func73, Tryz.ntmps73
  go_wp2_with fail
  refine (check_k B b l _ h).mono ?_
  rintro e w1 ⟨rfl, h1, hb1, hk1⟩
  have HK1 := Lib.hid hk1
  clear hk1
  have hsz1 := hb1.size
  obtain ⟨hB, v, hbk, hown, hne⟩ := h1
  have hlt := blockLt hbk
  have c0 : w1.cell? ⟨b, 0, none⟩ = some (.pointer (some ⟨b, 0, none⟩)) := blockCell hbk 0
  have c1 : w1.cell? ⟨b, 1, none⟩ = some v := blockCell hbk 1
  have HK := Lib.hid hbk
  clear hbk
  go_wp2_with (at_builtin; refine Lib.wpList_append_own_string _ rfl _ _ 51 9 rfl B 5 i0 Tryz.underlying51 Tryz.underlying9 hi hz0 hz1 hz2 _ _ _ rfl hown (Nm.bs s) rfl ?c3 ?c4 ?c5 ?_)
  case c3 => unfold maxLen; omega
  case c4 => omega
  case c5 => omega
  intro v' w2 hown' hgrow _
  rw [strCells_bs] at hown'
  try rw [hssz] at hown'
  have hb2 : w2.heap[b]? = some (.cells #[.pointer (some ⟨b, 0, none⟩), v] 130 (0, 0)) :=
    (hgrow.block b hlt (fun e => hne e.symm)).trans HK.out
  have d0 : w2.cell? ⟨b, 0, none⟩ = some (.pointer (some ⟨b, 0, none⟩)) := blockCell hb2 0
  have d1 : w2.cell? ⟨b, 1, none⟩ = some v := blockCell hb2 1
  have f1 : w2.frozen? ⟨b, 1, none⟩ = false := blockFrozen hb2 1
  obtain ⟨g, cap, rfl⟩ : ∃ g cap, v' = .slice (some ⟨g, 0, none⟩) (l.length + s.length) cap := by
    rcases hown'.2 with ⟨_, h0⟩ | ⟨g, cap, cur, hv, _⟩
    · omega
    · exact ⟨g, cap, hv⟩
  have hbl : (Lib.byteCells s).length = s.length := by simp [Lib.byteCells]
  have hend : Bld B b (l ++ Lib.byteCells s) (w2.setCell ⟨b, 1, none⟩ (.slice (some ⟨g, 0, none⟩) (l.length + s.length) cap)) := Or.inr (Lib.BuilderAt.put hB hb2 (by rw [List.length_append, hbl]; exact hown') (by decide))
  have hbel : Below B w (w2.setCell ⟨b, 1, none⟩ (.slice (some ⟨g, 0, none⟩) (l.length + s.length) cap)) :=
    (hb1.grown hgrow (by omega) (fun k hk => (hown.lt k hk).1)).setCell (p := ⟨b, 1, none⟩) hB _
  have hit : IterKept w (w2.setCell ⟨b, 1, none⟩ (.slice (some ⟨g, 0, none⟩) (l.length + s.length) cap)) := (HK1.out.grown hown hgrow).setCell hb2 _
  have HE := Lib.hid (And.intro hend (And.intro hbel hit))
  clear hit hend hbel hb2 hgrow hown' hown hb1
  go_wp2_with fail
  go_ret2
  exact ⟨⟨_, rfl⟩, HE.out⟩
end Go.Proofs.YtjmahgefijncaaaGreatFmt
