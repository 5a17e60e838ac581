/- strings.Builder: copyCheck, WriteByte, WriteRune, at a builder that was only written since it was made. -/
import Derived.Test.YtjmahgefijncaaaGreatFmtTrim
import Derived.Test.YtjmahgefijncaaaGreatFmtShelf
import Derived.Lib.Builder
import Derived.Laws.Externs
import Derived.OwnWalk
namespace Go.Proofs.YtjmahgefijncaaaGreatFmt
open Go Go.RowKit

abbrev Bld (B b : Nat) (l : List Value) (w : World) : Prop := Lib.IsBuilder 130 5 B b l w

theorem info_bld : ∃ j, Tryz.prog.info? 130 = some j ∧ j.size = 2 := Option.map_eq_some_iff.1 (show (Tryz.prog.info? 130).map (·.size) = some 2 by kernel_rfl)
theorem bld_lies : liesAt Tryz.prog Tryz.prog.depth 130 (2 / Tryz.prog.cellsOf 130) 0 130 1 = true := by kernel_rfl
theorem info_byte : ∃ i, Tryz.prog.info? 5 = some i ∧ i.zero = some (.int .u8 0) ∧ i.size = 1 ∧ i.bytes = 1 := info_parts (by kernel_rfl)

theorem escape_call (x : Value) (w : World) : (callFunc 102 #[x]).run Tryz.prog w = .ok (.value x) w := by
  rw [run_callFunc_extern Tryz.func102 (by kernel_rfl) (by kernel_rfl) (by kernel_rfl) (e := Extern.AbiNoEscape.same) (by kernel_rfl)]
  rfl

set_option maxRecDepth 100000 in
set_option maxHeartbeats 2000000 in
theorem check_bld (B b : Nat) (l : List Value) (w : World) (h : Bld B b l w) :
    Calls Tryz.prog 87 #[.pointer (some ⟨b, 0, none⟩)] w fun e w' => e = .returned (.tuple #[]) ∧ Lib.BuilderAt 130 5 B b (.pointer (some ⟨b, 0, none⟩)) l w' ∧ Below B w w' := by
  obtain ⟨j, hj, hjs⟩ := info_bld
  rcases h with h | h
  · have h0 := h.cell0
    have hsh := h.shape
    have hfz := h.frozen0
    have hto := Lib.run_to_unsafe w ⟨b, 0, none⟩ Tryz.underlying128 Tryz.underlying172 hj (by rw [hjs]; decide) hsh (Nat.zero_lt_succ 1)
    have hfrom := Lib.run_from_unsafe w ⟨b, 0, none⟩ Tryz.underlying172 Tryz.underlying128 hj hsh bld_lies
    have hesc := escape_call (.pointer (some ⟨b, 0, none⟩)) w
    go_enter Tryz.func87, Tryz.ntmps87
    go_wp2_with fail
    go_end0
    exact ⟨rfl, h.used _, (Below.refl B w).setCell (p := ⟨b, 0, none⟩) h.1 _⟩
  · have h0 := h.cell0
    have hne := Lib.run_neq_ptr_same w ⟨b, 0, none⟩ Tryz.underlying128 hj
    go_enter Tryz.func87, Tryz.ntmps87
    go_wp2_with fail
    go_end0
    exact ⟨rfl, h, Below.refl _ _⟩

theorem Bld.lt {B b : Nat} {l : List Value} {w : World} (h : Bld B b l w) : b < w.heap.size := by rcases h with h | h <;> exact h.lt
theorem Bld.alloc {B b : Nat} {l : List Value} {w : World} (h : Bld B b l w) (o : Obj) : Bld B b l (w.alloc o) := by
  have hb : Lib.IsBuilder 130 5 B b l w := h
  rcases hb with ⟨h1, v, h2, h3, h4⟩ | ⟨h1, v, h2, h3, h4⟩
  · exact Or.inl ⟨h1, v, (Below.heap_alloc _ _ _ (blockLt h2)).trans h2, h3.alloc _, h4⟩
  · exact Or.inr ⟨h1, v, (Below.heap_alloc _ _ _ (blockLt h2)).trans h2, h3.alloc _, h4⟩

set_option maxRecDepth 100000 in
set_option maxHeartbeats 4000000 in
theorem byte_bld (B b : Nat) (l : List Value) (c : Int) (w : World) (h : Bld B b l w) (hlen : l.length < 1000000000) (hBw : B ≤ w.heap.size) :
    Calls Tryz.prog 77 #[.pointer (some ⟨b, 0, none⟩), .int .u8 c] w fun e w' => e = .returned .nilIface ∧ Bld B b (l ++ [.int .u8 c]) w' ∧ Below B w w' := by
  obtain ⟨i0, hi, hz0, hz1, hz2⟩ := info_byte
  go_enter Tryz.func77, Tryz.ntmps77
  go_wp2_with fail
  refine (check_bld B b l _ h).mono ?_
  rintro e w1 ⟨rfl, h1, hb1⟩
  have hsz1 := hb1.size
  obtain ⟨hB, v, hbk, hown, hne⟩ := h1
  have hlt := blockLt hbk
  have c0 : w1.cell? ⟨b, 0, none⟩ = some (.pointer (some ⟨b, 0, none⟩)) := blockCell hbk 0
  have c1 : w1.cell? ⟨b, 1, none⟩ = some v := blockCell hbk 1
  have HK := Lib.hid hbk
  clear hbk
  go_wp2_with (at_builtin; refine wpList_append_own _ rfl _ _ 51 rfl B 5 i0 (.int .u8 0) 1 1 Tryz.underlying51 hi hz0 hz1 hz2 rfl (by decide) _ _ _ rfl (hown.alloc _) ⟨w1.heap.size, 0, none⟩ 1 1 [.int .u8 c] rfl rfl ?c1 ?c2 ?c3 ?c4 ?c5 ?_)
  case c1 =>
    intro j u hj
    match j, hj with
    | 0, hj => simp at hj; subst hj; simp [Addr.add]
  case c2 => intro u hu; simp at hu; subst hu; rfl
  case c3 => unfold maxLen; omega
  case c4 => omega
  case c5 => simp; omega
  intro v' w2 hown' hgrow _
  have hb2 : w2.heap[b]? = some (.cells #[.pointer (some ⟨b, 0, none⟩), v] 130 (0, 0)) :=
    (hgrow.block b (by simp; omega) (fun e => hne e.symm)).trans ((Below.heap_alloc _ _ _ hlt).trans HK.out)
  have d0 : w2.cell? ⟨b, 0, none⟩ = some (.pointer (some ⟨b, 0, none⟩)) := blockCell hb2 0
  have d1 : w2.cell? ⟨b, 1, none⟩ = some v := blockCell hb2 1
  have f1 : w2.frozen? ⟨b, 1, none⟩ = false := blockFrozen hb2 1
  obtain ⟨g, cap, rfl⟩ : ∃ g cap, v' = .slice (some ⟨g, 0, none⟩) (l.length + 1) cap := by
    rcases hown'.2 with ⟨_, h0⟩ | ⟨g, cap, cur, hv, _⟩
    · omega
    · exact ⟨g, cap, hv⟩
  have hend : Bld B b (l ++ [.int .u8 c]) (w2.setCell ⟨b, 1, none⟩ (.slice (some ⟨g, 0, none⟩) (l.length + 1) cap)) := Or.inr (Lib.BuilderAt.put hB hb2 (by simpa using hown') (by decide))
  have hbel : Below B w (w2.setCell ⟨b, 1, none⟩ (.slice (some ⟨g, 0, none⟩) (l.length + 1) cap)) :=
    ((hb1.alloc (by omega) _).grown hgrow (by simp; omega) (fun k hk => (hown.lt k hk).1)).setCell (p := ⟨b, 1, none⟩) hB _
  have HE := Lib.hid (And.intro hend hbel)
  clear hend hbel hb2 hgrow hown' hown hb1
  go_wp2_with fail
  go_ret
  exact ⟨rfl, HE.out⟩

set_option maxRecDepth 100000 in
set_option maxHeartbeats 4000000 in
theorem rune_bld (B b : Nat) (l : List Value) (r : Int) (hr0 : -2147483648 ≤ r) (hr1 : r ≤ 2147483647) (w : World) (h : Bld B b l w) (hlen : l.length < 1000000000) (hBw : B ≤ w.heap.size) :
    Calls Tryz.prog 74 #[.pointer (some ⟨b, 0, none⟩), .int .i32 r] w fun e w' => (∃ n, e = .returned (.tuple #[.int .i64 n, .nilIface])) ∧ Bld B b (l ++ Lib.runeCells r) w' ∧ Below B w w' := by
  go_enter Tryz.func74, Tryz.ntmps74
  go_wp2_with fail
  refine (check_bld B b l _ h).mono ?_
  rintro e w1 ⟨rfl, h1, hb1⟩
  have hsz1 := hb1.size
  obtain ⟨hB, v, hbk, hown, hne⟩ := h1
  have hlt := blockLt hbk
  have c0 : w1.cell? ⟨b, 0, none⟩ = some (.pointer (some ⟨b, 0, none⟩)) := blockCell hbk 0
  have c1 : w1.cell? ⟨b, 1, none⟩ = some v := blockCell hbk 1
  have HK := Lib.hid hbk
  clear hbk
  obtain ⟨o, cap, hv⟩ : ∃ o cap, v = .slice o l.length cap := by
    rcases hown.2 with ⟨hv, h0⟩ | ⟨g, cap, cur, hv, _⟩
    · exact ⟨none, 0, by rw [hv, h0]⟩
    · exact ⟨_, _, hv⟩
  have HO := Lib.hid hown
  have hr := Tryz.utf8_AppendRune_plain B v l.length l r hr0 hr1 w1 hown (by omega) (by omega)
  rw [hv] at hr c1
  have HR := Lib.hid hr
  have HB1 := Lib.hid hb1
  clear hr hown hb1
  go_wp2_with fail
  refine HR.out.mono ?_
  rintro e w2 ⟨v', rfl, hown', ob, hgrow⟩
  have hb2 : w2.heap[b]? = some (.cells #[.pointer (some ⟨b, 0, none⟩), v] 130 (0, 0)) :=
    (hgrow.block b (by simp; omega) (by rw [← hv]; exact fun e => hne e.symm)).trans ((Below.heap_alloc _ _ _ hlt).trans HK.out)
  have d0 : w2.cell? ⟨b, 0, none⟩ = some (.pointer (some ⟨b, 0, none⟩)) := blockCell hb2 0
  have d1 : w2.cell? ⟨b, 1, none⟩ = some v := blockCell hb2 1
  have f1 : w2.frozen? ⟨b, 1, none⟩ = false := blockFrozen hb2 1
  have hrl := Lib.runeCells_le r
  obtain ⟨g, cap', hv'⟩ : ∃ g cap, v' = .slice (some ⟨g, 0, none⟩) (l.length + (Lib.runeCells r).length) cap := by
    rcases hown'.2 with ⟨_, h0⟩ | ⟨g, cap, cur, hv, _⟩
    · omega
    · exact ⟨g, cap, hv⟩
  have hend : Bld B b (l ++ Lib.runeCells r) (w2.setCell ⟨b, 1, none⟩ v') := Or.inr (Lib.BuilderAt.put hB hb2 (by rw [List.length_append]; exact hown') (by decide))
  have hbel : Below B w (w2.setCell ⟨b, 1, none⟩ v') :=
    ((HB1.out.alloc (by omega) ob).grown hgrow (by simp; omega) (fun k hk => (HO.out.lt k (by rw [hv]; exact hk)).1)).setCell (p := ⟨b, 1, none⟩) hB _
  rw [hv'] at hend hbel
  subst hv'
  rw [hv] at d1
  have HE := Lib.hid (And.intro hend hbel)
  clear hend hbel hb2 hgrow hown'
  go_wp2_with fail
  go_ret2
  exact ⟨⟨_, rfl⟩, HE.out⟩
end Go.Proofs.YtjmahgefijncaaaGreatFmt
