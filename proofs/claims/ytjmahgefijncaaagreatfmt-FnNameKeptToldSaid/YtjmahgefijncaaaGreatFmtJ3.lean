/- stripLeadingAndTrailingSpaces. -/
import Derived.Test.YtjmahgefijncaaaGreatFmtJ1
import Derived.Test.YtjmahgefijncaaaGreatFmtShelf
import Derived.Lib.Builder
import Derived.Laws.Externs
import Derived.OwnWalk
import Derived.Laws.IdiomStrings
import Derived.Laws.Cover4
import Derived.Deep.LoopGhost
import Derived.Lib.ConvBytes
import Derived.Lib.AtoiErrMem
import Derived.Test.YtjmahgefijncaaaGreatFmtJ2
import Derived.BigRegion
import Derived.Deep.AppendLies
import Derived.Deep.RegionLaw
import Derived.Deep.DeepCutAuto
set_option linter.unusedVariables false
set_option linter.unusedSimpArgs false
namespace Go.Proofs.YtjmahgefijncaaaGreatFmt
open Go Go.RowKit

theorem trimL_le (l : List UInt8) : (Nm.trimL l).length ≤ l.length := by
  unfold Nm.trimL
  exact (List.dropWhile_sublist _).length_le
theorem trimR_le (l : List UInt8) : (Nm.trimR l).length ≤ l.length := by
  unfold Nm.trimR
  rw [List.length_take]; omega

set_option maxRecDepth 100000 in
set_option maxHeartbeats 4000000 in
theorem trim_sp (l : List UInt8) (hl : l.length < 1000000000) (w : World) :
    Calls Tryz.prog 108 #[.string (Nm.bs l), .string ⟨#[32]⟩] w fun e w' => e = .returned (.string (Nm.bs (Nm.trimR (Nm.trimL l)))) ∧ Below w.heap.size w w' := by
  have h1 := trimL_le l
  go_enter Tryz.func108, Tryz.ntmps108
  go_wp2_with fail
  refine (triml_sp l w).mono ?_
  rintro e w1 ⟨rfl, hb⟩
  have HB := Lib.hid hb
  clear hb
  go_wp2_with fail
  refine (trimr_sp (Nm.trimL l) (by omega) w1).mono ?_
  rintro e w2 ⟨rfl, hb⟩
  have HB2 := Lib.hid (HB.out.trans (hb.mono HB.out.size))
  clear hb
  go_wp2_with fail
  go_ret
  exact ⟨rfl, HB2.out⟩

theorem bs_app (a b : List UInt8) : Nm.bs a ++ Nm.bs b = Nm.bs (a ++ b) := by
  apply ByteArray.ext
  rw [ByteArray.data_append]
  show a.toArray ++ b.toArray = (a ++ b).toArray
  simp

theorem last_of {l : List UInt8} {n : Nat} (h : l.length = n + 1) : l.getLast? = l[n]? := by
  rw [List.getLast?_eq_getElem?, h]; rfl

set_option maxRecDepth 100000 in
set_option maxHeartbeats 8000000 in
theorem strip_any (l : List UInt8) (hl : l.length < 1000000000) (w : World) :
    Calls Tryz.prog 95 #[.string (Nm.bs l)] w fun e w' => e = .returned (.string (Nm.bs (Nm.strip l))) ∧ Below w.heap.size w w' := by
  have h1 := trimL_le l
  have h2 := trimR_le (Nm.trimL l)
  have hC := Lib.hid (trim_sp l hl w)
  have hsl := bs_size l
  obtain ⟨t, ht⟩ : ∃ t, t = Nm.trimR (Nm.trimL l) := ⟨_, rfl⟩
  have hst : Nm.strip l = if t ≠ [] ∧ l.getLast? = some 32 ∧ Nm.slashes t % 2 = 1 then t ++ [32] else t := by rw [ht]; rfl
  rw [← ht] at hC h2
  have hsz := bs_size t
  have HST := Lib.hid hst
  clear hst ht
  by_cases h0 : t.length = 0
  · have e0 : t = [] := List.length_eq_zero_iff.1 h0
    have hr : Nm.strip l = t := by rw [HST.out, if_neg (by rintro ⟨h, _⟩; exact h e0)]
    have t1 : decide ((t.length : Int) > 0) = false := by rw [h0]; rfl
    clear e0
    go_enter Tryz.func95, Tryz.ntmps95
    go_wp2_with fail
    refine hC.out.mono ?_
    rintro e w1 ⟨rfl, hb⟩
    have HB := Lib.hid hb
    clear hb
    go_wp2_with fail
    go_ret
    exact ⟨by rw [hr]; rfl, HB.out⟩
  · have e0 : t ≠ [] := fun h => h0 (by rw [h]; rfl)
    have t1 : decide ((t.length : Int) > 0) = true := by simp; omega
    obtain ⟨n, hn⟩ : ∃ n, l.length = n + 1 := ⟨l.length - 1, by omega⟩
    have hn2 : n < (Nm.bs l).size := by omega
    have hn3 : n < l.length := by omega
    obtain ⟨b, hb, hget⟩ : ∃ b : UInt8, l[n]? = some b ∧ ((Nm.bs l)[n]'hn2).toNat = b.toNat := ⟨_, List.getElem?_eq_getElem hn3, by rw [bs_get]⟩
    have hlast := last_of hn
    rw [hb] at hlast
    have hi : (l.length : Int) - 1 = n := by omega
    by_cases h32 : b = 32
    · have hb32 : ((b.toNat : Int) == 32) = true := by rw [h32]; rfl
      go_enter Tryz.func95, Tryz.ntmps95
      go_wp2_with fail
      refine hC.out.mono ?_
      rintro e w1 ⟨rfl, hb⟩
      have HB := Lib.hid hb
      clear hb
      go_wp2_with fail
      go_loopw [4, 5] (fun t4 t5 wr => ∃ k m : Nat, t4 = .int .i64 k ∧ t5 = .int .i64 ((m : Int) - 1) ∧ k + m = t.length ∧ Nm.slashes t = k + Nm.slashesTo t m ∧ Hid (Below w.heap.size w wr)) (fun _ t5 _ => (intOf t5 + 1).toNat)
      case atStart => exact ⟨0, t.length, rfl, rfl, by omega, by rw [Nat.zero_add]; rfl, HB⟩
      case round =>
        clear HB
        obtain ⟨k, m, rfl, rfl, hkm, hsl2, HB⟩ := hrel
        have hfin : ∀ k : Nat, Nm.slashes t = k → (((k : Int) % 2 == 1) = true → Nm.bs t ++ ⟨#[32]⟩ = Nm.bs (Nm.strip l)) ∧ (((k : Int) % 2 == 1) = false → t = Nm.strip l) := by
          intro k hk
          rw [HST.out, hk]
          refine ⟨fun hq => ?_, fun hq => ?_⟩
          · have hq2 : (k : Int) % 2 = 1 := by simpa using hq
            rw [if_pos ⟨e0, by rw [hlast, h32], by omega⟩, ← bs_app]; rfl
          · rw [beq_eq_false_iff_ne] at hq
            rw [if_neg (by rintro ⟨_, _, h⟩; omega)]
        have HF := Lib.hid hfin
        have HSL := Lib.hid hsl2
        clear hfin hsl2
        cases m with
        | zero =>
          have hsk : Nm.slashes t = k := HSL.out
          have hq : ((k : Int) % 2 == 1) = true ∨ ((k : Int) % 2 == 1) = false := by cases ((k : Int) % 2 == 1) <;> simp
          rcases hq with hq | hq
          · have HR := Lib.hid ((HF.out k hsk).1 hq)
            clear hsk
            go_wp2_with fail
            go_ret
            exact ⟨by rw [← HR.out]; rfl, HB.out⟩
          · have HR := Lib.hid ((HF.out k hsk).2 hq)
            clear hsk
            go_wp2_with fail
            go_ret
            exact ⟨by rw [← HR.out]; rfl, HB.out⟩
        | succ m =>
          have hm2 : m < (Nm.bs t).size := by omega
          have hm3 : m < t.length := by omega
          obtain ⟨c, hc, hgc⟩ : ∃ c : UInt8, t[m]? = some c ∧ ((Nm.bs t)[m]'hm2).toNat = c.toNat := ⟨_, List.getElem?_eq_getElem hm3, by rw [bs_get]⟩
          have him : (((m + 1 : Nat) : Int)) - 1 = m := by omega
          rw [him]
          by_cases h92 : c = 92
          · have hc92 : ((c.toNat : Int) == 92) = true := by rw [h92]; rfl
            have hs2 : Nm.slashes t = (k + 1) + Nm.slashesTo t m := by
              rw [HSL.out]
              show k + (if t[m]? = some 92 then _ else _) = _
              rw [if_pos (by rw [hc, h92])]; omega
            have HS2 := Lib.hid hs2
            clear hs2
            go_wp2_with fail
            exact ⟨⟨k + 1, m, by go_num, rfl, by omega, HS2.out, HB⟩, by simp [intOf]⟩
          · have hc92 : ((c.toNat : Int) == 92) = false := by
              rw [beq_eq_false_iff_ne]
              intro h
              exact h92 (UInt8.toNat_inj.1 (by have : c.toNat = 92 := by omega
                                               rw [this]; rfl))
            have hsk : Nm.slashes t = k := by
              rw [HSL.out]
              show k + (if t[m]? = some 92 then _ else _) = _
              rw [if_neg (by rw [hc]; intro h; exact h92 (Option.some.inj h))]; rfl
            have hq : ((k : Int) % 2 == 1) = true ∨ ((k : Int) % 2 == 1) = false := by cases ((k : Int) % 2 == 1) <;> simp
            rcases hq with hq | hq
            · have HR := Lib.hid ((HF.out k hsk).1 hq)
              clear hsk
              go_wp2_with fail
              go_ret
              exact ⟨by rw [← HR.out]; rfl, HB.out⟩
            · have HR := Lib.hid ((HF.out k hsk).2 hq)
              clear hsk
              go_wp2_with fail
              go_ret
              exact ⟨by rw [← HR.out]; rfl, HB.out⟩
    · have hb32 : ((b.toNat : Int) == 32) = false := by
        rw [beq_eq_false_iff_ne]
        intro h
        exact h32 (UInt8.toNat_inj.1 (by have : b.toNat = 32 := by omega
                                         rw [this]; rfl))
      have hr : Nm.strip l = t := by rw [HST.out, if_neg (by rintro ⟨_, h, _⟩; rw [hlast] at h; exact h32 (Option.some.inj h))]
      have HR := Lib.hid hr
      clear hr
      go_enter Tryz.func95, Tryz.ntmps95
      go_wp2_with fail
      refine hC.out.mono ?_
      rintro e w1 ⟨rfl, hb⟩
      have HB := Lib.hid hb
      clear hb
      go_wp2_with fail
      go_ret
      exact ⟨by rw [HR.out]; rfl, HB.out⟩
end Go.Proofs.YtjmahgefijncaaaGreatFmt

/- strings.Builder: copyCheck, WriteByte, WriteRune, at a builder that was only written since it was made. -/
namespace Go.Proofs.YtjmahgefijncaaaGreatFmt
open Go Go.RowKit

abbrev Bld (B b : Nat) (l : List Value) (w : World) : Prop := Lib.IsBuilder 130 5 B b l w

theorem info_bld : ∃ j, Tryz.prog.info? 130 = some j ∧ j.size = 2 := Option.map_eq_some_iff.1 (show (Tryz.prog.info? 130).map (·.size) = some 2 by kernel_rfl)
theorem bld_lies : liesAt Tryz.prog Tryz.prog.depth 130 (2 / Tryz.prog.cellsOf 130) 0 130 1 = true := by kernel_rfl
theorem info_byte : ∃ i, Tryz.prog.info? 5 = some i ∧ i.zero = some (.int .u8 0) ∧ i.size = 1 ∧ i.bytes = 1 := info_parts (by kernel_rfl)

theorem escape_call (x : Value) (w : World) : (callFunc 102 #[x]).run Tryz.prog w = .ok (.value x) w := by
  rw [run_callFunc_extern Tryz.func102 (by kernel_rfl) (by kernel_rfl) (by kernel_rfl) (e := Extern.AbiNoEscape.same) (by kernel_rfl)]
  rfl

set_option maxRecDepth 100000 in
set_option maxHeartbeats 2000000 in
theorem check_bld (B b : Nat) (l : List Value) (w : World) (h : Bld B b l w) :
    Calls Tryz.prog 87 #[.pointer (some ⟨b, 0, none⟩)] w fun e w' => e = .returned (.tuple #[]) ∧ Lib.BuilderAt 130 5 B b (.pointer (some ⟨b, 0, none⟩)) l w' ∧ Below B w w' := by
  obtain ⟨j, hj, hjs⟩ := info_bld
  rcases h with h | h
  · have h0 := h.cell0
    have hsh := h.shape
    have hfz := h.frozen0
    have hto := Lib.run_to_unsafe w ⟨b, 0, none⟩ Tryz.underlying128 Tryz.underlying172 hj (by rw [hjs]; decide) hsh (Nat.zero_lt_succ 1)
    have hfrom := Lib.run_from_unsafe w ⟨b, 0, none⟩ Tryz.underlying172 Tryz.underlying128 hj hsh bld_lies
    have hesc := escape_call (.pointer (some ⟨b, 0, none⟩)) w
    go_enter Tryz.func87, Tryz.ntmps87
    go_wp2_with fail
    go_end0
    exact ⟨rfl, h.used _, (Below.refl B w).setCell (p := ⟨b, 0, none⟩) h.1 _⟩
  · have h0 := h.cell0
    have hne := Lib.run_neq_ptr_same w ⟨b, 0, none⟩ Tryz.underlying128 hj
    go_enter Tryz.func87, Tryz.ntmps87
    go_wp2_with fail
    go_end0
    exact ⟨rfl, h, Below.refl _ _⟩

theorem Bld.lt {B b : Nat} {l : List Value} {w : World} (h : Bld B b l w) : b < w.heap.size := by rcases h with h | h <;> exact h.lt
theorem Bld.alloc {B b : Nat} {l : List Value} {w : World} (h : Bld B b l w) (o : Obj) : Bld B b l (w.alloc o) := by
  have hb : Lib.IsBuilder 130 5 B b l w := h
  rcases hb with ⟨h1, v, h2, h3, h4⟩ | ⟨h1, v, h2, h3, h4⟩
  · exact Or.inl ⟨h1, v, (Below.heap_alloc _ _ _ (blockLt h2)).trans h2, h3.alloc _, h4⟩
  · exact Or.inr ⟨h1, v, (Below.heap_alloc _ _ _ (blockLt h2)).trans h2, h3.alloc _, h4⟩

set_option maxRecDepth 100000 in
set_option maxHeartbeats 4000000 in
theorem byte_bld (B b : Nat) (l : List Value) (c : Int) (w : World) (h : Bld B b l w) (hlen : l.length < 1000000000) (hBw : B ≤ w.heap.size) :
    Calls Tryz.prog 77 #[.pointer (some ⟨b, 0, none⟩), .int .u8 c] w fun e w' => e = .returned .nilIface ∧ Bld B b (l ++ [.int .u8 c]) w' ∧ Below B w w' := by
  obtain ⟨i0, hi, hz0, hz1, hz2⟩ := info_byte
  go_enter Tryz.func77, Tryz.ntmps77
  go_wp2_with fail
  refine (check_bld B b l _ h).mono ?_
  rintro e w1 ⟨rfl, h1, hb1⟩
  have hsz1 := hb1.size
  obtain ⟨hB, v, hbk, hown, hne⟩ := h1
  have hlt := blockLt hbk
  have c0 : w1.cell? ⟨b, 0, none⟩ = some (.pointer (some ⟨b, 0, none⟩)) := blockCell hbk 0
  have c1 : w1.cell? ⟨b, 1, none⟩ = some v := blockCell hbk 1
  have HK := Lib.hid hbk
  clear hbk
  go_wp2_with (at_builtin; refine wpList_append_own _ rfl _ _ 51 rfl B 5 i0 (.int .u8 0) 1 1 Tryz.underlying51 hi hz0 hz1 hz2 rfl (by decide) _ _ _ rfl (hown.alloc _) ⟨w1.heap.size, 0, none⟩ 1 1 [.int .u8 c] rfl rfl ?c1 ?c2 ?c3 ?c4 ?c5 ?_)
  case c1 =>
    intro j u hj
    match j, hj with
    | 0, hj => simp at hj; subst hj; simp [Addr.add]
  case c2 => intro u hu; simp at hu; subst hu; rfl
  case c3 => unfold maxLen; omega
  case c4 => omega
  case c5 => simp; omega
  intro v' w2 hown' hgrow _
  have hb2 : w2.heap[b]? = some (.cells #[.pointer (some ⟨b, 0, none⟩), v] 130 (0, 0)) :=
    (hgrow.block b (by simp; omega) (fun e => hne e.symm)).trans ((Below.heap_alloc _ _ _ hlt).trans HK.out)
  have d0 : w2.cell? ⟨b, 0, none⟩ = some (.pointer (some ⟨b, 0, none⟩)) := blockCell hb2 0
  have d1 : w2.cell? ⟨b, 1, none⟩ = some v := blockCell hb2 1
  have f1 : w2.frozen? ⟨b, 1, none⟩ = false := blockFrozen hb2 1
  obtain ⟨g, cap, rfl⟩ : ∃ g cap, v' = .slice (some ⟨g, 0, none⟩) (l.length + 1) cap := by
    rcases hown'.2 with ⟨_, h0⟩ | ⟨g, cap, cur, hv, _⟩
    · omega
    · exact ⟨g, cap, hv⟩
  have hend : Bld B b (l ++ [.int .u8 c]) (w2.setCell ⟨b, 1, none⟩ (.slice (some ⟨g, 0, none⟩) (l.length + 1) cap)) := Or.inr (Lib.BuilderAt.put hB hb2 (by simpa using hown') (by decide))
  have hbel : Below B w (w2.setCell ⟨b, 1, none⟩ (.slice (some ⟨g, 0, none⟩) (l.length + 1) cap)) :=
    ((hb1.alloc (by omega) _).grown hgrow (by simp; omega) (fun k hk => (hown.lt k hk).1)).setCell (p := ⟨b, 1, none⟩) hB _
  have HE := Lib.hid (And.intro hend hbel)
  clear hend hbel hb2 hgrow hown' hown hb1
  go_wp2_with fail
  go_ret
  exact ⟨rfl, HE.out⟩

set_option maxRecDepth 100000 in
set_option maxHeartbeats 4000000 in
theorem rune_bld (B b : Nat) (l : List Value) (r : Int) (hr0 : -2147483648 ≤ r) (hr1 : r ≤ 2147483647) (w : World) (h : Bld B b l w) (hlen : l.length < 1000000000) (hBw : B ≤ w.heap.size) :
    Calls Tryz.prog 74 #[.pointer (some ⟨b, 0, none⟩), .int .i32 r] w fun e w' => (∃ n, e = .returned (.tuple #[.int .i64 n, .nilIface])) ∧ Bld B b (l ++ Lib.runeCells r) w' ∧ Below B w w' := by
  go_enter Tryz.func74, Tryz.ntmps74
  go_wp2_with fail
  refine (check_bld B b l _ h).mono ?_
  rintro e w1 ⟨rfl, h1, hb1⟩
  have hsz1 := hb1.size
  obtain ⟨hB, v, hbk, hown, hne⟩ := h1
  have hlt := blockLt hbk
  have c0 : w1.cell? ⟨b, 0, none⟩ = some (.pointer (some ⟨b, 0, none⟩)) := blockCell hbk 0
  have c1 : w1.cell? ⟨b, 1, none⟩ = some v := blockCell hbk 1
  have HK := Lib.hid hbk
  clear hbk
  obtain ⟨o, cap, hv⟩ : ∃ o cap, v = .slice o l.length cap := by
    rcases hown.2 with ⟨hv, h0⟩ | ⟨g, cap, cur, hv, _⟩
    · exact ⟨none, 0, by rw [hv, h0]⟩
    · exact ⟨_, _, hv⟩
  have HO := Lib.hid hown
  have hr := Tryz.utf8_AppendRune_plain B v l.length l r hr0 hr1 w1 hown (by omega) (by omega)
  rw [hv] at hr c1
  have HR := Lib.hid hr
  have HB1 := Lib.hid hb1
  clear hr hown hb1
  go_wp2_with fail
  refine HR.out.mono ?_
  rintro e w2 ⟨v', rfl, hown', ob, hgrow⟩
  have hb2 : w2.heap[b]? = some (.cells #[.pointer (some ⟨b, 0, none⟩), v] 130 (0, 0)) :=
    (hgrow.block b (by simp; omega) (by rw [← hv]; exact fun e => hne e.symm)).trans ((Below.heap_alloc _ _ _ hlt).trans HK.out)
  have d0 : w2.cell? ⟨b, 0, none⟩ = some (.pointer (some ⟨b, 0, none⟩)) := blockCell hb2 0
  have d1 : w2.cell? ⟨b, 1, none⟩ = some v := blockCell hb2 1
  have f1 : w2.frozen? ⟨b, 1, none⟩ = false := blockFrozen hb2 1
  have hrl := Lib.runeCells_le r
  obtain ⟨g, cap', hv'⟩ : ∃ g cap, v' = .slice (some ⟨g, 0, none⟩) (l.length + (Lib.runeCells r).length) cap := by
    rcases hown'.2 with ⟨_, h0⟩ | ⟨g, cap, cur, hv, _⟩
    · omega
    · exact ⟨g, cap, hv⟩
  have hend : Bld B b (l ++ Lib.runeCells r) (w2.setCell ⟨b, 1, none⟩ v') := Or.inr (Lib.BuilderAt.put hB hb2 (by rw [List.length_append]; exact hown') (by decide))
  have hbel : Below B w (w2.setCell ⟨b, 1, none⟩ v') :=
    ((HB1.out.alloc (by omega) ob).grown hgrow (by simp; omega) (fun k hk => (HO.out.lt k (by rw [hv]; exact hk)).1)).setCell (p := ⟨b, 1, none⟩) hB _
  rw [hv'] at hend hbel
  subst hv'
  rw [hv] at d1
  have HE := Lib.hid (And.intro hend hbel)
  clear hend hbel hb2 hgrow hown'
  go_wp2_with fail
  go_ret2
  exact ⟨⟨_, rfl⟩, HE.out⟩
end Go.Proofs.YtjmahgefijncaaaGreatFmt

/- Runes and pairs of digits in memory. -/
namespace Go.Proofs.YtjmahgefijncaaaGreatFmt
open Go Go.RowKit

theorem runes_array (s : ByteArray) : ∀ (f i : Nat) (acc : Array Value), (Conv.runesFrom s f i acc).toList = acc.toList ++ (Nm.runes s f i).map fun (r : Nat) => Value.int .i32 (r : Int)
  | 0, i, acc => by simp [Conv.runesFrom, Nm.runes]
  | f + 1, i, acc => by
    unfold Conv.runesFrom Nm.runes
    split
    · simp only []
      rw [runes_array s f]
      simp
    · simp
theorem runes_len (s : ByteArray) : ∀ f i, (Nm.runes s f i).length ≤ f
  | 0, i => by simp [Nm.runes]
  | f + 1, i => by
    unfold Nm.runes
    split
    · have := runes_len s f (i + (Utf8.decode s i).2)
      simp; omega
    · simp
theorem runes_small (s : ByteArray) : ∀ f i, ∀ r ∈ Nm.runes s f i, r ≤ 2147483647
  | 0, i => by simp [Nm.runes]
  | f + 1, i => by
    unfold Nm.runes
    split
    · intro r hr
      rcases List.mem_cons.1 hr with rfl | hr
      · exact decode_le s i
      · exact runes_small s f _ r hr
    · simp

/-- A row of runes. -/
def RuneRow (w : World) (R : Nat) (rs : List Nat) : Prop := ∃ cur : Array Value, w.heap[R]? = some (.cells cur 21 (0, 0)) ∧ ∀ (j r : Nat), rs[j]? = some r → cur[j]? = some (Value.int .i32 (r : Int))
theorem RuneRow.stays {w w' : World} {R : Nat} {rs : List Nat} (h : RuneRow w R rs) (k : w'.heap[R]? = w.heap[R]?) : RuneRow w' R rs := by
  obtain ⟨cur, h1, h2⟩ := h; exact ⟨cur, k.trans h1, h2⟩
theorem RuneRow.lt {w : World} {R : Nat} {rs : List Nat} (h : RuneRow w R rs) : R < w.heap.size := by obtain ⟨cur, h1, _⟩ := h; exact blockLt h1
theorem RuneRow.cell {w : World} {R : Nat} {rs : List Nat} (h : RuneRow w R rs) {j r : Nat} (hj : rs[j]? = some r) : w.cell? ⟨R, j, none⟩ = some (.int .i32 (r : Int)) := by
  obtain ⟨cur, h1, h2⟩ := h
  exact (blockCell h1 j).trans (h2 j r hj)

/-- The conversion to runes. -/
theorem to_runes (t : List UInt8) (ht : t.length < 1000000000) (w : World) : ∃ W cap, (convert 9 153 (.string (Nm.bs t))).run Tryz.prog w = .ok (.slice (some ⟨w.heap.size, 0, none⟩) (Nm.runes (Nm.bs t) t.length 0).length cap) W ∧
    RuneRow W w.heap.size (Nm.runes (Nm.bs t) t.length 0) ∧ Below w.heap.size w W ∧ W.heap.size = w.heap.size + 1 ∧ (Nm.runes (Nm.bs t) t.length 0).length ≤ cap := by
  have hsz := bs_size t
  have ha := runes_array (Nm.bs t) t.length 0 #[]
  have hl := runes_len (Nm.bs t) t.length 0
  have hs : (Conv.runesFrom (Nm.bs t) (Nm.bs t).size 0 #[]).size = (Nm.runes (Nm.bs t) t.length 0).length := by
    rw [hsz]
    have := congrArg List.length ha
    simpa using this
  have hr := run_runes_of_string (P := Tryz.prog) w 9 153 21 (Nm.bs t) Tryz.underlying9 Tryz.underlying153 Tryz.underlying21 (by rw [hs]; omega)
  rw [hs] at hr
  refine ⟨_, _, hr, ⟨_, heap_alloc_new w.drew _, fun j r hj => ?_⟩, ((Below.refl _ w).drew).alloc (Nat.le_refl _) _, by simp, grownCap_ge w _ 0 _⟩
  have hj' : (Conv.runesFrom (Nm.bs t) (Nm.bs t).size 0 #[])[j]? = some (Value.int .i32 (r : Int)) := by
    rw [hsz, ← Array.getElem?_toList, ha]
    simp [hj]
  rw [Array.getElem?_append_left (by
    rcases Nat.lt_or_ge j (Conv.runesFrom (Nm.bs t) (Nm.bs t).size 0 #[]).size with h | h
    · exact h
    · rw [Array.getElem?_eq_none h] at hj'; cases hj')]
  exact hj'

theorem encode_low {d : Nat} (h : d < 128) : Utf8.encode (d : Int) = ⟨#[UInt8.ofNat d]⟩ := by
  have hv : Utf8.valid (d : Int) = true := by
    simp only [Utf8.valid, Bool.or_eq_true, Bool.and_eq_true, decide_eq_true_eq]
    left; omega
  unfold Utf8.encode
  simp only [hv, if_true, Int.toNat_natCast]
  rw [if_pos h]

theorem conv_bytes (w : World) (s : ByteArray) : (convert 9 51 (.string s)).run Tryz.prog w = .ok (.slice (some ⟨w.heap.size, 0, none⟩) s.size (grownCap w s.size 0 5)) (Lib.bytesWorld w 5 s) :=
  Lib.run_convert_string_bytes w 9 51 5 s Tryz.underlying9 Tryz.underlying51 Tryz.underlying5

theorem hex_v : ∀ d, d < 256 → (match Nm.hexDigit d with | some x => decide (Lib.Hx.v (UInt8.ofNat d) = x ∧ x ≤ 15 ∧ d < 128) | none => true) = true := by decide +kernel
theorem hex_of {d x : Nat} (h : Nm.hexDigit d = some x) : Lib.Hx.v (UInt8.ofNat d) = x ∧ x ≤ 15 ∧ d < 128 := by
  have hd : d < 256 := by
    unfold Nm.hexDigit at h
    split at h
    · omega
    · split at h
      · omega
      · split at h
        · omega
        · cases h
  have := hex_v d hd
  rw [h] at this
  exact of_decide_eq_true this
theorem hex_two {d e x y : Nat} (h1 : Nm.hexDigit d = some x) (h2 : Nm.hexDigit e = some y) : Lib.Hx.decode [UInt8.ofNat d, UInt8.ofNat e] = ([UInt8.ofNat (x * 16 + y)], .ok) := by
  obtain ⟨a1, a2, _⟩ := hex_of h1
  obtain ⟨b1, b2, _⟩ := hex_of h2
  rw [Lib.Hx.decode_two, a1, b1, if_neg (by omega), if_neg (by omega), Lib.Hx.decode_nil]

/-- hex.Decode of two digits. -/
theorem hex_pair {w : World} {S D c1 c2 d e x y : Nat} (h1 : Nm.hexDigit d = some x) (h2 : Nm.hexDigit e = some y) (hS0 : w.cell? ⟨S, 0, none⟩ = some (.int .u8 (d : Int))) (hS1 : w.cell? ⟨S, 1, none⟩ = some (.int .u8 (e : Int)))
    (hD : w.heap[D]? = some (.cells #[.int .u8 0] 5 (0, 0))) (hne : D ≠ S) (ev : Value) (hE : w.cell? ⟨1, 0, none⟩ = some ev) (hg : 1 ≠ D) :
    Calls Tryz.prog 96 #[.slice (some ⟨D, 0, none⟩) 1 c1, .slice (some ⟨S, 0, none⟩) 2 c2] w fun e' w' => e' = .returned (.tuple #[.int .i64 1, .nilIface]) ∧ w'.cell? ⟨D, 0, none⟩ = some (.int .u8 ((UInt8.ofNat (x * 16 + y)).toNat : Int)) ∧ w.grownBy w' (some D) := by
  obtain ⟨a1, a2, a3⟩ := hex_of h1
  obtain ⟨b1, b2, b3⟩ := hex_of h2
  have hz : ∀ i : Nat, i < 1 → (#[Value.int .u8 0] : Array Value)[i]? = some (.int .u8 0) := by
    intro i hi
    match i, hi with
    | 0, _ => rfl
  have hrow : w.rowIs D 5 1 (fun _ => .int .u8 0) := ⟨_, hD, rfl, hz⟩
  have hb : Lib.bytesOf [(d : Int), (e : Int)] = [UInt8.ofNat d, UInt8.ofNat e] := by simp [Lib.bytesOf]
  have h := Tryz.hex_Decode D 0 1 c1 1 (fun _ => .int .u8 0) S 0 2 c2 [(d : Int), (e : Int)] w ev rfl (by
    intro i hi
    match i, hi with
    | 0, _ => simp; omega
    | 1, _ => simp; omega) (by
    intro i hi
    match i, hi with
    | 0, _ => simpa using hS0
    | 1, _ => simpa using hS1) hrow (by omega) (by omega) hne (by omega) hE hg
  rw [hb, hex_two h1 h2] at h
  refine h.mono fun e' w' ⟨r1, r2, r3⟩ => ⟨r1, ?_, r3⟩
  obtain ⟨c, g1, g2, g3⟩ := r2
  rw [blockCell g1 0, g3 0 (by omega)]
  simp [Lib.Hx.rowP]

theorem Bld.kept {B b : Nat} {l : List Value} {w w' : World} (h : Bld B b l w) (k : ∀ i, i < w.heap.size → w'.heap[i]? = w.heap[i]?) : Bld B b l w' := by
  have hb : Lib.IsBuilder 130 5 B b l w := h
  have ho : ∀ v, w.ownsRow B 5 1 v l.length l → w'.ownsRow B 5 1 v l.length l := by
    intro v hv
    refine ⟨hv.1, hv.2.imp id ?_⟩
    rintro ⟨g, cap, cur, e1, e2, e3, e4⟩
    exact ⟨g, cap, cur, e1, e2, (k g (blockLt e3)).trans e3, e4⟩
  rcases hb with ⟨h1, v, h2, h3, h4⟩ | ⟨h1, v, h2, h3, h4⟩
  · exact Or.inl ⟨h1, v, (k b (blockLt h2)).trans h2, ho v h3, h4⟩
  · exact Or.inr ⟨h1, v, (k b (blockLt h2)).trans h2, ho v h3, h4⟩

theorem pair_conv {w : World} {R : Nat} {rs : List Nat} (h : RuneRow w R rs) {i d e : Nat} (hd : rs[i + 1]? = some d) (he : rs[i + 2]? = some e) (h1 : d < 128) (h2 : e < 128) (c : Nat) :
    (convert 153 9 (.slice (some ⟨R, i + 1, none⟩) 2 c)).run Tryz.prog w = .ok (.string (Nm.bs [UInt8.ofNat d, UInt8.ofNat e])) w := by
  have hr := run_convert_runes (P := Tryz.prog) w 153 9 21 ⟨R, i + 1, none⟩ 2 c [(d : Int), (e : Int)] (by simp) Tryz.underlying153 Tryz.underlying21 Tryz.underlying9 (by
    intro j hj
    match j, hj with
    | 0, _ => simpa [Addr.add] using h.cell hd
    | 1, _ => simpa [Addr.add] using h.cell he)
  rw [hr]
  have e1 : runesBytes [(d : Int), (e : Int)] = Nm.bs [UInt8.ofNat d, UInt8.ofNat e] := by
    unfold runesBytes
    simp only [List.foldl_cons, List.foldl_nil, encode_low h1, encode_low h2]
    rfl
  rw [show List.take 2 [(d : Int), (e : Int)] = [(d : Int), (e : Int)] from rfl, e1]

end Go.Proofs.YtjmahgefijncaaaGreatFmt

/- decodeString, where what it reads is right. -/
namespace Go.Proofs.YtjmahgefijncaaaGreatFmt
open Go Go.RowKit

/-- The round's head: i runes are read, acc is what they say. -/
structure DecInv (rs : List Nat) (v : List UInt8) (w : World) (R b : Nat) (i : Nat) (acc : List UInt8) (wr : World) : Prop where
  le : i ≤ rs.length
  rest : ∃ u, Nm.unescape (rs.drop i) = some u ∧ acc ++ u = v
  bld : Bld b b (Lib.byteCells acc) wr
  row : RuneRow wr R rs
  bel : Below w.heap.size w wr
  few : acc.length ≤ 4 * i

set_option maxRecDepth 100000 in
set_option maxHeartbeats 8000000 in
theorem dec_some (l : List UInt8) (hl : l.length < 100000000) (v : List UInt8) (hv : Nm.decode l = some v) (w : World) (ev : Value) (hE : w.cell? ⟨1, 0, none⟩ = some ev) :
    Calls Tryz.prog 85 #[.string (Nm.bs l)] w fun e w' => e = .returned (.tuple #[.string (Nm.bs v), .nilIface]) ∧ Below w.heap.size w w' := by
  have hst := strip_any l (by omega) w
  have hsl : (Nm.strip l).length ≤ l.length + 1 := by
    have h1 := trimL_le l
    have h2 := trimR_le (Nm.trimL l)
    unfold Nm.strip
    split
    · rw [List.length_append]; simp; omega
    · omega
  unfold Nm.decode at hv
  have HST := Lib.hid hst
  generalize Nm.strip l = t at hsl hv HST
  have HV := Lib.hid hv
  clear hv hst
  go_enter Tryz.func85, Tryz.ntmps85
  go_wp2_with fail
  refine HST.out.mono ?_
  rintro e w1 ⟨rfl, hb⟩
  obtain ⟨W, cap, hconv, hrow, hbW, hszW, hcap⟩ := to_runes t (by omega) w1
  have hsz1 := hb.size
  have HB := Lib.hid (hb.trans (hbW.mono hb.size))
  have HROW := Lib.hid hrow
  have hlow : w1.heap.size < W.heap.size := by omega
  clear hb hbW hrow hszW
  have hrl := runes_len (Nm.bs t) t.length 0
  have hrs := runes_small (Nm.bs t) t.length 0
  generalize Nm.runes (Nm.bs t) t.length 0 = rs at *
  go_wp2_with fail
  go_loopw [6] (fun t6 wr => ∃ (i : Nat) (acc : List UInt8), t6 = .int .i64 i ∧ Hid (DecInv rs v w w1.heap.size W.heap.size i acc wr)) (fun t6 _ => rs.length - (intOf t6).toNat)
  case atStart =>
    refine ⟨0, [], rfl, Lib.hid ⟨Nat.zero_le _, ⟨v, HV.out, rfl⟩, ?_, ?_, ?_, Nat.le_refl _⟩⟩
    · exact Lib.fresh_isBuilder 130 5 W
    · exact HROW.out.stays (Below.heap_alloc _ _ _ HROW.out.lt)
    · exact HB.out.alloc (by omega) _
  case round =>
    obtain ⟨i, acc, rfl, HI⟩ := hrel
    have hlt := HI.out.bld.lt
    have hle := HI.out.le
    have hsz2 := HI.out.bel.size
    have hfew := HI.out.few
    by_cases hend : i = rs.length
    · have t1 : decide ((i : Int) < (rs.length : Int)) = false := by simp; omega
      have hacc : acc = v := by
        obtain ⟨u, h1, h2⟩ := HI.out.rest
        rw [hend, List.drop_length] at h1
        rw [← Option.some.inj (show some [] = some u from h1), List.append_nil] at h2
        exact h2
      have hS := Tryz.Builder_String_any W.heap.size W.heap.size acc wr HI.out.bld (by omega)
      have HS := Lib.hid hS
      clear hS
      go_wp2_with fail
      refine HS.out.mono ?_
      rintro e w2 ⟨rfl, hb⟩
      have HB2 := Lib.hid (HI.out.bel.trans (hb.mono (by omega)))
      clear hb
      go_wp2_with fail
      go_ret2
      exact ⟨rfl, HB2.out⟩
    · have hi : i < rs.length := by omega
      have t1 : decide ((i : Int) < (rs.length : Int)) = true := by simp; omega
      obtain ⟨c, hc⟩ : ∃ c, rs[i]? = some c := ⟨_, List.getElem?_eq_getElem hi⟩
      have hcc := HI.out.row.cell hc
      have hcs : c ≤ 2147483647 := hrs c (List.mem_of_getElem? hc)
      have hdrop : rs.drop i = c :: rs.drop (i + 1) := by
        rw [List.drop_eq_getElem_cons hi]
        rw [List.getElem?_eq_getElem hi] at hc
        rw [Option.some.inj hc]
      by_cases h92 : c = 92
      · have t2 : ((c : Int) != 92) = false := by rw [h92]; rfl
        have hi1 : i + 1 < rs.length := by
          rcases Nat.lt_or_ge (i + 1) rs.length with h | h
          · exact h
          · obtain ⟨u, h1, _⟩ := HI.out.rest
            rw [hdrop, List.drop_of_length_le h, h92] at h1
            simp [Nm.unescape] at h1
        obtain ⟨d, hd⟩ : ∃ d, rs[i + 1]? = some d := ⟨_, List.getElem?_eq_getElem hi1⟩
        have hdc := HI.out.row.cell hd
        have hds : d ≤ 2147483647 := hrs d (List.mem_of_getElem? hd)
        have hdrop2 : rs.drop (i + 1) = d :: rs.drop (i + 2) := by
          rw [List.drop_eq_getElem_cons hi1]
          rw [List.getElem?_eq_getElem hi1] at hd
          rw [Option.some.inj hd]
        have t3 : decide ((i : Int) + 1 ≥ (rs.length : Int)) = false := by simp; omega
        by_cases hsp : Nm.special d = true
        · obtain ⟨u, hu, hau⟩ : ∃ u, Nm.unescape (rs.drop (i + 2)) = some u ∧ acc ++ (Lib.encodeRune d ++ u) = v := by
            obtain ⟨u, h1, h2⟩ := HI.out.rest
            rw [hdrop, hdrop2, h92] at h1
            unfold Nm.unescape at h1
            rw [if_pos rfl] at h1
            simp only [hsp, if_true, Option.map_eq_some_iff] at h1
            obtain ⟨u', h3, h4⟩ := h1
            exact ⟨u', h3, by rw [← h2, ← h4]⟩
          have hW := rune_bld W.heap.size W.heap.size (Lib.byteCells acc) d (by omega) (by omega) wr HI.out.bld (by rw [Lib.byteCells_length]; omega) (by omega)
          have HU := Lib.hid hu
          have HA := Lib.hid hau
          have hnext : ∀ w2, Bld W.heap.size W.heap.size (Lib.byteCells acc ++ Lib.runeCells d) w2 → Below W.heap.size wr w2 → DecInv rs v w w1.heap.size W.heap.size (i + 2) (acc ++ Lib.encodeRune d) w2 := by
            intro w2 hb2 hbel
            refine ⟨hi1, ⟨u, HU.out, by rw [List.append_assoc]; exact HA.out⟩, by rw [Lib.byteCells_append, Lib.byteCells_encodeRune]; exact hb2, HI.out.row.stays (hbel.block _ (by omega)), HI.out.bel.trans (hbel.mono (by omega)), ?_⟩
            have h4 := Lib.runeCells_le (d : Int)
            rw [Lib.runeCells_length] at h4
            rw [List.length_append]; omega
          have HW := Lib.hid hW
          have HN := Lib.hid hnext
          have hsp' : d = 32 ∨ d = 34 ∨ d = 35 ∨ d = 43 ∨ d = 44 ∨ d = 59 ∨ d = 60 ∨ d = 61 ∨ d = 62 ∨ d = 92 := by
            simp only [Nm.special, Bool.or_eq_true, beq_iff_eq] at hsp
            omega
          clear hW hu hau hdrop hdrop2 hnext hsp h92 hds hd
          rcases hsp' with rfl | rfl | rfl | rfl | rfl | rfl | rfl | rfl | rfl | rfl
          all_goals
            go_wp2_with fail
            refine HW.out.mono ?_
            rintro e w2 ⟨⟨n, rfl⟩, hb2, hbel⟩
            have HNN := Lib.hid (HN.out w2 hb2 hbel)
            clear hb2 hbel
            go_wp2_with fail
            exact ⟨⟨i + 2, _, by go_num, HNN⟩, by simp [intOf]; omega⟩
        · obtain ⟨e, he, x, y, hx, hy, u, hu, hau⟩ : ∃ e, rs[i + 2]? = some e ∧ ∃ x y, Nm.hexDigit d = some x ∧ Nm.hexDigit e = some y ∧ ∃ u, Nm.unescape (rs.drop (i + 3)) = some u ∧ acc ++ (UInt8.ofNat (x * 16 + y) :: u) = v := by
            obtain ⟨u, h1, h2⟩ := HI.out.rest
            rw [hdrop, hdrop2, h92] at h1
            unfold Nm.unescape at h1
            rw [if_pos rfl] at h1
            simp only [hsp, Bool.false_eq_true, if_false] at h1
            rcases Nat.lt_or_ge (i + 2) rs.length with h | h
            · rw [List.drop_eq_getElem_cons h] at h1
              simp only [] at h1
              cases hx : Nm.hexDigit d with
              | none => rw [hx] at h1; simp at h1
              | some x =>
                cases hy : Nm.hexDigit rs[i + 2] with
                | none => rw [hx, hy] at h1; simp at h1
                | some y =>
                  rw [hx, hy] at h1
                  simp only [Option.map_eq_some_iff] at h1
                  obtain ⟨u', h3, h4⟩ := h1
                  exact ⟨_, List.getElem?_eq_getElem h, x, y, rfl, hy, u', h3, by rw [← h2, ← h4]⟩
            · rw [List.drop_of_length_le h] at h1
              simp at h1
          obtain ⟨x1, x2, x3⟩ := hex_of hx
          obtain ⟨y1, y2, y3⟩ := hex_of hy
          have hi2 : i + 2 < rs.length := by
            rcases Nat.lt_or_ge (i + 2) rs.length with h | h
            · exact h
            · rw [List.getElem?_eq_none h] at he; cases he
          have hec := HI.out.row.cell he
          have t4 : decide ((i : Int) + 2 ≥ (rs.length : Int)) = false := by simp; omega
          have hnr : Nm.special d = false := by simpa using hsp
          simp only [Nm.special, Bool.or_eq_false_iff, beq_eq_false_iff_ne] at hnr
          obtain ⟨⟨⟨⟨⟨⟨⟨⟨⟨n1, n2⟩, n3⟩, n4⟩, n5⟩, n6⟩, n7⟩, n8⟩, n9⟩, n0⟩ := hnr
          have q1 : ((d : Int) == 32) = false := by rw [beq_eq_false_iff_ne]; omega
          have q2 : ((d : Int) == 34) = false := by rw [beq_eq_false_iff_ne]; omega
          have q3 : ((d : Int) == 35) = false := by rw [beq_eq_false_iff_ne]; omega
          have q4 : ((d : Int) == 43) = false := by rw [beq_eq_false_iff_ne]; omega
          have q5 : ((d : Int) == 44) = false := by rw [beq_eq_false_iff_ne]; omega
          have q6 : ((d : Int) == 59) = false := by rw [beq_eq_false_iff_ne]; omega
          have q7 : ((d : Int) == 60) = false := by rw [beq_eq_false_iff_ne]; omega
          have q8 : ((d : Int) == 61) = false := by rw [beq_eq_false_iff_ne]; omega
          have q9 : ((d : Int) == 62) = false := by rw [beq_eq_false_iff_ne]; omega
          have q0 : ((d : Int) == 92) = false := by rw [beq_eq_false_iff_ne]; omega
          have hcv := fun c => pair_conv HI.out.row hd he x3 y3 c
          have hcb := conv_bytes wr (Nm.bs [UInt8.ofNat d, UInt8.ofNat e])
          have hbsz := bs_size [UInt8.ofNat d, UInt8.ofNat e]
          rw [hbsz] at hcb
          have HU := Lib.hid hu
          have HA := Lib.hid hau
          have HX := Lib.hid hx
          have HY := Lib.hid hy
          clear hu hau hdrop hdrop2 hsp h92 hds hd n1 n2 n3 n4 n5 n6 n7 n8 n9 n0 hx hy hrs he
          have hBs := Lib.bytesWorld_size wr 5 (Nm.bs [UInt8.ofNat d, UInt8.ofNat e])
          have hb0 := Lib.bytesWorld_cell wr 5 (Nm.bs [UInt8.ofNat d, UInt8.ofNat e]) 0 (by rw [hbsz]; simp)
          have hb1 := Lib.bytesWorld_cell wr 5 (Nm.bs [UInt8.ofNat d, UInt8.ofNat e]) 1 (by rw [hbsz]; simp)
          have hold := fun j hj => Lib.bytesWorld_at_old wr 5 (Nm.bs [UInt8.ofNat d, UInt8.ofNat e]) j hj
          have ed : (UInt8.ofNat d).toNat = d := by simp; omega
          have ee : (UInt8.ofNat e).toNat = e := by simp; omega
          have hb0' : (Lib.bytesWorld wr 5 (Nm.bs [UInt8.ofNat d, UInt8.ofNat e])).cell? ⟨wr.heap.size, 0, none⟩ = some (.int .u8 (d : Int)) := hb0.trans (by
            show some (Value.int .u8 ((UInt8.ofNat d).toNat : Int)) = _
            rw [ed])
          have hb1' : (Lib.bytesWorld wr 5 (Nm.bs [UInt8.ofNat d, UInt8.ofNat e])).cell? ⟨wr.heap.size, 1, none⟩ = some (.int .u8 (e : Int)) := hb1.trans (by
            show some (Value.int .u8 ((UInt8.ofNat e).toNat : Int)) = _
            rw [ee])
          clear hb0 hb1 ed ee
          have hbelw := Lib.bytesWorld_below wr 5 (Nm.bs [UInt8.ofNat d, UInt8.ofNat e])
          generalize hBW : Lib.bytesWorld wr 5 (Nm.bs [UInt8.ofNat d, UInt8.ofNat e]) = BW at *
          have hgl : 1 < w.heap.size := World.block_lt_of_cell? w ⟨1, 0, none⟩ hE
          have hEw : (BW.alloc (.cells #[.int .u8 0] 5)).cell? ⟨1, 0, none⟩ = some ev :=
            (World.cell?_of_block (w := w) (show (BW.alloc (.cells #[.int .u8 0] 5)).heap[1]? = w.heap[1]? by rw [Below.heap_alloc _ _ _ (by omega), hold _ (by omega)]; exact HI.out.bel.block _ hgl)).trans hE
          have hblkS : (BW.alloc (.cells #[.int .u8 0] 5)).heap[wr.heap.size]? = BW.heap[wr.heap.size]? := Below.heap_alloc _ _ _ (by omega)
          have hHX := hex_pair (w := BW.alloc (.cells #[.int .u8 0] 5)) (S := wr.heap.size) (D := BW.heap.size) (c1 := 1) (c2 := grownCap wr 2 0 5) HX.out HY.out
            ((World.cell?_of_block (w := BW) hblkS).trans hb0') ((World.cell?_of_block (w := BW) hblkS).trans hb1') (heap_alloc_new BW _) (by omega) ev hEw (by omega)
          have HHX := Lib.hid hHX
          have HOLD := Lib.hid hold
          have HBS := Lib.hid hBs
          have HBEL := Lib.hid hbelw
          clear hbelw
          clear hHX hold hBs hb0' hb1' hEw hBW hblkS
          go_wp2_with fail
          refine HHX.out.mono ?_
          rintro e' w2 ⟨rfl, hcell, hgr⟩
          have hBs := HBS.out
          have hkept : ∀ k, k < wr.heap.size → w2.heap[k]? = wr.heap[k]? := fun k hk => by
            rw [hgr.block k (by rw [World.size_alloc]; omega) (by intro h; have := Option.some.inj h; omega), Below.heap_alloc _ _ _ (by omega), HOLD.out k hk]
          have hsz3 : wr.heap.size ≤ w2.heap.size := by have := hgr.size; rw [World.size_alloc] at this; omega
          have hbel2 : Below wr.heap.size wr w2 := (HBEL.out.alloc (by omega) (.cells #[.int .u8 0] 5)).grown hgr (by rw [World.size_alloc]; omega) (fun k hk => by have := Option.some.inj hk; omega)
          have hW := byte_bld W.heap.size W.heap.size (Lib.byteCells acc) ((UInt8.ofNat (x * 16 + y)).toNat : Int) w2 (HI.out.bld.kept hkept) (by rw [Lib.byteCells_length]; omega) (by omega)
          have HW := Lib.hid hW
          have HK := Lib.hid hbel2
          clear hW hkept hbel2 hgr hBs
          go_wp2_with fail
          refine HW.out.mono ?_
          rintro e' w3 ⟨rfl, hb3, hbel⟩
          have hnext : DecInv rs v w w1.heap.size W.heap.size (i + 3) (acc ++ [UInt8.ofNat (x * 16 + y)]) w3 := by
            have hwr : Below W.heap.size wr w3 := (HK.out.mono (by omega)).trans hbel
            refine ⟨hi2, ⟨u, HU.out, by rw [List.append_assoc]; exact HA.out⟩, by rw [Lib.byteCells_append]; exact hb3, HI.out.row.stays (hwr.block _ (by omega)), HI.out.bel.trans (hwr.mono (by omega)), ?_⟩
            rw [List.length_append]; simp; omega
          have HN := Lib.hid hnext
          clear hnext hb3 hbel
          go_wp2_with fail
          exact ⟨⟨i + 3, _, by go_num, HN⟩, by simp [intOf]; omega⟩
      · have t2 : ((c : Int) != 92) = true := by rw [bne_iff_ne]; omega
        obtain ⟨hnr, u, hu, hau⟩ : Nm.refused c = false ∧ ∃ u, Nm.unescape (rs.drop (i + 1)) = some u ∧ acc ++ (Lib.encodeRune c ++ u) = v := by
          obtain ⟨u, h1, h2⟩ := HI.out.rest
          rw [hdrop] at h1
          unfold Nm.unescape at h1
          rw [if_neg h92] at h1
          cases hr : Nm.refused c with
          | true => rw [hr] at h1; simp at h1
          | false =>
            rw [hr] at h1
            simp only [Bool.false_eq_true, if_false, Option.map_eq_some_iff] at h1
            obtain ⟨u', h3, h4⟩ := h1
            exact ⟨rfl, u', h3, by rw [← h2, ← h4]⟩
        simp only [Nm.refused, Bool.or_eq_false_iff, beq_eq_false_iff_ne] at hnr
        obtain ⟨⟨⟨⟨n1, n2⟩, n3⟩, n4⟩, n5⟩ := hnr
        have q1 : ((c : Int) == 34) = false := by rw [beq_eq_false_iff_ne]; omega
        have q2 : ((c : Int) == 59) = false := by rw [beq_eq_false_iff_ne]; omega
        have q3 : ((c : Int) == 60) = false := by rw [beq_eq_false_iff_ne]; omega
        have q4 : ((c : Int) == 62) = false := by rw [beq_eq_false_iff_ne]; omega
        have q5 : ((c : Int) == 0) = false := by rw [beq_eq_false_iff_ne]; omega
        have hW := rune_bld W.heap.size W.heap.size (Lib.byteCells acc) c (by omega) (by omega) wr HI.out.bld (by rw [Lib.byteCells_length]; omega) (by omega)
        have HW := Lib.hid hW
        have HU := Lib.hid hu
        have HA := Lib.hid hau
        clear hW hu hau n1 n2 n3 n4 n5 hdrop
        go_wp2_with fail
        refine HW.out.mono ?_
        rintro e w2 ⟨⟨n, rfl⟩, hb2, hbel⟩
        have hnext : DecInv rs v w w1.heap.size W.heap.size (i + 1) (acc ++ Lib.encodeRune c) w2 := by
          refine ⟨hi, ⟨u, HU.out, by rw [List.append_assoc]; exact HA.out⟩, by rw [Lib.byteCells_append, Lib.byteCells_encodeRune]; exact hb2, HI.out.row.stays (hbel.block _ (by omega)), HI.out.bel.trans (hbel.mono (by omega)), ?_⟩
          have h4 := Lib.runeCells_le (c : Int)
          rw [Lib.runeCells_length] at h4
          rw [List.length_append]; omega
        have HN := Lib.hid hnext
        clear hnext hb2 hbel
        go_wp2_with fail
        exact ⟨⟨i + 1, _, by go_num, HN⟩, by simp [intOf]; omega⟩
end Go.Proofs.YtjmahgefijncaaaGreatFmt

/- setType, setValue (where no number sign stands ahead), zzBlank. -/
namespace Go.Proofs.YtjmahgefijncaaaGreatFmt
open Go Go.RowKit

set_option maxRecDepth 100000 in
set_option maxHeartbeats 4000000 in
theorem type_some (l : List UInt8) (hl : l.length < 100000000) (v : List UInt8) (hv : Nm.decode l = some v) (w : World) (ev : Value) (hE : w.cell? ⟨1, 0, none⟩ = some ev) (A : Nat) (s0 s1 : Value)
    (hA : w.heap[A]? = some (.cells #[s0, s1] 120 (0, 0))) :
    Calls Tryz.prog 68 #[.pointer (some ⟨A, 0, none⟩), .string (Nm.bs l)] w fun e w' => e = .returned .nilIface ∧ w'.heap[A]? = some (.cells #[.string (Nm.bs v), s1] 120 (0, 0)) ∧ Keep w.heap.size A w w' := by
  have hC := Lib.hid (dec_some l hl v hv w ev hE)
  have hAlt := blockLt hA
  have HA := Lib.hid hA
  clear hA hv hE
  go_enter Tryz.func68, Tryz.ntmps68
  go_wp2_with fail
  refine hC.out.mono ?_
  rintro e w1 ⟨rfl, hb⟩
  have hA1 := (hb.block A hAlt).trans HA.out
  have c0 : w1.cell? ⟨A, 0, none⟩ = some s0 := blockCell hA1 0
  have f0 := blockFrozen hA1 0
  have hE1 := blockSet hA1 0 (.string (Nm.bs v))
  have hk : Keep w.heap.size A w (w1.setCell ⟨A, 0, none⟩ (.string (Nm.bs v))) := (Keep.ofBelow hb).setCell (p := ⟨A, 0, none⟩) (Or.inr rfl) _
  have HE := Lib.hid (And.intro hE1 hk)
  clear hA1 hE1 hk hb
  go_wp2_with fail
  go_ret
  exact ⟨rfl, by simpa using HE.out.1, HE.out.2⟩

set_option maxRecDepth 100000 in
set_option maxHeartbeats 4000000 in
theorem value_some (l : List UInt8) (hl : l.length < 100000000) (h35 : l[0]? ≠ some 35) (v : List UInt8) (hv : Nm.decode l = some v) (w : World) (ev : Value) (hE : w.cell? ⟨1, 0, none⟩ = some ev) (A : Nat) (s0 s1 : Value)
    (hA : w.heap[A]? = some (.cells #[s0, s1] 120 (0, 0))) :
    Calls Tryz.prog 70 #[.pointer (some ⟨A, 0, none⟩), .string (Nm.bs l)] w fun e w' => e = .returned .nilIface ∧ w'.heap[A]? = some (.cells #[s0, .string (Nm.bs v)] 120 (0, 0)) ∧ Keep w.heap.size A w w' := by
  have hC := Lib.hid (dec_some l hl v hv w ev hE)
  have hAlt := blockLt hA
  have HA := Lib.hid hA
  have hsz := bs_size l
  clear hA hv hE
  have hfirst : l.length = 0 ∨ 0 < l.length ∧ ∃ (h : 0 < (Nm.bs l).size) (b : UInt8), ((Nm.bs l)[0]'h).toNat = b.toNat ∧ ((b.toNat : Int) == 35) = false := by
    rcases Nat.eq_zero_or_pos l.length with h | h
    · exact Or.inl h
    · refine Or.inr ⟨h, by omega, l[0], by rw [bs_get], ?_⟩
      rw [beq_eq_false_iff_ne]
      intro he
      refine h35 ?_
      rw [List.getElem?_eq_getElem h]
      have : (l[0]).toNat = 35 := by omega
      exact congrArg some (UInt8.toNat_inj.1 (by rw [this]; rfl))
  rcases hfirst with h0 | ⟨h0, hlt, b, hget, hb35⟩
  all_goals
    go_enter Tryz.func70, Tryz.ntmps70
    go_wp2_with fail
    refine hC.out.mono ?_
    rintro e w1 ⟨rfl, hb⟩
    have hA1 := (hb.block A hAlt).trans HA.out
    have c1 : w1.cell? ⟨A, 1, none⟩ = some s1 := blockCell hA1 1
    have f1 := blockFrozen hA1 1
    have hE1 := blockSet hA1 1 (.string (Nm.bs v))
    have hk : Keep w.heap.size A w (w1.setCell ⟨A, 1, none⟩ (.string (Nm.bs v))) := (Keep.ofBelow hb).setCell (p := ⟨A, 1, none⟩) (Or.inr rfl) _
    have HE := Lib.hid (And.intro hE1 hk)
    clear hA1 hE1 hk hb
    go_wp2_with fail
    go_ret
    exact ⟨rfl, by simpa using HE.out.1, HE.out.2⟩
end Go.Proofs.YtjmahgefijncaaaGreatFmt

/- backDN: a name in memory as plain data. -/
namespace Go.Proofs.YtjmahgefijncaaaGreatFmt
open Go Go.RowKit

theorem info_part : ∃ i, Tryz.prog.info? 70 = some i ∧ i.zero = some (.agg #[.string ⟨#[]⟩, .string ⟨#[]⟩]) ∧ i.size = 2 ∧ i.bytes = 32 := info_parts (by kernel_rfl)
theorem info_parts1 : ∃ i, Tryz.prog.info? 71 = some i ∧ i.zero = some (.slice none 0 0) ∧ i.size = 1 ∧ i.bytes = 24 := info_parts (by kernel_rfl)

theorem owns_start (w : World) (B : Nat) (e : TypeId) (sz : Nat) : w.ownsRow B e sz (.slice none 0 0) 0 [] := ⟨by simp, Or.inl ⟨rfl, rfl⟩⟩

/-- The outer round's head. -/
structure BackInv (S : Nat → Prop) (D : Nat) (n : Nm.Name) (w : World) (i : Nat) (vout : Value) (vs : List Value) (wr : World) : Prop where
  own : wr.ownsRow w.heap.size 71 1 vout i vs
  rows : RowsOwn 70 w.heap.size wr vs (n.take i)
  bel : Below w.heap.size w wr
def BackE (S : Nat → Prop) (D : Nat) (n : Nm.Name) (w : World) (i : Nat) (vout : Value) (wr : World) : Prop := ∃ vs, BackInv S D n w i vout vs wr

theorem take_snoc {α : Type} {l : List α} {i : Nat} {x : α} (h : l[i]? = some x) : l.take (i + 1) = l.take i ++ [x] := by
  have hi : i < l.length := by
    rcases Nat.lt_or_ge i l.length with h2 | h2
    · exact h2
    · rw [List.getElem?_eq_none h2] at h; cases h
  rw [List.take_succ_eq_append_getElem hi]
  rw [List.getElem?_eq_getElem hi] at h
  rw [Option.some.inj h]

set_option maxRecDepth 100000 in
set_option maxHeartbeats 16000000 in
theorem back_dn (S : Nat → Prop) (D : Nat) (n : Nm.Name) (w : World) (hD : DnAt w S D n) (hS : ∀ k, S k → k < w.heap.size) (hn : n.length < 1000000000) (hps : ∀ ps ∈ n, ps.length < 1000000000) :
    Calls Tryz.prog 40 #[.pointer (some ⟨D, 0, none⟩)] w fun e w' => ∃ v, e = .returned v ∧ NameOwn 71 70 w.heap.size w' v n ∧ Below w.heap.size w w' := by
  have HD := Lib.hid hD
  obtain ⟨hDS, vd, ds, hDc, hown, hvS, hrd⟩ := hD
  obtain ⟨od, cd, rfl⟩ : ∃ o cp, vd = .slice o ds.length cp := by
    rcases hown.2 with ⟨h, h0⟩ | ⟨g, cap, cur, h, _⟩
    · exact ⟨none, 0, by rw [h, h0]⟩
    · exact ⟨_, _, h⟩
  have hlen : ds.length = n.length := hrd.len
  rw [hlen] at hown hDc
  have cD : w.cell? ⟨D, 0, none⟩ = some (.slice od n.length cd) := blockCell hDc 0
  have HRD := Lib.hid hrd
  have HOWN := Lib.hid hown
  obtain ⟨i1, hi1, hz10, hz11, hz12⟩ := info_part
  obtain ⟨i2, hi2, hz20, hz21, hz22⟩ := info_parts1
  have HLEN := Lib.hid hlen
  clear hrd hown hDc hlen hvS hDS
  go_enter Tryz.func40, Tryz.ntmps40
  go_wp2_with fail
  go_loopw [3, 14] (fun t3 t14 wr => ∃ (i : Nat), t14 = .int .i64 i ∧ i ≤ n.length ∧ Hid (BackE S D n w i t3 wr)) (fun _ t14 _ => n.length - (intOf t14).toNat)
  case atStart => exact ⟨0, rfl, Nat.zero_le _, Lib.hid ⟨[], owns_start _ _ _ _, rfl, Below.refl _ _⟩⟩
  case round =>
    obtain ⟨i, rfl, hi, HE⟩ := hrel
    obtain ⟨vs, hinv⟩ := HE.out
    have HI := Lib.hid hinv
    clear hinv
    have hsz1 := HI.out.bel.size
    obtain ⟨o3, c3, rfl⟩ : ∃ o c, u3 = .slice o i c := by
      rcases HI.out.own.2 with ⟨h, h0⟩ | ⟨g, cap, cur, h, _⟩
      · exact ⟨none, 0, by rw [h, h0]⟩
      · exact ⟨_, _, h⟩
    by_cases hend : i = n.length
    · subst hend
      have t1 : decide ((n.length : Int) < (n.length : Int)) = false := by simp
      have hE : NameOwn 71 70 w.heap.size wr (.slice o3 n.length c3) n ∧ Below w.heap.size w wr := by
        refine ⟨⟨vs, HI.out.own, ?_⟩, HI.out.bel⟩
        have := HI.out.rows
        rw [List.take_length] at this
        exact this
      have HEE := Lib.hid hE
      clear hE
      go_wp2_with fail
      go_ret
      exact ⟨_, rfl, HEE.out.1, HEE.out.2⟩
    · have hlt : i < n.length := by omega
      have t1 : decide ((i : Int) < (n.length : Int)) = true := by simp; omega
      obtain ⟨ps, hp⟩ : ∃ ps, n[i]? = some ps := ⟨_, List.getElem?_eq_getElem hlt⟩
      have hpl : ps.length < 1000000000 := hps ps (List.mem_of_getElem? hp)
      have hrdw : RdnsAt wr S ds n := HRD.out.stays (fun k hk => HI.out.bel.block k (hS k hk)) (fun _ h => h)
      obtain ⟨r, hr, hrS, v, xs, hrc, hown, hvS, hpa⟩ := hrdw.nth hp
      have hownD : wr.ownsRow 0 115 1 (.slice od n.length cd) n.length ds := owns_stays HOWN.out (fun g hg => HI.out.bel.block g (owns_lt HOWN.out g hg))
      obtain ⟨g, c, e1, cr⟩ := owns_cell hownD hr
      injection e1 with e1 _ e1'
      subst e1
      subst e1'
      have hxl : xs.length = ps.length := hpa.len
      obtain ⟨ov, cv, rfl⟩ : ∃ o cp, v = .slice o ps.length cp := by
        rcases hown.2 with ⟨h, h0⟩ | ⟨g, cap, cur, h, _⟩
        · exact ⟨none, 0, by rw [h, ← hxl, h0]⟩
        · exact ⟨_, _, by rw [h, hxl]⟩
      rw [hxl] at hown
      have c0 : wr.cell? ⟨r, 0, none⟩ = some (.slice ov ps.length cv) := blockCell hrc 0
      have HPA := Lib.hid hpa
      have HO := Lib.hid hown
      have HP := Lib.hid hp
      clear hrdw hownD hr hrc hpa hown hvS hrS hp HE hxl hend
      go_wp2_with fail
      obtain ⟨wo, rfl⟩ : ∃ wo : World, wo = wr := ⟨_, rfl⟩
      go_loopw [6, 23] (fun t6 t23 wr => ∃ (j : Nat), t23 = .int .i64 j ∧ j ≤ ps.length ∧ Hid (wr.ownsRow wo.heap.size 70 2 t6 j (cellsOf (ps.take j)) ∧ Below wo.heap.size wo wr)) (fun _ t23 _ => ps.length - (intOf t23).toNat)
      case atStart => exact ⟨0, rfl, Nat.zero_le _, Lib.hid ⟨owns_start _ _ _ _, Below.refl _ _⟩⟩
      case round =>
        clear t1
        obtain ⟨j, rfl, hj, HJ⟩ := hrel
        have hsz2 := HJ.out.2.size
        obtain ⟨o6, c6, rfl⟩ : ∃ o c, u6 = .slice o j c := by
          rcases HJ.out.1.2 with ⟨h, h0⟩ | ⟨g, cap, cur, h, _⟩
          · exact ⟨none, 0, by rw [h, h0]⟩
          · exact ⟨_, _, h⟩
        by_cases hje : j = ps.length
        · subst hje
          have t2 : decide ((ps.length : Int) < (ps.length : Int)) = false := by simp
          have hown6 := HJ.out.1
          rw [List.take_length] at hown6
          have hb2 := HI.out.bel.trans (HJ.out.2.mono hsz1)
          have hout : wr.ownsRow w.heap.size 71 1 (.slice o3 i c3) i vs := owns_stays HI.out.own (fun g hg => HJ.out.2.block g (owns_lt HI.out.own g hg))
          have hrows : RowsOwn 70 w.heap.size wr vs (n.take i) := HI.out.rows.stays (fun g c hg => HJ.out.2.block g (blockLt hg))
          have hin : PartsOwn 70 wo.heap.size wr (.slice o6 ps.length c6) ps := hown6
          have hownW : (wr.alloc (.cells #[(.slice o6 ps.length c6)] 71)).ownsRow w.heap.size 71 1 (.slice o3 i c3) i vs := hout.alloc _
          have hnews : ∀ k u, ([(.slice o6 ps.length c6)] : List Value)[k]? = some u → (wr.alloc (.cells #[(.slice o6 ps.length c6)] 71)).cell? ((⟨wr.heap.size, 0, none⟩ : Addr).add k) = some u := by
            intro k u hk
            exact World.news_of_block (B := wr.heap.size) (heap_alloc_new wr _) k u (by simpa using hk)
          have h1c : ∀ u ∈ ([(.slice o6 ps.length c6)] : List Value), u.oneCell' = true := by
            intro u hu; simp at hu; subst hu
            obtain ⟨o, c, e⟩ := owns_form hin
            rw [e]; rfl
          have h63 : i + 1 ≤ maxLen := by simp only [maxLen]; omega
          have hby : (i + 1) * 24 ≤ 140737488355328 := by omega
          have hbase : w.heap.size ≤ (wr.alloc (.cells #[(.slice o6 ps.length c6)] 71)).heap.size := by simp; omega
          have HIN := Lib.hid hin
          have HB2 := Lib.hid hb2
          have HOUT := Lib.hid hout
          have HROWS := Lib.hid hrows
          clear hin hb2 hout hrows hown6
          go_wp2_with (at_builtin; go_loud (refine wpList_append_lies _ (by rfl) _ _ _ (by rfl) w.heap.size 71 i2 (.slice none 0 0) 1 24 Tryz.underlying26 hi2 hz20 hz21 hz22 rfl (by decide) (.slice o3 i c3) i vs (by rfl) hownW ⟨wr.heap.size, 0, none⟩ 1 1 [(.slice o6 ps.length c6)] (by rfl) rfl hnews h1c (by decide) h63 hby hbase (wr.heap.size + 1) (by simp) ?_))
          intro g' cap w4 hown' hgr hat hlt'
          have hE : BackE S D n w (i + 1) (.slice (some ⟨g', 0, none⟩) (i + 1) cap) w4 := by
            refine ⟨vs ++ [(.slice o6 ps.length c6)], hown', ?_, ?_⟩
            · rw [take_snoc HP.out]
              refine RowsOwn.snoc ((HIN.out.lower hsz1).stays fun k c hk => ?_) (HROWS.out.grown HOUT.out (by decide) hgr)
              rw [hgr.block k (by have := blockLt hk; simp; omega) (fun e => own_ne HOUT.out hk (by decide) e.symm), Below.heap_alloc _ _ _ (blockLt hk)]
            · exact (HB2.out.alloc (by omega) _).grown hgr (by simp; omega) (fun k hk => HOUT.out.lt k hk |>.1)
          have HE := Lib.hid hE
          clear hE hown' hgr hat hownW hnews h1c hby hbase
          go_wp2_with fail
          exact ⟨⟨i + 1, by go_num, by omega, HE⟩, by simp [intOf]; omega⟩
        · have hjl : j < ps.length := by omega
          have t2 : decide ((j : Int) < (ps.length : Int)) = true := by simp; omega
          obtain ⟨p, hp⟩ : ∃ p, ps[j]? = some p := ⟨_, List.getElem?_eq_getElem hjl⟩
          obtain ⟨a, ha, _, hpa⟩ := HPA.out.nth hp
          obtain ⟨gv, c2, e2, ca⟩ := owns_cell HO.out ha
          injection e2 with e2 _ e2'
          subst e2
          subst e2'
          have ca2 := (HJ.out.2.cell (World.block_lt_of_cell? wo ⟨gv, j, none⟩ ca)).trans ca
          have cp := (HJ.out.2.block a (blockLt hpa)).trans hpa
          have cp0 : wr.cell? ⟨a, 0, none⟩ = some (.string (Nm.bs p.1)) := blockCell cp 0
          have cp1 : wr.cell? ⟨a, 1, none⟩ = some (.string (Nm.bs p.2)) := blockCell cp 1
          have hown6 := HJ.out.1
          have hts := take_snoc hp
          obtain ⟨W, hW⟩ : ∃ W, W = (wr.alloc (.cells #[.string (Nm.bs p.1), .string (Nm.bs p.2)] 70)).drew := ⟨_, rfl⟩
          have hownW : W.ownsRow wo.heap.size 70 2 (.slice o6 j c6) j (cellsOf (ps.take j)) := by rw [hW]; exact hown6.alloc _
          have hnews : ∀ k u, ([.string (Nm.bs p.1), .string (Nm.bs p.2)] : List Value)[k]? = some u → W.cell? ((⟨wr.heap.size, 0, none⟩ : Addr).add k) = some u := by
            intro k u hk
            exact World.news_of_block (w := W) (B := wr.heap.size) (by rw [hW]; exact heap_alloc_new wr _) k u (by simpa using hk)
          have h1c : ∀ u ∈ ([.string (Nm.bs p.1), .string (Nm.bs p.2)] : List Value), u.oneCell' = true := by intro u hu; simp at hu; rcases hu with rfl | rfl <;> rfl
          have h63 : j + 1 ≤ maxLen := by simp only [maxLen]; omega
          have hby : (j + 1) * 32 ≤ 140737488355328 := by omega
          have hbase : wo.heap.size ≤ W.heap.size := by rw [hW]; simp; omega
          subst hW
          have HTS := Lib.hid hts
          clear hp hpa ha cp hts ca
          go_wp2_with fail
          go_region_law ((refine step_append_lies _ (by rfl) _ _ _ (by rfl) wo.heap.size 70 i1 (.agg #[.string ⟨#[]⟩, .string ⟨#[]⟩]) 2 32 Tryz.underlying71 hi1 hz10 hz11 hz12 rfl (by decide) _ j (cellsOf (ps.take j)) (by rfl) hownW ⟨wr.heap.size, 0, none⟩ 1 1 [.string (Nm.bs p.1), .string (Nm.bs p.2)] (by rfl) rfl hnews h1c (by decide) h63 hby hbase (wr.heap.size + 1) (by simp) ?_; intro g' cap w4 hown' hgr hat hlt'; have HQ := Lib.hid (And.intro hown' (And.intro hgr hat)); clear hown' hgr hat))
          all_goals
            have hE : w4.ownsRow wo.heap.size 70 2 (.slice (some ⟨g', 0, none⟩) (j + 1) cap) (j + 1) (cellsOf (ps.take (j + 1))) ∧ Below wo.heap.size wo w4 := by
              refine ⟨by rw [HTS.out, cellsOf_snoc]; exact HQ.out.1, ?_⟩
              exact (((HJ.out.2.alloc (by omega) _).drew).grown HQ.out.2.1 (by simp; omega) (fun k hk => hown6.lt k hk |>.1))
            have HE := Lib.hid hE
            clear hE HQ
            go_wp2_with fail
            exact ⟨⟨j + 1, by go_num, by omega, HE⟩, by simp [intOf]; omega⟩
end Go.Proofs.YtjmahgefijncaaaGreatFmt

