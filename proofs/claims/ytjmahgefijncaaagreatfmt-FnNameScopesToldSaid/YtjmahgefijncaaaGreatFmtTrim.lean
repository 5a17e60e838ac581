/- The trims: zzInSet, zzTrimLeft, zzTrimRight, zzTrim at a blank. -/
import Derived.Test.YtjmahgefijncaaaGreatFmtNm
import Derived.Test.YtjmahgefijncaaaGreatFmtProg
import Derived.Test.YtjmahgefijncaaaGreatFmtKeep
import Derived.Deep.QuietTactic
import Derived.BigQuiet
import Derived.RegionTactic
import Derived.Deep.RegionLaw
import Derived.Outline
import Derived.Deep.RegionWith
import Derived.Lib.OthersKept
namespace Go.Proofs.YtjmahgefijncaaaGreatFmt
open Go Go.RowKit

theorem width_pos (s : ByteArray) (pos : Nat) (h : pos < s.size) : 1 ≤ (Utf8.decode s pos).2 := by
  by_cases ha : (s[pos]'h).toNat < 128
  · rw [decode_ascii s pos h ha]; exact Nat.le_refl _
  · exact (decode_high s pos h (by omega)).2

def sp : ByteArray := ⟨#[32]⟩

set_option maxRecDepth 100000 in
set_option maxHeartbeats 4000000 in
theorem inset_sp (c : Int) (w : World) :
    Calls Tryz.prog 133 #[.int .i32 c, .string ⟨#[32]⟩] w fun e w' => e = .returned (.bool (c == 32)) ∧ Below w.heap.size w w' := by
  go_enter Tryz.func133, Tryz.ntmps133
  go_wp2_with fail
  go_loopw [4] (fun t4 wr => t4 = .bool false ∧ ∃ pos, wr.heap[w.heap.size]? = some (.stringIter ⟨#[32]⟩ pos) ∧ Below w.heap.size w wr ∧ (pos = 0 ∨ pos = 1 ∧ (c == 32) = false)) (fun _ wr => 1 - wr.iterPos w.heap.size)
  case atStart =>
    refine ⟨rfl, 0, ?_, (Below.refl _ w).alloc (Nat.le_refl _) _, Or.inl rfl⟩
    have := World.iter_heap w ⟨#[32]⟩ 0
    simpa using this
  case round =>
    obtain ⟨rfl, pos, hit, hbw, hpos⟩ := hrel
    rcases hpos with rfl | ⟨rfl, hc⟩
    · have hnx : ∀ ty, (Instr.next (.pointer (some ⟨w.heap.size, 0, none⟩)) true ty).run Tryz.prog wr = _ := fun ty => Lib.run_next_any_at wr w.heap.size ⟨#[32]⟩ 0 ty hit (by decide)
      rw [show Utf8.decode ⟨#[32]⟩ 0 = (32, 1) by decide] at hnx
      simp only [] at hnx
      have hit2 := Lib.iterAt_heap wr w.heap.size ⟨#[32]⟩ 0 1 hit
      have hbw2 := Lib.below_iterAt hbw (k := w.heap.size) (by omega) ⟨#[32]⟩ 1
      have HB := Lib.hid hbw2
      have hcc : (c == 32) = true ∨ (c == 32) = false := by cases (c == 32) <;> simp
      rcases hcc with hc | hc
      · go_wp2_with fail
        go_ret
        exact ⟨by rw [hc]; rfl, HB.out⟩
      · have HC := Lib.hid hc
        go_wp2_with fail
        refine ⟨⟨rfl, 1, hit2, HB.out, Or.inr ⟨rfl, HC.out⟩⟩, ?_⟩
        simp only [World.iterPos, hit2, hit]; decide
    · have hnx : ∀ ty, (Instr.next (.pointer (some ⟨w.heap.size, 0, none⟩)) true ty).run Tryz.prog wr = _ := fun ty => Lib.run_next_end_at wr w.heap.size ⟨#[32]⟩ 1 ty hit (by decide)
      go_wp2_with fail
      go_ret
      exact ⟨by rw [hc]; rfl, hbw⟩

def isBlank (l : List UInt8) (k : Nat) : Prop := ∀ j, j < k → l[j]? = some 32

theorem trimL_step {l : List UInt8} {pos : Nat} (h : pos < l.length) (hb : l[pos] = 32) : Nm.trimL (l.drop pos) = Nm.trimL (l.drop (pos + 1)) := by
  rw [List.drop_eq_getElem_cons h]
  unfold Nm.trimL
  rw [List.dropWhile_cons, hb]
  simp
theorem trimL_stop {l : List UInt8} {pos : Nat} (h : pos < l.length) (hb : l[pos] ≠ 32) : Nm.trimL (l.drop pos) = l.drop pos := by
  rw [List.drop_eq_getElem_cons h]
  unfold Nm.trimL
  rw [List.dropWhile_cons]
  simp [hb]

theorem bs_size (l : List UInt8) : (Nm.bs l).size = l.length := by simp [Nm.bs, ByteArray.size]
theorem bs_get (l : List UInt8) (i : Nat) (h : i < (Nm.bs l).size) : (Nm.bs l)[i]'h = l[i]'(by rw [bs_size] at h; exact h) := by
  simp [Nm.bs]
  rfl
theorem bs_from (l : List UInt8) (k : Nat) : (Nm.bs l).extract k l.length = Nm.bs (l.drop k) := by
  apply ByteArray.ext
  rw [ByteArray.data_extract]
  show l.toArray.extract _ _ = (l.drop k).toArray
  simp [List.take_of_length_le]
theorem bs_to (l : List UInt8) (k : Nat) : (Nm.bs l).extract 0 k = Nm.bs (l.take k) := by
  apply ByteArray.ext
  rw [ByteArray.data_extract]
  show l.toArray.extract _ _ = (l.take k).toArray
  simp

set_option maxRecDepth 100000 in
set_option maxHeartbeats 4000000 in
theorem triml_sp (l : List UInt8) (w : World) :
    Calls Tryz.prog 116 #[.string (Nm.bs l), .string ⟨#[32]⟩] w fun e w' => e = .returned (.string (Nm.bs (Nm.trimL l))) ∧ Below w.heap.size w w' := by
  have hsz := bs_size l
  go_enter Tryz.func116, Tryz.ntmps116
  go_wp2_with fail
  go_loopw [] (fun wr => ∃ pos, wr.heap[w.heap.size]? = some (.stringIter (Nm.bs l) pos) ∧ Below w.heap.size w wr ∧ pos ≤ l.length ∧ Nm.trimL l = Nm.trimL (l.drop pos)) (fun wr => l.length - wr.iterPos w.heap.size)
  case atStart =>
    refine ⟨0, ?_, (Below.refl _ w).alloc (Nat.le_refl _) _, Nat.zero_le _, rfl⟩
    have := World.iter_heap w (Nm.bs l) 0
    simpa using this
  case round =>
    obtain ⟨pos, hit, hbw, hpos, htr⟩ := hrel
    by_cases hp : pos < l.length
    · have hp2 : pos < (Nm.bs l).size := by rw [hsz]; exact hp
      have hnx : ∀ ty, (Instr.next (.pointer (some ⟨w.heap.size, 0, none⟩)) true ty).run Tryz.prog wr = _ := fun ty => Lib.run_next_any_at wr w.heap.size (Nm.bs l) pos ty hit hp2
      have hget : ((Nm.bs l)[pos]'hp2).toNat = (l[pos]).toNat := by rw [bs_get]; rfl
      by_cases h32 : l[pos] = 32
      · have h32n : (l[pos]).toNat = 32 := by rw [h32]; rfl
        rw [decode_ascii (Nm.bs l) pos hp2 (by rw [hget, h32n]; decide), hget, h32n] at hnx
        have hit2 := Lib.iterAt_heap wr w.heap.size (Nm.bs l) pos (pos + 1) hit
        have hbw2 := Lib.below_iterAt hbw (k := w.heap.size) (by omega) (Nm.bs l) (pos + 1)
        have HB := Lib.hid hbw2
        have hms : l.length - (wr.iterAt w.heap.size (Nm.bs l) (pos + 1)).iterPos w.heap.size < l.length - wr.iterPos w.heap.size := by simp only [World.iterPos, hit2, hit]; omega
        have HMS := Lib.hid hms
        have HIT := Lib.hid hit2
        clear hms hit2 hit hbw hbw2
        generalize hW : wr.iterAt w.heap.size (Nm.bs l) (pos + 1) = W at *
        go_wp2_with fail
        refine (inset_sp _ _).mono ?_
        rintro e w2 ⟨rfl, hb2⟩
        have HB2 := Lib.hid (HB.out.trans (hb2.mono HB.out.size))
        have hblk : w2.heap[w.heap.size]? = W.heap[w.heap.size]? := hb2.block _ (by have := blockLt (show W.heap[w.heap.size]? = _ from HIT.out); omega)
        have HBLK := Lib.hid hblk
        clear hb2 hblk
        go_wp2_with fail
        refine ⟨⟨pos + 1, HBLK.out.trans HIT.out, HB2.out, by omega, by rw [htr, trimL_step hp h32]⟩, ?_⟩
        have := HMS.out
        simp only [World.iterPos, HBLK.out] at this ⊢
        exact this
      · have hne : ((((Utf8.decode (Nm.bs l) pos).1 : Nat) : Int) == 32) = false := by
          rw [beq_eq_false_iff_ne]
          by_cases ha : (l[pos]).toNat < 128
          · rw [decode_ascii (Nm.bs l) pos hp2 (by rw [hget]; exact ha), hget]
            intro h
            exact h32 (UInt8.toNat_inj.1 (by have : (l[pos]).toNat = 32 := by omega
                                             rw [this]; rfl))
          · have := (decode_high (Nm.bs l) pos hp2 (by rw [hget]; omega)).1
            omega
        have hbw2 := Lib.below_iterAt hbw (k := w.heap.size) (by omega) (Nm.bs l) (pos + (Utf8.decode (Nm.bs l) pos).2)
        have HB := Lib.hid hbw2
        clear hbw2 hbw hit
        generalize hW : wr.iterAt w.heap.size (Nm.bs l) (pos + (Utf8.decode (Nm.bs l) pos).2) = W at *
        generalize (Utf8.decode (Nm.bs l) pos).1 = r at *
        go_wp2_with fail
        refine (inset_sp _ _).mono ?_
        rintro e w2 ⟨rfl, hb2⟩
        have HB2 := Lib.hid (HB.out.trans (hb2.mono HB.out.size))
        clear hb2
        rw [hne]
        go_wp2_with fail
        go_ret
        exact ⟨by rw [htr, trimL_stop hp h32, ← bs_from]; rfl, HB2.out⟩
    · have hnx : ∀ ty, (Instr.next (.pointer (some ⟨w.heap.size, 0, none⟩)) true ty).run Tryz.prog wr = _ := fun ty => Lib.run_next_end_at wr w.heap.size (Nm.bs l) pos ty hit (by rw [hsz]; exact hp)
      go_wp2_with fail
      go_ret
      refine ⟨?_, hbw⟩
      rw [htr, List.drop_of_length_le (by omega)]
      rfl

theorem upTo_le (l : List UInt8) : ∀ n, Nm.upTo l n ≤ n
  | 0 => Nat.le_refl _
  | n + 1 => by
    unfold Nm.upTo
    split
    · have := upTo_le l n; omega
    · exact Nat.le_refl _

set_option maxRecDepth 100000 in
set_option maxHeartbeats 4000000 in
theorem trimr_sp (l : List UInt8) (hl : l.length < 1000000000) (w : World) :
    Calls Tryz.prog 115 #[.string (Nm.bs l), .string ⟨#[32]⟩] w fun e w' => e = .returned (.string (Nm.bs (Nm.trimR l))) ∧ Below w.heap.size w w' := by
  have hsz := bs_size l
  have hs1 : (⟨#[32]⟩ : ByteArray).size = 1 := rfl
  have hs0 : ((⟨#[32]⟩ : ByteArray)[0]'(by decide)).toNat = 32 := rfl
  go_enter Tryz.func115, Tryz.ntmps115
  go_wp2_with fail
  go_loopw [5] (fun t5 wr => ∃ n : Nat, t5 = .int .i64 n ∧ n ≤ l.length ∧ Nm.upTo l l.length = Nm.upTo l n ∧ Hid (Below w.heap.size w wr)) (fun t5 _ => (intOf t5).toNat)
  case atStart => exact ⟨l.length, rfl, Nat.le_refl _, rfl, Lib.hid (Below.refl _ _)⟩
  case round =>
    obtain ⟨n, rfl, hn, hup, HB⟩ := hrel
    cases n with
    | zero =>
      go_wp2_with fail
      go_ret
      refine ⟨?_, HB.out⟩
      unfold Nm.trimR
      rw [hup]
      rfl
    | succ n =>
      have hlt : n < l.length := by omega
      have hlt2 : n < (Nm.bs l).size := by rw [hsz]; exact hlt
      obtain ⟨b, hb, hget⟩ : ∃ b : UInt8, l[n]? = some b ∧ ((Nm.bs l)[n]'hlt2).toNat = b.toNat := ⟨_, List.getElem?_eq_getElem hlt, by rw [bs_get]⟩
      have t1 : decide (((n + 1 : Nat) : Int) > 0) = true := by simp
      by_cases h32 : b = 32
      · have hb32 : b.toNat = 32 := by rw [h32]; rfl
        rw [hb32] at hget
        go_wp2_with fail
        go_loopw [6, 7] (fun t6 t7 wr => (t6 = .bool false ∧ t7 = .int .i64 0 ∨ t6 = .bool true ∧ t7 = .int .i64 1) ∧ Hid (Below w.heap.size w wr)) (fun _ t7 _ => 1 - (intOf t7).toNat)
        case atStart => exact ⟨Or.inl ⟨rfl, rfl⟩, HB⟩
        case round =>
          clear HB
          obtain ⟨⟨rfl, rfl⟩ | ⟨rfl, rfl⟩, HB⟩ := hrel
          · go_wp2_with fail
            go_region
            go_wp2_with fail
            all_goals first
              | exact ⟨⟨Or.inr ⟨rfl, rfl⟩, Lib.hid HB.out.drew⟩, by simp [intOf]⟩
              | (exfalso; rename_i h; rw [hs0] at h; exact absurd h (by decide))
          · go_wp2_with fail
            refine ⟨⟨n, rfl, by omega, ?_, HB⟩, by simp [intOf]⟩
            rw [hup]
            show (if l[n]? = some 32 then _ else _) = _
            rw [if_pos (by rw [hb, h32])]
      · have hb32 : ¬ b.toNat = 32 := fun h => h32 (UInt8.toNat_inj.1 (by rw [h]; rfl))
        have hb33 : ((32 : Int) == (b.toNat : Int)) = false := by rw [beq_eq_false_iff_ne]; omega
        go_wp2_with fail
        go_loopw [6, 7] (fun t6 t7 wr => (t6 = .bool false ∧ t7 = .int .i64 0 ∨ t6 = .bool false ∧ t7 = .int .i64 1) ∧ Hid (Below w.heap.size w wr)) (fun _ t7 _ => 1 - (intOf t7).toNat)
        case atStart => exact ⟨Or.inl ⟨rfl, rfl⟩, HB⟩
        case round =>
          clear HB
          obtain ⟨⟨rfl, rfl⟩ | ⟨rfl, rfl⟩, HB⟩ := hrel
          · go_wp2_with fail
            go_region
            go_wp2_with fail
            all_goals first
              | (exfalso; rename_i h; rw [hs0] at h; have h' := of_decide_eq_true (show decide (((32 : Nat) : Int) = (b.toNat : Int)) = true by simpa using h); omega)
              | exact ⟨⟨Or.inr ⟨rfl, rfl⟩, Lib.hid HB.out.drew⟩, by simp [intOf]⟩
          · go_wp2_with fail
            go_ret
            refine ⟨?_, HB.out⟩
            unfold Nm.trimR
            rw [hup]
            show _ = Ending.returned (.string (Nm.bs (l.take (if l[n]? = some 32 then _ else _))))
            rw [if_neg (by rw [hb]; intro h; exact h32 (Option.some.inj h)), ← bs_to]; rfl
end Go.Proofs.YtjmahgefijncaaaGreatFmt
