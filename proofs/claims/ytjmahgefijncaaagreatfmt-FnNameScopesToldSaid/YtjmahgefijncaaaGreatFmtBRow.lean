/- Rows of bytes that are rewritten; nameLower, zzFold, entryAlike. -/
import Derived.Test.YtjmahgefijncaaaGreatFmtTrim
import Derived.Test.YtjmahgefijncaaaGreatFmtMem
import Derived.Laws.IdiomStrings
import Derived.Lib.ConvBytes
import Derived.Lib.AtoiErrMem
import Derived.Deep.QuietTactic
import Derived.BigQuiet
namespace Go.Proofs.YtjmahgefijncaaaGreatFmt
open Go Go.RowKit set_option linter.unusedVariables false set_option linter.unusedSimpArgs false

/-- The bytes l lie at the beginning of block g, and may be written. -/
def BRow (w : World) (g : Nat) (l : List UInt8) : Prop :=
  ∃ (cur : Array Value) (lo hi : Nat), w.heap[g]? = some (.cells cur 5 (lo, hi)) ∧ l.length ≤ lo ∧ ∀ (j : Nat) (b : UInt8), l[j]? = some b → cur[j]? = some (.int .u8 b.toNat)
theorem BRow.cell {w : World} {g : Nat} {l : List UInt8} (h : BRow w g l) {j : Nat} {b : UInt8} (hj : l[j]? = some b) : w.cell? ⟨g, j, none⟩ = some (.int .u8 b.toNat) := by
  obtain ⟨cur, lo, hi, h1, h2, h3⟩ := h
  rw [blockCell h1 j]; exact h3 j b hj
theorem BRow.frozen {w : World} {g : Nat} {l : List UInt8} (h : BRow w g l) {j : Nat} (hj : j < l.length) : w.frozen? ⟨g, j, none⟩ = false := by
  obtain ⟨cur, lo, hi, h1, h2, h3⟩ := h
  simp only [World.frozen?, h1, Bool.and_eq_false_iff, decide_eq_false_iff_not]
  left; omega
theorem BRow.set {w : World} {g : Nat} {l : List UInt8} (h : BRow w g l) (j : Nat) (b : UInt8) : BRow (w.setCell ⟨g, j, none⟩ (.int .u8 b.toNat)) g (l.set j b) := by
  obtain ⟨cur, lo, hi, h1, h2, h3⟩ := h
  refine ⟨_, lo, hi, blockSet h1 j _, by simpa using h2, fun k c hk => ?_⟩
  rw [List.getElem?_set] at hk
  rw [Array.getElem?_setIfInBounds]
  by_cases e : j = k
  · subst e
    rw [if_pos rfl] at hk ⊢
    split at hk
    · rename_i hlt
      obtain ⟨d, hd⟩ : ∃ d, l[j]? = some d := ⟨_, List.getElem?_eq_getElem hlt⟩
      have := h3 j d hd
      have hlt2 : j < cur.size := (Array.getElem?_eq_some_iff.1 this).1
      rw [if_pos hlt2]
      injection hk with hk
      rw [hk]
    · cases hk
  · rw [if_neg e] at hk ⊢
    exact h3 k c hk
theorem BRow.stays {w w' : World} {g : Nat} {l : List UInt8} (h : BRow w g l) (k : w'.heap[g]? = w.heap[g]?) : BRow w' g l := by
  obtain ⟨cur, lo, hi, h1, h2⟩ := h; exact ⟨cur, lo, hi, k.trans h1, h2⟩
theorem BRow.lt {w : World} {g : Nat} {l : List UInt8} (h : BRow w g l) : g < w.heap.size := by obtain ⟨cur, lo, hi, h1, _⟩ := h; exact blockLt h1
theorem BRow.made (w : World) (l : List UInt8) : BRow (Lib.bytesWorld w 5 (Nm.bs l)) w.heap.size l := by
  refine ⟨_, _, _, Lib.bytesWorld_at_new w 5 (Nm.bs l), ?_, fun j b hj => ?_⟩
  · simp [Lib.bytesCells, Nm.bs]
  · have hlt : j < l.length := (List.getElem?_eq_some_iff.1 hj).1
    simp only [Lib.bytesCells]
    rw [Array.getElem?_append_left (by simp [Nm.bs]; exact hlt)]
    simp [Nm.bs, hj]
theorem BRow.text {w : World} {g : Nat} {l : List UInt8} (h : BRow w g l) (cap : Nat) : (convert 51 9 (.slice (some ⟨g, 0, none⟩) l.length cap)).run Tryz.prog w = .ok (.string (Nm.bs l)) w := by
  refine run_convert_bytes_back (P := Tryz.prog) w 51 9 5 ⟨g, 0, none⟩ cap l Tryz.underlying51 Tryz.underlying5 Tryz.underlying9 (fun j hj => ?_)
  have := h.cell (List.getElem?_eq_getElem hj)
  unfold Addr.add
  split
  · rename_i e; subst e; exact this
  · simpa using this

def lowB (c : UInt8) : UInt8 := if 65 ≤ c ∧ c ≤ 90 then c + 32 else c
def low (l : List UInt8) : List UInt8 := l.map lowB

theorem conv_bytes' (w : World) (s : ByteArray) : (convert 9 51 (.string s)).run Tryz.prog w = .ok (.slice (some ⟨w.heap.size, 0, none⟩) s.size (grownCap w s.size 0 5)) (Lib.bytesWorld w 5 s) :=
  Lib.run_convert_string_bytes w 9 51 5 s Tryz.underlying9 Tryz.underlying51 Tryz.underlying5

theorem low_step {l : List UInt8} {i : Nat} {b : UInt8} (hb : l[i]? = some b) : (low (l.take i) ++ l.drop i).set i (lowB b) = low (l.take (i + 1)) ++ l.drop (i + 1) := by
  have hi : i < l.length := (List.getElem?_eq_some_iff.1 hb).1
  have e1 : l.drop i = b :: l.drop (i + 1) := by
    rw [List.drop_eq_getElem_cons hi]
    rw [List.getElem?_eq_getElem hi] at hb
    rw [Option.some.inj hb]
  have e2 : l.take (i + 1) = l.take i ++ [b] := by
    rw [List.take_succ_eq_append_getElem hi]
    rw [List.getElem?_eq_getElem hi] at hb
    rw [Option.some.inj hb]
  have e3 : (low (l.take i)).length = i := by simp [low]; omega
  rw [e1, e2, List.set_append_right _ _ (by omega), e3, Nat.sub_self]
  simp [low]
theorem low_keep {l : List UInt8} {i : Nat} {b : UInt8} (hb : l[i]? = some b) (h : lowB b = b) : low (l.take i) ++ l.drop i = low (l.take (i + 1)) ++ l.drop (i + 1) := by
  rw [← low_step hb, h]
  have hi : i < l.length := (List.getElem?_eq_some_iff.1 hb).1
  have e3 : (low (l.take i)).length = i := by simp [low]; omega
  have : (low (l.take i) ++ l.drop i)[i]? = some b := by
    rw [List.getElem?_append_right (by omega), e3, Nat.sub_self, List.getElem?_drop, Nat.add_zero]; exact hb
  obtain ⟨hlt, hge⟩ := List.getElem?_eq_some_iff.1 this
  rw [← hge]
  exact (List.set_getElem_self hlt).symm

set_option maxRecDepth 100000 in
set_option maxHeartbeats 4000000 in
theorem lower_any (l : List UInt8) (hl : l.length < 4000000000) (w : World) :
    Calls Tryz.prog 71 #[.string (Nm.bs l)] w fun e w' => e = .returned (.string (Nm.bs (low l))) ∧ Below w.heap.size w w' := by
  have hsz := bs_size l
  have hcv := conv_bytes' w (Nm.bs l)
  rw [hsz] at hcv
  have hmade := BRow.made w l
  have hbw := Lib.bytesWorld_below w 5 (Nm.bs l)
  generalize grownCap w l.length 0 5 = cap at hcv
  generalize Lib.bytesWorld w 5 (Nm.bs l) = BW at *
  have HM := Lib.hid hmade
  have HB := Lib.hid hbw
  clear hmade hbw
  go_enter Tryz.func71, Tryz.ntmps71
  go_wp2_with fail
  go_loopw [10] (fun t10 wr => ∃ i : Nat, t10 = .int .i64 i ∧ i ≤ l.length ∧ Hid (BRow wr w.heap.size (low (l.take i) ++ l.drop i) ∧ Below w.heap.size w wr)) (fun t10 _ => l.length - (intOf t10).toNat)
  case atStart => exact ⟨0, rfl, Nat.zero_le _, Lib.hid ⟨by simpa [low] using HM.out, HB.out⟩⟩
  case round =>
    clear hcv
    obtain ⟨i, rfl, hi, HI⟩ := hrel
    by_cases hend : i = l.length
    · subst hend
      have t1 : decide ((l.length : Int) < (l.length : Int)) = false := by simp
      have hrow := HI.out.1
      rw [List.take_length, List.drop_length, List.append_nil] at hrow
      have hll : (low l).length = l.length := by simp [low]
      have hcv := fun c => hrow.text c
      rw [hll] at hcv
      clear hrow
      go_wp2_with fail
      go_ret
      exact ⟨rfl, HI.out.2⟩
    · have hlt : i < l.length := by omega
      have t1 : decide ((i : Int) < (l.length : Int)) = true := by simp; omega
      obtain ⟨b, hb⟩ : ∃ b, l[i]? = some b := ⟨_, List.getElem?_eq_getElem hlt⟩
      have e3 : (low (l.take i)).length = i := by simp [low]; omega
      have hrb : (low (l.take i) ++ l.drop i)[i]? = some b := by
        rw [List.getElem?_append_right (by omega), e3, Nat.sub_self, List.getElem?_drop, Nat.add_zero]; exact hb
      have c0 := HI.out.1.cell hrb
      have f0 := HI.out.1.frozen (j := i) (by rw [List.length_append, e3]; simp; omega)
      by_cases hup : 65 ≤ b ∧ b ≤ 90
      · have h1 : 65 ≤ b.toNat := hup.1
        have h2 : b.toNat ≤ 90 := hup.2
        have q1 : decide ((65 : Int) ≤ (b.toNat : Int)) = true := by simp; omega
        have q2 : decide ((b.toNat : Int) ≤ 90) = true := by simp; omega
        have hlb : (lowB b).toNat = b.toNat + 32 := by
          unfold lowB; rw [if_pos hup, UInt8.toNat_add]
          have : (32 : UInt8).toNat = 32 := rfl
          omega
        have hset := HI.out.1.set i (lowB b)
        rw [low_step hb, show (((lowB b).toNat : Nat) : Int) = (b.toNat : Int) + 97 - 65 by omega] at hset
        have hbel := HI.out.2.setCell (p := ⟨w.heap.size, i, none⟩) (Nat.le_refl _) (.int .u8 ((b.toNat : Int) + 97 - 65))
        have HE := Lib.hid (And.intro hset hbel)
        clear hset hbel hlb hrb hb
        go_wp2_with fail
        exact ⟨⟨i + 1, by go_num, by omega, HE⟩, by simp [intOf]; omega⟩
      · have hlb : lowB b = b := by unfold lowB; rw [if_neg hup]
        have hk := low_keep hb hlb
        have HE := HI
        rw [hk] at HE
        clear hlb hrb hb hk
        by_cases h1 : 65 ≤ b.toNat
        · have h2 : ¬ b.toNat ≤ 90 := fun h => hup ⟨h1, h⟩
          have q1 : decide ((65 : Int) ≤ (b.toNat : Int)) = true := by simp; omega
          have q2 : decide ((b.toNat : Int) ≤ 90) = false := by simp; omega
          clear hup
          go_wp2_with fail
          exact ⟨⟨i + 1, by go_num, by omega, HE⟩, by simp [intOf]; omega⟩
        · have q1 : decide ((65 : Int) ≤ (b.toNat : Int)) = false := by simp; omega
          clear hup
          go_wp2_with fail
          exact ⟨⟨i + 1, by go_num, by omega, HE⟩, by simp [intOf]; omega⟩

theorem nameLower_any (l : List UInt8) (hl : l.length < 4000000000) (w : World) :
    Calls Tryz.prog 42 #[.string (Nm.bs l)] w fun e w' => e = .returned (.string (Nm.bs (low l))) ∧ Below w.heap.size w w' := by
  have H := Lib.hid (lower_any l hl w)
  go_enter Tryz.func42, Tryz.ntmps42
  go_wp2_with fail
  refine H.out.mono ?_
  rintro e w1 ⟨rfl, hb⟩
  have HB := Lib.hid hb
  clear hb
  go_wp2_with fail
  go_ret
  exact ⟨rfl, HB.out⟩

theorem bs_inj {a b : List UInt8} (h : Nm.bs a = Nm.bs b) : a = b := by
  have := congrArg (fun x => x.data.toList) h
  simpa [Nm.bs] using this
def foldSame (a b : List UInt8) : Bool := decide (low a = low b)

theorem low_cmp {a b : List UInt8} (hl : a.length = b.length) {i : Nat} {x y : UInt8} (hx : a[i]? = some x) (hy : b[i]? = some y) (h : low (a.take i) = low (b.take i)) :
    (lowB x = lowB y → low (a.take (i + 1)) = low (b.take (i + 1))) ∧ (lowB x ≠ lowB y → low a ≠ low b) := by
  have hi : i < a.length := (List.getElem?_eq_some_iff.1 hx).1
  have hi2 : i < b.length := (List.getElem?_eq_some_iff.1 hy).1
  constructor
  · intro he
    rw [List.take_succ_eq_append_getElem hi, List.take_succ_eq_append_getElem hi2]
    rw [List.getElem?_eq_getElem hi] at hx
    rw [List.getElem?_eq_getElem hi2] at hy
    rw [Option.some.inj hx, Option.some.inj hy]
    simp only [low, List.map_append, List.map_cons, List.map_nil] at h ⊢
    rw [h, he]
  · intro hne he
    have h1 : (low a)[i]? = some (lowB x) := by simp [low, hx]
    have h2 : (low b)[i]? = some (lowB y) := by simp [low, hy]
    rw [he, h2] at h1
    exact hne (Option.some.inj h1).symm

theorem lowB_nat (x : UInt8) : (lowB x).toNat = if 65 ≤ x.toNat ∧ x.toNat ≤ 90 then x.toNat + 32 else x.toNat := by
  unfold lowB
  by_cases h : 65 ≤ x ∧ x ≤ 90
  · rw [if_pos h, if_pos (show 65 ≤ x.toNat ∧ x.toNat ≤ 90 from h), UInt8.toNat_add]
    have : (32 : UInt8).toNat = 32 := rfl
    have h2 : x.toNat ≤ 90 := h.2
    omega
  · rw [if_neg h, if_neg (show ¬ (65 ≤ x.toNat ∧ x.toNat ≤ 90) from h)]

theorem drew_more {w wr : World} (h : ∃ m, wr = w.drewN m) (n : Nat) : ∃ m, wr.drewN n = w.drewN m := by
  obtain ⟨m, rfl⟩ := h; exact ⟨m + n, World.drewN_drewN ..⟩
theorem drewN_below (w : World) (m : Nat) : Below w.heap.size w (w.drewN m) := ⟨rfl, rfl, rfl, Nat.le_refl _, fun _ _ => rfl⟩

set_option maxRecDepth 100000 in
set_option maxHeartbeats 16000000 in
theorem fold_quiet (a b : List UInt8) (ha : a.length < 4000000000) (hb : b.length < 4000000000) (w : World) :
    Calls Tryz.prog 72 #[.string (Nm.bs a), .string (Nm.bs b)] w fun e w' => e = .returned (.bool (foldSame a b)) ∧ ∃ m, w' = w.drewN m := by
  have hsa := bs_size a
  have hsb := bs_size b
  by_cases hlen : a.length = b.length
  · have t0 : ((a.length : Int) != (b.length : Int)) = false := by simp [hlen]
    have HL := Lib.hid hlen
    go_enter Tryz.func72, Tryz.ntmps72
    clear hlen
    go_wp2_with fail
    go_loopw [5] (fun t5 wr => ∃ i : Nat, t5 = .int .i64 i ∧ i ≤ a.length ∧ Hid (low (a.take i) = low (b.take i) ∧ ∃ m, wr = w.drewN m)) (fun t5 _ => a.length - (intOf t5).toNat)
    case atStart => exact ⟨0, rfl, Nat.zero_le _, Lib.hid ⟨rfl, 0, rfl⟩⟩
    case round =>
      obtain ⟨i, rfl, hi, HI⟩ := hrel
      by_cases hend : i = a.length
      · subst hend
        have t1 : decide ((a.length : Int) < (a.length : Int)) = false := by simp
        have hr : foldSame a b = true := by
          have := HI.out.1
          rw [List.take_length, HL.out, List.take_length] at this
          simp [foldSame, this]
        have HR := Lib.hid hr
        clear hr
        go_wp2_with fail
        go_ret
        exact ⟨by rw [HR.out]; rfl, HI.out.2⟩
      · have hlt : i < a.length := by omega
        have hltb : i < b.length := by have := HL.out; omega
        have hlt2 : i < (Nm.bs a).size := by rw [hsa]; exact hlt
        have hlt3 : i < (Nm.bs b).size := by rw [hsb]; exact hltb
        have t1 : decide ((i : Int) < (a.length : Int)) = true := by simp; omega
        obtain ⟨x, hx, hgx⟩ : ∃ x : UInt8, a[i]? = some x ∧ ((Nm.bs a)[i]'hlt2).toNat = x.toNat := ⟨_, List.getElem?_eq_getElem hlt, by rw [bs_get]⟩
        obtain ⟨y, hy, hgy⟩ : ∃ y : UInt8, b[i]? = some y ∧ ((Nm.bs b)[i]'hlt3).toNat = y.toNat := ⟨_, List.getElem?_eq_getElem hltb, by rw [bs_get]⟩
        obtain ⟨hgood, hbad⟩ := low_cmp HL.out hx hy HI.out.1
        have hgo : lowB x = lowB y → low (a.take (i + 1)) = low (b.take (i + 1)) := hgood
        have hno : lowB x ≠ lowB y → foldSame a b = false := fun h => by simp [foldSame, hbad h]
        have hxn := lowB_nat x
        have hyn := lowB_nat y
        have hxl := UInt8.toNat_lt x
        have hyl := UInt8.toNat_lt y
        have heq : (lowB x = lowB y) ↔ (lowB x).toNat = (lowB y).toNat := ⟨fun h => by rw [h], fun h => UInt8.toNat_inj.1 h⟩
        rw [hxn, hyn] at heq
        have HGO := Lib.hid (fun h => hgo (heq.2 h))
        have HNO := Lib.hid (fun (h : ¬ _) => hno (fun e => h (heq.1 e)))
        have i0 : (0 : Int) ≤ (i : Int) := by omega
        have i1 : (i : Int) < (a.length : Int) := by omega
        have i2 : (i : Int) < (b.length : Int) := by omega
        clear hgood hbad hgo hno hxn hyn heq hx hy hend
        generalize x.toNat = m at *
        generalize y.toNat = n at *
        have hcx : (m < 65) ∨ (65 ≤ m ∧ 90 < m) ∨ (65 ≤ m ∧ m ≤ 90) := by omega
        have hcy : (n < 65) ∨ (65 ≤ n ∧ 90 < n) ∨ (65 ≤ n ∧ n ≤ 90) := by omega
        rcases hcx with hx1 | hx1 | hx1 <;> rcases hcy with hy1 | hy1 | hy1
        · have pm : decide ((m : Int) ≥ 65) = false := by simp; omega
          have hMm : (if 65 ≤ m ∧ m ≤ 90 then m + 32 else m) = m := if_neg (by omega)
          have pn : decide ((n : Int) ≥ 65) = false := by simp; omega
          have hMn : (if 65 ≤ n ∧ n ≤ 90 then n + 32 else n) = n := if_neg (by omega)
          rw [hMm, hMn] at HGO HNO
          clear hMm hMn
          by_cases he : m = n
          · have hq : (((m : Int)) != ((n : Int))) = false := by rw [bne_eq_false_iff_eq]; omega
            have HN := Lib.hid (And.intro (HGO.out he) HI.out.2)
            clear HGO HNO he
            go_wp2_with fail
            go_quiet (fail)
            go_wp2_with fail
            exact ⟨⟨i + 1, by go_num, by omega, Lib.hid ⟨HN.out.1, drew_more HN.out.2 nq⟩⟩, by simp [intOf]; omega⟩
          · have hq : (((m : Int)) != ((n : Int))) = true := by rw [bne_iff_ne]; omega
            have HN := Lib.hid (HNO.out he)
            clear HGO HNO he
            go_wp2_with fail
            go_quiet (fail)
            go_wp2_with fail
            go_ret
            exact ⟨by rw [HN.out]; rfl, drew_more HI.out.2 nq⟩
        · have pm : decide ((m : Int) ≥ 65) = false := by simp; omega
          have hMm : (if 65 ≤ m ∧ m ≤ 90 then m + 32 else m) = m := if_neg (by omega)
          have pn : decide ((n : Int) ≥ 65) = true := by simp; omega
          have pn2 : decide ((n : Int) ≤ 90) = false := by simp; omega
          have hMn : (if 65 ≤ n ∧ n ≤ 90 then n + 32 else n) = n := if_neg (by omega)
          rw [hMm, hMn] at HGO HNO
          clear hMm hMn
          by_cases he : m = n
          · have hq : (((m : Int)) != ((n : Int))) = false := by rw [bne_eq_false_iff_eq]; omega
            have HN := Lib.hid (And.intro (HGO.out he) HI.out.2)
            clear HGO HNO he
            go_wp2_with fail
            go_quiet (fail)
            go_wp2_with fail
            exact ⟨⟨i + 1, by go_num, by omega, Lib.hid ⟨HN.out.1, drew_more HN.out.2 nq⟩⟩, by simp [intOf]; omega⟩
          · have hq : (((m : Int)) != ((n : Int))) = true := by rw [bne_iff_ne]; omega
            have HN := Lib.hid (HNO.out he)
            clear HGO HNO he
            go_wp2_with fail
            go_quiet (fail)
            go_wp2_with fail
            go_ret
            exact ⟨by rw [HN.out]; rfl, drew_more HI.out.2 nq⟩
        · have pm : decide ((m : Int) ≥ 65) = false := by simp; omega
          have hMm : (if 65 ≤ m ∧ m ≤ 90 then m + 32 else m) = m := if_neg (by omega)
          have pn : decide ((n : Int) ≥ 65) = true := by simp; omega
          have pn2 : decide ((n : Int) ≤ 90) = true := by simp; omega
          have hMn : (if 65 ≤ n ∧ n ≤ 90 then n + 32 else n) = n + 32 := if_pos (by omega)
          rw [hMm, hMn] at HGO HNO
          clear hMm hMn
          by_cases he : m = n + 32
          · have hq : (((m : Int)) != ((n : Int) + 32)) = false := by rw [bne_eq_false_iff_eq]; omega
            have HN := Lib.hid (And.intro (HGO.out he) HI.out.2)
            clear HGO HNO he
            go_wp2_with fail
            go_quiet (fail)
            go_wp2_with fail
            exact ⟨⟨i + 1, by go_num, by omega, Lib.hid ⟨HN.out.1, drew_more HN.out.2 nq⟩⟩, by simp [intOf]; omega⟩
          · have hq : (((m : Int)) != ((n : Int) + 32)) = true := by rw [bne_iff_ne]; omega
            have HN := Lib.hid (HNO.out he)
            clear HGO HNO he
            go_wp2_with fail
            go_quiet (fail)
            go_wp2_with fail
            go_ret
            exact ⟨by rw [HN.out]; rfl, drew_more HI.out.2 nq⟩
        · have pm : decide ((m : Int) ≥ 65) = true := by simp; omega
          have pm2 : decide ((m : Int) ≤ 90) = false := by simp; omega
          have hMm : (if 65 ≤ m ∧ m ≤ 90 then m + 32 else m) = m := if_neg (by omega)
          have pn : decide ((n : Int) ≥ 65) = false := by simp; omega
          have hMn : (if 65 ≤ n ∧ n ≤ 90 then n + 32 else n) = n := if_neg (by omega)
          rw [hMm, hMn] at HGO HNO
          clear hMm hMn
          by_cases he : m = n
          · have hq : (((m : Int)) != ((n : Int))) = false := by rw [bne_eq_false_iff_eq]; omega
            have HN := Lib.hid (And.intro (HGO.out he) HI.out.2)
            clear HGO HNO he
            go_wp2_with fail
            go_quiet (fail)
            go_wp2_with fail
            exact ⟨⟨i + 1, by go_num, by omega, Lib.hid ⟨HN.out.1, drew_more HN.out.2 nq⟩⟩, by simp [intOf]; omega⟩
          · have hq : (((m : Int)) != ((n : Int))) = true := by rw [bne_iff_ne]; omega
            have HN := Lib.hid (HNO.out he)
            clear HGO HNO he
            go_wp2_with fail
            go_quiet (fail)
            go_wp2_with fail
            go_ret
            exact ⟨by rw [HN.out]; rfl, drew_more HI.out.2 nq⟩
        · have pm : decide ((m : Int) ≥ 65) = true := by simp; omega
          have pm2 : decide ((m : Int) ≤ 90) = false := by simp; omega
          have hMm : (if 65 ≤ m ∧ m ≤ 90 then m + 32 else m) = m := if_neg (by omega)
          have pn : decide ((n : Int) ≥ 65) = true := by simp; omega
          have pn2 : decide ((n : Int) ≤ 90) = false := by simp; omega
          have hMn : (if 65 ≤ n ∧ n ≤ 90 then n + 32 else n) = n := if_neg (by omega)
          rw [hMm, hMn] at HGO HNO
          clear hMm hMn
          by_cases he : m = n
          · have hq : (((m : Int)) != ((n : Int))) = false := by rw [bne_eq_false_iff_eq]; omega
            have HN := Lib.hid (And.intro (HGO.out he) HI.out.2)
            clear HGO HNO he
            go_wp2_with fail
            go_quiet (fail)
            go_wp2_with fail
            exact ⟨⟨i + 1, by go_num, by omega, Lib.hid ⟨HN.out.1, drew_more HN.out.2 nq⟩⟩, by simp [intOf]; omega⟩
          · have hq : (((m : Int)) != ((n : Int))) = true := by rw [bne_iff_ne]; omega
            have HN := Lib.hid (HNO.out he)
            clear HGO HNO he
            go_wp2_with fail
            go_quiet (fail)
            go_wp2_with fail
            go_ret
            exact ⟨by rw [HN.out]; rfl, drew_more HI.out.2 nq⟩
        · have pm : decide ((m : Int) ≥ 65) = true := by simp; omega
          have pm2 : decide ((m : Int) ≤ 90) = false := by simp; omega
          have hMm : (if 65 ≤ m ∧ m ≤ 90 then m + 32 else m) = m := if_neg (by omega)
          have pn : decide ((n : Int) ≥ 65) = true := by simp; omega
          have pn2 : decide ((n : Int) ≤ 90) = true := by simp; omega
          have hMn : (if 65 ≤ n ∧ n ≤ 90 then n + 32 else n) = n + 32 := if_pos (by omega)
          rw [hMm, hMn] at HGO HNO
          clear hMm hMn
          by_cases he : m = n + 32
          · have hq : (((m : Int)) != ((n : Int) + 32)) = false := by rw [bne_eq_false_iff_eq]; omega
            have HN := Lib.hid (And.intro (HGO.out he) HI.out.2)
            clear HGO HNO he
            go_wp2_with fail
            go_quiet (fail)
            go_wp2_with fail
            exact ⟨⟨i + 1, by go_num, by omega, Lib.hid ⟨HN.out.1, drew_more HN.out.2 nq⟩⟩, by simp [intOf]; omega⟩
          · have hq : (((m : Int)) != ((n : Int) + 32)) = true := by rw [bne_iff_ne]; omega
            have HN := Lib.hid (HNO.out he)
            clear HGO HNO he
            go_wp2_with fail
            go_quiet (fail)
            go_wp2_with fail
            go_ret
            exact ⟨by rw [HN.out]; rfl, drew_more HI.out.2 nq⟩
        · have pm : decide ((m : Int) ≥ 65) = true := by simp; omega
          have pm2 : decide ((m : Int) ≤ 90) = true := by simp; omega
          have hMm : (if 65 ≤ m ∧ m ≤ 90 then m + 32 else m) = m + 32 := if_pos (by omega)
          have pn : decide ((n : Int) ≥ 65) = false := by simp; omega
          have hMn : (if 65 ≤ n ∧ n ≤ 90 then n + 32 else n) = n := if_neg (by omega)
          rw [hMm, hMn] at HGO HNO
          clear hMm hMn
          by_cases he : m + 32 = n
          · have hq : (((m : Int) + 32) != ((n : Int))) = false := by rw [bne_eq_false_iff_eq]; omega
            have HN := Lib.hid (And.intro (HGO.out he) HI.out.2)
            clear HGO HNO he
            go_wp2_with fail
            go_quiet (fail)
            go_wp2_with fail
            exact ⟨⟨i + 1, by go_num, by omega, Lib.hid ⟨HN.out.1, drew_more HN.out.2 nq⟩⟩, by simp [intOf]; omega⟩
          · have hq : (((m : Int) + 32) != ((n : Int))) = true := by rw [bne_iff_ne]; omega
            have HN := Lib.hid (HNO.out he)
            clear HGO HNO he
            go_wp2_with fail
            go_quiet (fail)
            go_wp2_with fail
            go_ret
            exact ⟨by rw [HN.out]; rfl, drew_more HI.out.2 nq⟩
        · have pm : decide ((m : Int) ≥ 65) = true := by simp; omega
          have pm2 : decide ((m : Int) ≤ 90) = true := by simp; omega
          have hMm : (if 65 ≤ m ∧ m ≤ 90 then m + 32 else m) = m + 32 := if_pos (by omega)
          have pn : decide ((n : Int) ≥ 65) = true := by simp; omega
          have pn2 : decide ((n : Int) ≤ 90) = false := by simp; omega
          have hMn : (if 65 ≤ n ∧ n ≤ 90 then n + 32 else n) = n := if_neg (by omega)
          rw [hMm, hMn] at HGO HNO
          clear hMm hMn
          by_cases he : m + 32 = n
          · have hq : (((m : Int) + 32) != ((n : Int))) = false := by rw [bne_eq_false_iff_eq]; omega
            have HN := Lib.hid (And.intro (HGO.out he) HI.out.2)
            clear HGO HNO he
            go_wp2_with fail
            go_quiet (fail)
            go_wp2_with fail
            exact ⟨⟨i + 1, by go_num, by omega, Lib.hid ⟨HN.out.1, drew_more HN.out.2 nq⟩⟩, by simp [intOf]; omega⟩
          · have hq : (((m : Int) + 32) != ((n : Int))) = true := by rw [bne_iff_ne]; omega
            have HN := Lib.hid (HNO.out he)
            clear HGO HNO he
            go_wp2_with fail
            go_quiet (fail)
            go_wp2_with fail
            go_ret
            exact ⟨by rw [HN.out]; rfl, drew_more HI.out.2 nq⟩
        · have pm : decide ((m : Int) ≥ 65) = true := by simp; omega
          have pm2 : decide ((m : Int) ≤ 90) = true := by simp; omega
          have hMm : (if 65 ≤ m ∧ m ≤ 90 then m + 32 else m) = m + 32 := if_pos (by omega)
          have pn : decide ((n : Int) ≥ 65) = true := by simp; omega
          have pn2 : decide ((n : Int) ≤ 90) = true := by simp; omega
          have hMn : (if 65 ≤ n ∧ n ≤ 90 then n + 32 else n) = n + 32 := if_pos (by omega)
          rw [hMm, hMn] at HGO HNO
          clear hMm hMn
          by_cases he : m + 32 = n + 32
          · have hq : (((m : Int) + 32) != ((n : Int) + 32)) = false := by rw [bne_eq_false_iff_eq]; omega
            have HN := Lib.hid (And.intro (HGO.out he) HI.out.2)
            clear HGO HNO he
            go_wp2_with fail
            go_quiet (fail)
            go_wp2_with fail
            exact ⟨⟨i + 1, by go_num, by omega, Lib.hid ⟨HN.out.1, drew_more HN.out.2 nq⟩⟩, by simp [intOf]; omega⟩
          · have hq : (((m : Int) + 32) != ((n : Int) + 32)) = true := by rw [bne_iff_ne]; omega
            have HN := Lib.hid (HNO.out he)
            clear HGO HNO he
            go_wp2_with fail
            go_quiet (fail)
            go_wp2_with fail
            go_ret
            exact ⟨by rw [HN.out]; rfl, drew_more HI.out.2 nq⟩
  · have t0 : ((a.length : Int) != (b.length : Int)) = true := by rw [bne_iff_ne]; omega
    have hr : foldSame a b = false := by
      simp only [foldSame, decide_eq_false_iff_not]
      intro h
      have := congrArg List.length h
      simp [low] at this
      exact hlen this
    have HR := Lib.hid hr
    clear hr
    go_enter Tryz.func72, Tryz.ntmps72
    go_wp2_with fail
    go_ret
    exact ⟨by rw [HR.out]; rfl, 0, rfl⟩

theorem fold_any (a b : List UInt8) (ha : a.length < 4000000000) (hb : b.length < 4000000000) (w : World) :
    Calls Tryz.prog 72 #[.string (Nm.bs a), .string (Nm.bs b)] w fun e w' => e = .returned (.bool (foldSame a b)) ∧ Below w.heap.size w w' :=
  (fold_quiet a b ha hb w).mono fun _ _ ⟨h1, m, h2⟩ => ⟨h1, by rw [h2]; exact drewN_below w m⟩
end Go.Proofs.YtjmahgefijncaaaGreatFmt
