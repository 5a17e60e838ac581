/- Rows of bytes that are rewritten; nameLower, zzFold, entryAlike. -/
import Derived.Test.YtjmahgefijncaaaGreatFmtJ1
import Derived.Laws.IdiomStrings
import Derived.Lib.ConvBytes
import Derived.Lib.AtoiErrMem
import Derived.Deep.QuietTactic
import Derived.BigQuiet
set_option linter.unusedVariables false
set_option linter.unusedSimpArgs false
namespace Go.Proofs.YtjmahgefijncaaaGreatFmt
open Go Go.RowKit set_option linter.unusedVariables false set_option linter.unusedSimpArgs false

/-- The bytes l lie at the beginning of block g, and may be written. -/
def BRow (w : World) (g : Nat) (l : List UInt8) : Prop :=
  ∃ (cur : Array Value) (lo hi : Nat), w.heap[g]? = some (.cells cur 5 (lo, hi)) ∧ l.length ≤ lo ∧ ∀ (j : Nat) (b : UInt8), l[j]? = some b → cur[j]? = some (.int .u8 b.toNat)
theorem BRow.cell {w : World} {g : Nat} {l : List UInt8} (h : BRow w g l) {j : Nat} {b : UInt8} (hj : l[j]? = some b) : w.cell? ⟨g, j, none⟩ = some (.int .u8 b.toNat) := by
  obtain ⟨cur, lo, hi, h1, h2, h3⟩ := h
  rw [blockCell h1 j]; exact h3 j b hj
theorem BRow.frozen {w : World} {g : Nat} {l : List UInt8} (h : BRow w g l) {j : Nat} (hj : j < l.length) : w.frozen? ⟨g, j, none⟩ = false := by
  obtain ⟨cur, lo, hi, h1, h2, h3⟩ := h
  simp only [World.frozen?, h1, Bool.and_eq_false_iff, decide_eq_false_iff_not]
  left; omega
theorem BRow.set {w : World} {g : Nat} {l : List UInt8} (h : BRow w g l) (j : Nat) (b : UInt8) : BRow (w.setCell ⟨g, j, none⟩ (.int .u8 b.toNat)) g (l.set j b) := by
  obtain ⟨cur, lo, hi, h1, h2, h3⟩ := h
  refine ⟨_, lo, hi, blockSet h1 j _, by simpa using h2, fun k c hk => ?_⟩
  rw [List.getElem?_set] at hk
  rw [Array.getElem?_setIfInBounds]
  by_cases e : j = k
  · subst e
    rw [if_pos rfl] at hk ⊢
    split at hk
    · rename_i hlt
      obtain ⟨d, hd⟩ : ∃ d, l[j]? = some d := ⟨_, List.getElem?_eq_getElem hlt⟩
      have := h3 j d hd
      have hlt2 : j < cur.size := (Array.getElem?_eq_some_iff.1 this).1
      rw [if_pos hlt2]
      injection hk with hk
      rw [hk]
    · cases hk
  · rw [if_neg e] at hk ⊢
    exact h3 k c hk
theorem BRow.stays {w w' : World} {g : Nat} {l : List UInt8} (h : BRow w g l) (k : w'.heap[g]? = w.heap[g]?) : BRow w' g l := by
  obtain ⟨cur, lo, hi, h1, h2⟩ := h; exact ⟨cur, lo, hi, k.trans h1, h2⟩
theorem BRow.lt {w : World} {g : Nat} {l : List UInt8} (h : BRow w g l) : g < w.heap.size := by obtain ⟨cur, lo, hi, h1, _⟩ := h; exact blockLt h1
theorem BRow.made (w : World) (l : List UInt8) : BRow (Lib.bytesWorld w 5 (Nm.bs l)) w.heap.size l := by
  refine ⟨_, _, _, Lib.bytesWorld_at_new w 5 (Nm.bs l), ?_, fun j b hj => ?_⟩
  · simp [Lib.bytesCells, Nm.bs]
  · have hlt : j < l.length := (List.getElem?_eq_some_iff.1 hj).1
    simp only [Lib.bytesCells]
    rw [Array.getElem?_append_left (by simp [Nm.bs]; exact hlt)]
    simp [Nm.bs, hj]
theorem BRow.text {w : World} {g : Nat} {l : List UInt8} (h : BRow w g l) (cap : Nat) : (convert 51 9 (.slice (some ⟨g, 0, none⟩) l.length cap)).run Tryz.prog w = .ok (.string (Nm.bs l)) w := by
  refine run_convert_bytes_back (P := Tryz.prog) w 51 9 5 ⟨g, 0, none⟩ cap l Tryz.underlying51 Tryz.underlying5 Tryz.underlying9 (fun j hj => ?_)
  have := h.cell (List.getElem?_eq_getElem hj)
  unfold Addr.add
  split
  · rename_i e; subst e; exact this
  · simpa using this

def lowB (c : UInt8) : UInt8 := if 65 ≤ c ∧ c ≤ 90 then c + 32 else c
def low (l : List UInt8) : List UInt8 := l.map lowB

theorem conv_bytes' (w : World) (s : ByteArray) : (convert 9 51 (.string s)).run Tryz.prog w = .ok (.slice (some ⟨w.heap.size, 0, none⟩) s.size (grownCap w s.size 0 5)) (Lib.bytesWorld w 5 s) :=
  Lib.run_convert_string_bytes w 9 51 5 s Tryz.underlying9 Tryz.underlying51 Tryz.underlying5

theorem low_step {l : List UInt8} {i : Nat} {b : UInt8} (hb : l[i]? = some b) : (low (l.take i) ++ l.drop i).set i (lowB b) = low (l.take (i + 1)) ++ l.drop (i + 1) := by
  have hi : i < l.length := (List.getElem?_eq_some_iff.1 hb).1
  have e1 : l.drop i = b :: l.drop (i + 1) := by
    rw [List.drop_eq_getElem_cons hi]
    rw [List.getElem?_eq_getElem hi] at hb
    rw [Option.some.inj hb]
  have e2 : l.take (i + 1) = l.take i ++ [b] := by
    rw [List.take_succ_eq_append_getElem hi]
    rw [List.getElem?_eq_getElem hi] at hb
    rw [Option.some.inj hb]
  have e3 : (low (l.take i)).length = i := by simp [low]; omega
  rw [e1, e2, List.set_append_right _ _ (by omega), e3, Nat.sub_self]
  simp [low]
theorem low_keep {l : List UInt8} {i : Nat} {b : UInt8} (hb : l[i]? = some b) (h : lowB b = b) : low (l.take i) ++ l.drop i = low (l.take (i + 1)) ++ l.drop (i + 1) := by
  rw [← low_step hb, h]
  have hi : i < l.length := (List.getElem?_eq_some_iff.1 hb).1
  have e3 : (low (l.take i)).length = i := by simp [low]; omega
  have : (low (l.take i) ++ l.drop i)[i]? = some b := by
    rw [List.getElem?_append_right (by omega), e3, Nat.sub_self, List.getElem?_drop, Nat.add_zero]; exact hb
  obtain ⟨hlt, hge⟩ := List.getElem?_eq_some_iff.1 this
  rw [← hge]
  exact (List.set_getElem_self hlt).symm

set_option maxRecDepth 100000 in
set_option maxHeartbeats 4000000 in
theorem lower_any (l : List UInt8) (hl : l.length < 4000000000) (w : World) :
    Calls Tryz.prog 71 #[.string (Nm.bs l)] w fun e w' => e = .returned (.string (Nm.bs (low l))) ∧ Below w.heap.size w w' := by
  have hsz := bs_size l
  have hcv := conv_bytes' w (Nm.bs l)
  rw [hsz] at hcv
  have hmade := BRow.made w l
  have hbw := Lib.bytesWorld_below w 5 (Nm.bs l)
  generalize grownCap w l.length 0 5 = cap at hcv
  generalize Lib.bytesWorld w 5 (Nm.bs l) = BW at *
  have HM := Lib.hid hmade
  have HB := Lib.hid hbw
  clear hmade hbw
  go_enter Tryz.func71, Tryz.ntmps71
  go_wp2_with fail
  go_loopw [10] (fun t10 wr => ∃ i : Nat, t10 = .int .i64 i ∧ i ≤ l.length ∧ Hid (BRow wr w.heap.size (low (l.take i) ++ l.drop i) ∧ Below w.heap.size w wr)) (fun t10 _ => l.length - (intOf t10).toNat)
  case atStart => exact ⟨0, rfl, Nat.zero_le _, Lib.hid ⟨by simpa [low] using HM.out, HB.out⟩⟩
  case round =>
    clear hcv
    obtain ⟨i, rfl, hi, HI⟩ := hrel
    by_cases hend : i = l.length
    · subst hend
      have t1 : decide ((l.length : Int) < (l.length : Int)) = false := by simp
      have hrow := HI.out.1
      rw [List.take_length, List.drop_length, List.append_nil] at hrow
      have hll : (low l).length = l.length := by simp [low]
      have hcv := fun c => hrow.text c
      rw [hll] at hcv
      clear hrow
      go_wp2_with fail
      go_ret
      exact ⟨rfl, HI.out.2⟩
    · have hlt : i < l.length := by omega
      have t1 : decide ((i : Int) < (l.length : Int)) = true := by simp; omega
      obtain ⟨b, hb⟩ : ∃ b, l[i]? = some b := ⟨_, List.getElem?_eq_getElem hlt⟩
      have e3 : (low (l.take i)).length = i := by simp [low]; omega
      have hrb : (low (l.take i) ++ l.drop i)[i]? = some b := by
        rw [List.getElem?_append_right (by omega), e3, Nat.sub_self, List.getElem?_drop, Nat.add_zero]; exact hb
      have c0 := HI.out.1.cell hrb
      have f0 := HI.out.1.frozen (j := i) (by rw [List.length_append, e3]; simp; omega)
      by_cases hup : 65 ≤ b ∧ b ≤ 90
      · have h1 : 65 ≤ b.toNat := hup.1
        have h2 : b.toNat ≤ 90 := hup.2
        have q1 : decide ((65 : Int) ≤ (b.toNat : Int)) = true := by simp; omega
        have q2 : decide ((b.toNat : Int) ≤ 90) = true := by simp; omega
        have hlb : (lowB b).toNat = b.toNat + 32 := by
          unfold lowB; rw [if_pos hup, UInt8.toNat_add]
          have : (32 : UInt8).toNat = 32 := rfl
          omega
        have hset := HI.out.1.set i (lowB b)
        rw [low_step hb, show (((lowB b).toNat : Nat) : Int) = (b.toNat : Int) + 97 - 65 by omega] at hset
        have hbel := HI.out.2.setCell (p := ⟨w.heap.size, i, none⟩) (Nat.le_refl _) (.int .u8 ((b.toNat : Int) + 97 - 65))
        have HE := Lib.hid (And.intro hset hbel)
        clear hset hbel hlb hrb hb
        go_wp2_with fail
        exact ⟨⟨i + 1, by go_num, by omega, HE⟩, by simp [intOf]; omega⟩
      · have hlb : lowB b = b := by unfold lowB; rw [if_neg hup]
        have hk := low_keep hb hlb
        have HE := HI
        rw [hk] at HE
        clear hlb hrb hb hk
        by_cases h1 : 65 ≤ b.toNat
        · have h2 : ¬ b.toNat ≤ 90 := fun h => hup ⟨h1, h⟩
          have q1 : decide ((65 : Int) ≤ (b.toNat : Int)) = true := by simp; omega
          have q2 : decide ((b.toNat : Int) ≤ 90) = false := by simp; omega
          clear hup
          go_wp2_with fail
          exact ⟨⟨i + 1, by go_num, by omega, HE⟩, by simp [intOf]; omega⟩
        · have q1 : decide ((65 : Int) ≤ (b.toNat : Int)) = false := by simp; omega
          clear hup
          go_wp2_with fail
          exact ⟨⟨i + 1, by go_num, by omega, HE⟩, by simp [intOf]; omega⟩

theorem nameLower_any (l : List UInt8) (hl : l.length < 4000000000) (w : World) :
    Calls Tryz.prog 42 #[.string (Nm.bs l)] w fun e w' => e = .returned (.string (Nm.bs (low l))) ∧ Below w.heap.size w w' := by
  have H := Lib.hid (lower_any l hl w)
  go_enter Tryz.func42, Tryz.ntmps42
  go_wp2_with fail
  refine H.out.mono ?_
  rintro e w1 ⟨rfl, hb⟩
  have HB := Lib.hid hb
  clear hb
  go_wp2_with fail
  go_ret
  exact ⟨rfl, HB.out⟩

theorem bs_inj {a b : List UInt8} (h : Nm.bs a = Nm.bs b) : a = b := by
  have := congrArg (fun x => x.data.toList) h
  simpa [Nm.bs] using this
def foldSame (a b : List UInt8) : Bool := decide (low a = low b)

theorem low_cmp {a b : List UInt8} (hl : a.length = b.length) {i : Nat} {x y : UInt8} (hx : a[i]? = some x) (hy : b[i]? = some y) (h : low (a.take i) = low (b.take i)) :
    (lowB x = lowB y → low (a.take (i + 1)) = low (b.take (i + 1))) ∧ (lowB x ≠ lowB y → low a ≠ low b) := by
  have hi : i < a.length := (List.getElem?_eq_some_iff.1 hx).1
  have hi2 : i < b.length := (List.getElem?_eq_some_iff.1 hy).1
  constructor
  · intro he
    rw [List.take_succ_eq_append_getElem hi, List.take_succ_eq_append_getElem hi2]
    rw [List.getElem?_eq_getElem hi] at hx
    rw [List.getElem?_eq_getElem hi2] at hy
    rw [Option.some.inj hx, Option.some.inj hy]
    simp only [low, List.map_append, List.map_cons, List.map_nil] at h ⊢
    rw [h, he]
  · intro hne he
    have h1 : (low a)[i]? = some (lowB x) := by simp [low, hx]
    have h2 : (low b)[i]? = some (lowB y) := by simp [low, hy]
    rw [he, h2] at h1
    exact hne (Option.some.inj h1).symm

theorem lowB_nat (x : UInt8) : (lowB x).toNat = if 65 ≤ x.toNat ∧ x.toNat ≤ 90 then x.toNat + 32 else x.toNat := by
  unfold lowB
  by_cases h : 65 ≤ x ∧ x ≤ 90
  · rw [if_pos h, if_pos (show 65 ≤ x.toNat ∧ x.toNat ≤ 90 from h), UInt8.toNat_add]
    have : (32 : UInt8).toNat = 32 := rfl
    have h2 : x.toNat ≤ 90 := h.2
    omega
  · rw [if_neg h, if_neg (show ¬ (65 ≤ x.toNat ∧ x.toNat ≤ 90) from h)]

theorem drew_more {w wr : World} (h : ∃ m, wr = w.drewN m) (n : Nat) : ∃ m, wr.drewN n = w.drewN m := by
  obtain ⟨m, rfl⟩ := h; exact ⟨m + n, World.drewN_drewN ..⟩
theorem drewN_below (w : World) (m : Nat) : Below w.heap.size w (w.drewN m) := ⟨rfl, rfl, rfl, Nat.le_refl _, fun _ _ => rfl⟩

set_option maxRecDepth 100000 in
set_option maxHeartbeats 16000000 in
theorem fold_quiet (a b : List UInt8) (ha : a.length < 4000000000) (hb : b.length < 4000000000) (w : World) :
    Calls Tryz.prog 72 #[.string (Nm.bs a), .string (Nm.bs b)] w fun e w' => e = .returned (.bool (foldSame a b)) ∧ ∃ m, w' = w.drewN m := by
  have hsa := bs_size a
  have hsb := bs_size b
  by_cases hlen : a.length = b.length
  · have t0 : ((a.length : Int) != (b.length : Int)) = false := by simp [hlen]
    have HL := Lib.hid hlen
    go_enter Tryz.func72, Tryz.ntmps72
    clear hlen
    go_wp2_with fail
    go_loopw [5] (fun t5 wr => ∃ i : Nat, t5 = .int .i64 i ∧ i ≤ a.length ∧ Hid (low (a.take i) = low (b.take i) ∧ ∃ m, wr = w.drewN m)) (fun t5 _ => a.length - (intOf t5).toNat)
    case atStart => exact ⟨0, rfl, Nat.zero_le _, Lib.hid ⟨rfl, 0, rfl⟩⟩
    case round =>
      obtain ⟨i, rfl, hi, HI⟩ := hrel
      by_cases hend : i = a.length
      · subst hend
        have t1 : decide ((a.length : Int) < (a.length : Int)) = false := by simp
        have hr : foldSame a b = true := by
          have := HI.out.1
          rw [List.take_length, HL.out, List.take_length] at this
          simp [foldSame, this]
        have HR := Lib.hid hr
        clear hr
        go_wp2_with fail
        go_ret
        exact ⟨by rw [HR.out]; rfl, HI.out.2⟩
      · have hlt : i < a.length := by omega
        have hltb : i < b.length := by have := HL.out; omega
        have hlt2 : i < (Nm.bs a).size := by rw [hsa]; exact hlt
        have hlt3 : i < (Nm.bs b).size := by rw [hsb]; exact hltb
        have t1 : decide ((i : Int) < (a.length : Int)) = true := by simp; omega
        obtain ⟨x, hx, hgx⟩ : ∃ x : UInt8, a[i]? = some x ∧ ((Nm.bs a)[i]'hlt2).toNat = x.toNat := ⟨_, List.getElem?_eq_getElem hlt, by rw [bs_get]⟩
        obtain ⟨y, hy, hgy⟩ : ∃ y : UInt8, b[i]? = some y ∧ ((Nm.bs b)[i]'hlt3).toNat = y.toNat := ⟨_, List.getElem?_eq_getElem hltb, by rw [bs_get]⟩
        obtain ⟨hgood, hbad⟩ := low_cmp HL.out hx hy HI.out.1
        have hgo : lowB x = lowB y → low (a.take (i + 1)) = low (b.take (i + 1)) := hgood
        have hno : lowB x ≠ lowB y → foldSame a b = false := fun h => by simp [foldSame, hbad h]
        have hxn := lowB_nat x
        have hyn := lowB_nat y
        have hxl := UInt8.toNat_lt x
        have hyl := UInt8.toNat_lt y
        have heq : (lowB x = lowB y) ↔ (lowB x).toNat = (lowB y).toNat := ⟨fun h => by rw [h], fun h => UInt8.toNat_inj.1 h⟩
        rw [hxn, hyn] at heq
        have HGO := Lib.hid (fun h => hgo (heq.2 h))
        have HNO := Lib.hid (fun (h : ¬ _) => hno (fun e => h (heq.1 e)))
        have i0 : (0 : Int) ≤ (i : Int) := by omega
        have i1 : (i : Int) < (a.length : Int) := by omega
        have i2 : (i : Int) < (b.length : Int) := by omega
        clear hgood hbad hgo hno hxn hyn heq hx hy hend
        generalize x.toNat = m at *
        generalize y.toNat = n at *
        have hcx : (m < 65) ∨ (65 ≤ m ∧ 90 < m) ∨ (65 ≤ m ∧ m ≤ 90) := by omega
        have hcy : (n < 65) ∨ (65 ≤ n ∧ 90 < n) ∨ (65 ≤ n ∧ n ≤ 90) := by omega
        rcases hcx with hx1 | hx1 | hx1 <;> rcases hcy with hy1 | hy1 | hy1
        · have pm : decide ((m : Int) ≥ 65) = false := by simp; omega
          have hMm : (if 65 ≤ m ∧ m ≤ 90 then m + 32 else m) = m := if_neg (by omega)
          have pn : decide ((n : Int) ≥ 65) = false := by simp; omega
          have hMn : (if 65 ≤ n ∧ n ≤ 90 then n + 32 else n) = n := if_neg (by omega)
          rw [hMm, hMn] at HGO HNO
          clear hMm hMn
          by_cases he : m = n
          · have hq : (((m : Int)) != ((n : Int))) = false := by rw [bne_eq_false_iff_eq]; omega
            have HN := Lib.hid (And.intro (HGO.out he) HI.out.2)
            clear HGO HNO he
            go_wp2_with fail
            go_quiet (fail)
            go_wp2_with fail
            exact ⟨⟨i + 1, by go_num, by omega, Lib.hid ⟨HN.out.1, drew_more HN.out.2 nq⟩⟩, by simp [intOf]; omega⟩
          · have hq : (((m : Int)) != ((n : Int))) = true := by rw [bne_iff_ne]; omega
            have HN := Lib.hid (HNO.out he)
            clear HGO HNO he
            go_wp2_with fail
            go_quiet (fail)
            go_wp2_with fail
            go_ret
            exact ⟨by rw [HN.out]; rfl, drew_more HI.out.2 nq⟩
        · have pm : decide ((m : Int) ≥ 65) = false := by simp; omega
          have hMm : (if 65 ≤ m ∧ m ≤ 90 then m + 32 else m) = m := if_neg (by omega)
          have pn : decide ((n : Int) ≥ 65) = true := by simp; omega
          have pn2 : decide ((n : Int) ≤ 90) = false := by simp; omega
          have hMn : (if 65 ≤ n ∧ n ≤ 90 then n + 32 else n) = n := if_neg (by omega)
          rw [hMm, hMn] at HGO HNO
          clear hMm hMn
          by_cases he : m = n
          · have hq : (((m : Int)) != ((n : Int))) = false := by rw [bne_eq_false_iff_eq]; omega
            have HN := Lib.hid (And.intro (HGO.out he) HI.out.2)
            clear HGO HNO he
            go_wp2_with fail
            go_quiet (fail)
            go_wp2_with fail
            exact ⟨⟨i + 1, by go_num, by omega, Lib.hid ⟨HN.out.1, drew_more HN.out.2 nq⟩⟩, by simp [intOf]; omega⟩
          · have hq : (((m : Int)) != ((n : Int))) = true := by rw [bne_iff_ne]; omega
            have HN := Lib.hid (HNO.out he)
            clear HGO HNO he
            go_wp2_with fail
            go_quiet (fail)
            go_wp2_with fail
            go_ret
            exact ⟨by rw [HN.out]; rfl, drew_more HI.out.2 nq⟩
        · have pm : decide ((m : Int) ≥ 65) = false := by simp; omega
          have hMm : (if 65 ≤ m ∧ m ≤ 90 then m + 32 else m) = m := if_neg (by omega)
          have pn : decide ((n : Int) ≥ 65) = true := by simp; omega
          have pn2 : decide ((n : Int) ≤ 90) = true := by simp; omega
          have hMn : (if 65 ≤ n ∧ n ≤ 90 then n + 32 else n) = n + 32 := if_pos (by omega)
          rw [hMm, hMn] at HGO HNO
          clear hMm hMn
          by_cases he : m = n + 32
          · have hq : (((m : Int)) != ((n : Int) + 32)) = false := by rw [bne_eq_false_iff_eq]; omega
            have HN := Lib.hid (And.intro (HGO.out he) HI.out.2)
            clear HGO HNO he
            go_wp2_with fail
            go_quiet (fail)
            go_wp2_with fail
            exact ⟨⟨i + 1, by go_num, by omega, Lib.hid ⟨HN.out.1, drew_more HN.out.2 nq⟩⟩, by simp [intOf]; omega⟩
          · have hq : (((m : Int)) != ((n : Int) + 32)) = true := by rw [bne_iff_ne]; omega
            have HN := Lib.hid (HNO.out he)
            clear HGO HNO he
            go_wp2_with fail
            go_quiet (fail)
            go_wp2_with fail
            go_ret
            exact ⟨by rw [HN.out]; rfl, drew_more HI.out.2 nq⟩
        · have pm : decide ((m : Int) ≥ 65) = true := by simp; omega
          have pm2 : decide ((m : Int) ≤ 90) = false := by simp; omega
          have hMm : (if 65 ≤ m ∧ m ≤ 90 then m + 32 else m) = m := if_neg (by omega)
          have pn : decide ((n : Int) ≥ 65) = false := by simp; omega
          have hMn : (if 65 ≤ n ∧ n ≤ 90 then n + 32 else n) = n := if_neg (by omega)
          rw [hMm, hMn] at HGO HNO
          clear hMm hMn
          by_cases he : m = n
          · have hq : (((m : Int)) != ((n : Int))) = false := by rw [bne_eq_false_iff_eq]; omega
            have HN := Lib.hid (And.intro (HGO.out he) HI.out.2)
            clear HGO HNO he
            go_wp2_with fail
            go_quiet (fail)
            go_wp2_with fail
            exact ⟨⟨i + 1, by go_num, by omega, Lib.hid ⟨HN.out.1, drew_more HN.out.2 nq⟩⟩, by simp [intOf]; omega⟩
          · have hq : (((m : Int)) != ((n : Int))) = true := by rw [bne_iff_ne]; omega
            have HN := Lib.hid (HNO.out he)
            clear HGO HNO he
            go_wp2_with fail
            go_quiet (fail)
            go_wp2_with fail
            go_ret
            exact ⟨by rw [HN.out]; rfl, drew_more HI.out.2 nq⟩
        · have pm : decide ((m : Int) ≥ 65) = true := by simp; omega
          have pm2 : decide ((m : Int) ≤ 90) = false := by simp; omega
          have hMm : (if 65 ≤ m ∧ m ≤ 90 then m + 32 else m) = m := if_neg (by omega)
          have pn : decide ((n : Int) ≥ 65) = true := by simp; omega
          have pn2 : decide ((n : Int) ≤ 90) = false := by simp; omega
          have hMn : (if 65 ≤ n ∧ n ≤ 90 then n + 32 else n) = n := if_neg (by omega)
          rw [hMm, hMn] at HGO HNO
          clear hMm hMn
          by_cases he : m = n
          · have hq : (((m : Int)) != ((n : Int))) = false := by rw [bne_eq_false_iff_eq]; omega
            have HN := Lib.hid (And.intro (HGO.out he) HI.out.2)
            clear HGO HNO he
            go_wp2_with fail
            go_quiet (fail)
            go_wp2_with fail
            exact ⟨⟨i + 1, by go_num, by omega, Lib.hid ⟨HN.out.1, drew_more HN.out.2 nq⟩⟩, by simp [intOf]; omega⟩
          · have hq : (((m : Int)) != ((n : Int))) = true := by rw [bne_iff_ne]; omega
            have HN := Lib.hid (HNO.out he)
            clear HGO HNO he
            go_wp2_with fail
            go_quiet (fail)
            go_wp2_with fail
            go_ret
            exact ⟨by rw [HN.out]; rfl, drew_more HI.out.2 nq⟩
        · have pm : decide ((m : Int) ≥ 65) = true := by simp; omega
          have pm2 : decide ((m : Int) ≤ 90) = false := by simp; omega
          have hMm : (if 65 ≤ m ∧ m ≤ 90 then m + 32 else m) = m := if_neg (by omega)
          have pn : decide ((n : Int) ≥ 65) = true := by simp; omega
          have pn2 : decide ((n : Int) ≤ 90) = true := by simp; omega
          have hMn : (if 65 ≤ n ∧ n ≤ 90 then n + 32 else n) = n + 32 := if_pos (by omega)
          rw [hMm, hMn] at HGO HNO
          clear hMm hMn
          by_cases he : m = n + 32
          · have hq : (((m : Int)) != ((n : Int) + 32)) = false := by rw [bne_eq_false_iff_eq]; omega
            have HN := Lib.hid (And.intro (HGO.out he) HI.out.2)
            clear HGO HNO he
            go_wp2_with fail
            go_quiet (fail)
            go_wp2_with fail
            exact ⟨⟨i + 1, by go_num, by omega, Lib.hid ⟨HN.out.1, drew_more HN.out.2 nq⟩⟩, by simp [intOf]; omega⟩
          · have hq : (((m : Int)) != ((n : Int) + 32)) = true := by rw [bne_iff_ne]; omega
            have HN := Lib.hid (HNO.out he)
            clear HGO HNO he
            go_wp2_with fail
            go_quiet (fail)
            go_wp2_with fail
            go_ret
            exact ⟨by rw [HN.out]; rfl, drew_more HI.out.2 nq⟩
        · have pm : decide ((m : Int) ≥ 65) = true := by simp; omega
          have pm2 : decide ((m : Int) ≤ 90) = true := by simp; omega
          have hMm : (if 65 ≤ m ∧ m ≤ 90 then m + 32 else m) = m + 32 := if_pos (by omega)
          have pn : decide ((n : Int) ≥ 65) = false := by simp; omega
          have hMn : (if 65 ≤ n ∧ n ≤ 90 then n + 32 else n) = n := if_neg (by omega)
          rw [hMm, hMn] at HGO HNO
          clear hMm hMn
          by_cases he : m + 32 = n
          · have hq : (((m : Int) + 32) != ((n : Int))) = false := by rw [bne_eq_false_iff_eq]; omega
            have HN := Lib.hid (And.intro (HGO.out he) HI.out.2)
            clear HGO HNO he
            go_wp2_with fail
            go_quiet (fail)
            go_wp2_with fail
            exact ⟨⟨i + 1, by go_num, by omega, Lib.hid ⟨HN.out.1, drew_more HN.out.2 nq⟩⟩, by simp [intOf]; omega⟩
          · have hq : (((m : Int) + 32) != ((n : Int))) = true := by rw [bne_iff_ne]; omega
            have HN := Lib.hid (HNO.out he)
            clear HGO HNO he
            go_wp2_with fail
            go_quiet (fail)
            go_wp2_with fail
            go_ret
            exact ⟨by rw [HN.out]; rfl, drew_more HI.out.2 nq⟩
        · have pm : decide ((m : Int) ≥ 65) = true := by simp; omega
          have pm2 : decide ((m : Int) ≤ 90) = true := by simp; omega
          have hMm : (if 65 ≤ m ∧ m ≤ 90 then m + 32 else m) = m + 32 := if_pos (by omega)
          have pn : decide ((n : Int) ≥ 65) = true := by simp; omega
          have pn2 : decide ((n : Int) ≤ 90) = false := by simp; omega
          have hMn : (if 65 ≤ n ∧ n ≤ 90 then n + 32 else n) = n := if_neg (by omega)
          rw [hMm, hMn] at HGO HNO
          clear hMm hMn
          by_cases he : m + 32 = n
          · have hq : (((m : Int) + 32) != ((n : Int))) = false := by rw [bne_eq_false_iff_eq]; omega
            have HN := Lib.hid (And.intro (HGO.out he) HI.out.2)
            clear HGO HNO he
            go_wp2_with fail
            go_quiet (fail)
            go_wp2_with fail
            exact ⟨⟨i + 1, by go_num, by omega, Lib.hid ⟨HN.out.1, drew_more HN.out.2 nq⟩⟩, by simp [intOf]; omega⟩
          · have hq : (((m : Int) + 32) != ((n : Int))) = true := by rw [bne_iff_ne]; omega
            have HN := Lib.hid (HNO.out he)
            clear HGO HNO he
            go_wp2_with fail
            go_quiet (fail)
            go_wp2_with fail
            go_ret
            exact ⟨by rw [HN.out]; rfl, drew_more HI.out.2 nq⟩
        · have pm : decide ((m : Int) ≥ 65) = true := by simp; omega
          have pm2 : decide ((m : Int) ≤ 90) = true := by simp; omega
          have hMm : (if 65 ≤ m ∧ m ≤ 90 then m + 32 else m) = m + 32 := if_pos (by omega)
          have pn : decide ((n : Int) ≥ 65) = true := by simp; omega
          have pn2 : decide ((n : Int) ≤ 90) = true := by simp; omega
          have hMn : (if 65 ≤ n ∧ n ≤ 90 then n + 32 else n) = n + 32 := if_pos (by omega)
          rw [hMm, hMn] at HGO HNO
          clear hMm hMn
          by_cases he : m + 32 = n + 32
          · have hq : (((m : Int) + 32) != ((n : Int) + 32)) = false := by rw [bne_eq_false_iff_eq]; omega
            have HN := Lib.hid (And.intro (HGO.out he) HI.out.2)
            clear HGO HNO he
            go_wp2_with fail
            go_quiet (fail)
            go_wp2_with fail
            exact ⟨⟨i + 1, by go_num, by omega, Lib.hid ⟨HN.out.1, drew_more HN.out.2 nq⟩⟩, by simp [intOf]; omega⟩
          · have hq : (((m : Int) + 32) != ((n : Int) + 32)) = true := by rw [bne_iff_ne]; omega
            have HN := Lib.hid (HNO.out he)
            clear HGO HNO he
            go_wp2_with fail
            go_quiet (fail)
            go_wp2_with fail
            go_ret
            exact ⟨by rw [HN.out]; rfl, drew_more HI.out.2 nq⟩
  · have t0 : ((a.length : Int) != (b.length : Int)) = true := by rw [bne_iff_ne]; omega
    have hr : foldSame a b = false := by
      simp only [foldSame, decide_eq_false_iff_not]
      intro h
      have := congrArg List.length h
      simp [low] at this
      exact hlen this
    have HR := Lib.hid hr
    clear hr
    go_enter Tryz.func72, Tryz.ntmps72
    go_wp2_with fail
    go_ret
    exact ⟨by rw [HR.out]; rfl, 0, rfl⟩

theorem fold_any (a b : List UInt8) (ha : a.length < 4000000000) (hb : b.length < 4000000000) (w : World) :
    Calls Tryz.prog 72 #[.string (Nm.bs a), .string (Nm.bs b)] w fun e w' => e = .returned (.bool (foldSame a b)) ∧ Below w.heap.size w w' :=
  (fold_quiet a b ha hb w).mono fun _ _ ⟨h1, m, h2⟩ => ⟨h1, by rw [h2]; exact drewN_below w m⟩
end Go.Proofs.YtjmahgefijncaaaGreatFmt

/- ParseDN's memory: what its blocks hold; how a name grows in it. -/
namespace Go.Proofs.YtjmahgefijncaaaGreatFmt
open Go Go.RowKit

/-- Blocks of other types are other blocks. -/
theorem ne_of_types {w : World} {a b : Nat} {x y : Array Value} {t u : TypeId} {f g : Nat × Nat} (ha : w.heap[a]? = some (.cells x t f)) (hb : w.heap[b]? = some (.cells y u g)) (h : t ≠ u) : a ≠ b := by
  rintro rfl
  rw [ha] at hb
  injection hb with hb
  injection hb with _ h2 _
  exact h h2
theorem own_ne {w : World} {B : Nat} {e : TypeId} {sz : Nat} {v : Value} {n : Nat} {xs : List Value} (h : w.ownsRow B e sz v n xs) {b : Nat} {y : Array Value} {u : TypeId} {g : Nat × Nat} (hb : w.heap[b]? = some (.cells y u g)) (hne : e ≠ u) : v.ownBlock ≠ some b := by
  rcases h.2 with ⟨hv, _⟩ | ⟨k, cap, cur, hv, _, hg, _⟩
  · rw [hv]; simp [Value.ownBlock]
  · rw [hv]
    simp only [Value.ownBlock, ne_eq, Option.some.injEq]
    exact ne_of_types hg hb hne

/-- A row has been lengthened by a pointer: in place, or in a new block. -/
structure Longer (e t : TypeId) (R : Nat) (v : Value) (xs : List Value) (u : Value) (w w' : World) (v' : Value) : Prop where
  block : w'.heap[R]? = some (.cells #[v'] t (0, 0))
  own : w'.ownsRow 0 e 1 v' (xs.length + 1) (xs ++ [u])
  at' : v'.ownBlock = v.ownBlock ∨ ∃ g, v'.ownBlock = some g ∧ w.heap.size ≤ g
  only : Only (fun k => k = R ∨ v.ownBlock = some k) w w'
def LongerSome (e t : TypeId) (R : Nat) (v : Value) (xs : List Value) (u : Value) (w w' : World) : Prop := ∃ v', Longer e t R v xs u w w' v'

theorem longer_end {e t : TypeId} {R : Nat} {v : Value} {xs : List Value} {u : Value} {w w4 : World} {o : Obj} {g cap : Nat} (hR : w.heap[R]? = some (.cells #[v] t (0, 0))) (hvR : v.ownBlock ≠ some R)
    (hown : w4.ownsRow 0 e 1 (.slice (some ⟨g, 0, none⟩) (xs.length + 1) cap) (xs.length + 1) (xs ++ [u])) (hgr : ((w.alloc o).drew).grownBy w4 v.ownBlock) (hat : v.ownBlock = some g ∨ g = w.heap.size + 1) :
    LongerSome e t R v xs u w (w4.setCell ⟨R, 0, none⟩ (.slice (some ⟨g, 0, none⟩) (xs.length + 1) cap)) := by
  have hRlt := blockLt hR
  have hgR : g ≠ R := by
    rcases hat with h | h
    · rintro rfl; exact hvR h
    · omega
  have hR4 : w4.heap[R]? = some (.cells #[v] t (0, 0)) := (hgr.block R (by simp; omega) (fun h => hvR h.symm)).trans ((Below.heap_alloc w o R hRlt).trans hR)
  refine ⟨_, by simpa using blockSet hR4 0 (.slice (some ⟨g, 0, none⟩) (xs.length + 1) cap), owns_stays hown (fun k hk => Below.heap_setCell _ _ _ _ (by simp only [Value.ownBlock, Option.some.injEq] at hk; subst hk; exact hgR)), ?_, ?_⟩
  · rcases hat with h | h
    · exact Or.inl h.symm
    · exact Or.inr ⟨g, rfl, by omega⟩
  · have h1 : Only (fun k => k = R ∨ v.ownBlock = some k) w (w.alloc o).drew := ((Only.refl _ w).alloc o).drew
    have h2 : Only (fun k => v.ownBlock = some k) (w.alloc o).drew w4 := ⟨hgr.os, hgr.tape, hgr.output, hgr.size, fun k hk hs => hgr.block k hk (fun e => hs e.symm)⟩
    exact (h1.trans2 h2 (fun i _ h => Or.inr h)).setCell (p := ⟨R, 0, none⟩) (Or.inr (Or.inl rfl)) _

/-- The parser's blocks: X holds the relative name at hand, Y the attribute at hand, Z the name. -/
structure PInv (B X Y Z D Rb A : Nat) (v : Value) (xs : List Value) (vd : Value) (ds : List Value) (S : Nat → Prop) (ty val : List UInt8) (rdn : List Nm.Part) (dn : Nm.Name) (w : World) : Prop where
  hX : w.heap[X]? = some (.cells #[.pointer (some ⟨Rb, 0, none⟩)] 115 (0, 0))
  hY : w.heap[Y]? = some (.cells #[.pointer (some ⟨A, 0, none⟩)] 119 (0, 0))
  hZ : w.heap[Z]? = some (.cells #[.pointer (some ⟨D, 0, none⟩)] 81 (0, 0))
  hR : w.heap[Rb]? = some (.cells #[v] 118 (0, 0))
  hD : w.heap[D]? = some (.cells #[vd] 114 (0, 0))
  hA : PartAt w A (ty, val)
  own : w.ownsRow 0 119 1 v xs.length xs
  ownD : w.ownsRow 0 115 1 vd ds.length ds
  vY : v.ownBlock ≠ some Y
  dX : vd.ownBlock ≠ some X
  parts : PartsAt w S xs rdn
  rdns : RdnsAt w S ds dn
  avoid : ∀ k, S k → k < w.heap.size ∧ k ≠ X ∧ k ≠ Y ∧ k ≠ A ∧ k ≠ Rb ∧ k ≠ D ∧ v.ownBlock ≠ some k ∧ vd.ownBlock ≠ some k
  low : B ≤ X ∧ B ≤ Y ∧ B ≤ Z ∧ B ≤ D ∧ B ≤ A ∧ B ≤ Rb
  lowv : ∀ k, v.ownBlock = some k ∨ vd.ownBlock = some k → B ≤ k

section
variable {B X Y Z D Rb A : Nat} {v : Value} {xs : List Value} {vd : Value} {ds : List Value} {S : Nat → Prop} {ty val : List UInt8} {rdn : List Nm.Part} {dn : Nm.Name} {w w' wc : World}

/-- It stands where old blocks stand but for the attribute at hand. -/
theorem PInv.keep (h : PInv B X Y Z D Rb A v xs vd ds S ty val rdn dn w) (k : Keep w.heap.size A w w') {ty' val' : List UInt8} (hA : PartAt w' A (ty', val')) : PInv B X Y Z D Rb A v xs vd ds S ty' val' rdn dn w' := by
  have hb : ∀ i, i < w.heap.size → i ≠ A → w'.heap[i]? = w.heap[i]? := k.block
  have hAX := ne_of_types h.hA h.hX (by decide)
  have hAY := ne_of_types h.hA h.hY (by decide)
  have hAZ := ne_of_types h.hA h.hZ (by decide)
  have hAR := ne_of_types h.hA h.hR (by decide)
  have hAD := ne_of_types h.hA h.hD (by decide)
  have hAv := own_ne h.own h.hA (by decide)
  have hAd := own_ne h.ownD h.hA (by decide)
  have hS : ∀ i, S i → w'.heap[i]? = w.heap[i]? := fun i hi => hb i (h.avoid i hi).1 (h.avoid i hi).2.2.2.1
  exact ⟨(hb _ (blockLt h.hX) hAX.symm).trans h.hX, (hb _ (blockLt h.hY) hAY.symm).trans h.hY, (hb _ (blockLt h.hZ) hAZ.symm).trans h.hZ, (hb _ (blockLt h.hR) hAR.symm).trans h.hR, (hb _ (blockLt h.hD) hAD.symm).trans h.hD, hA,
    owns_stays h.own (fun g hg => hb g (owns_lt h.own g hg) (fun e => hAv (by rw [hg, e]))), owns_stays h.ownD (fun g hg => hb g (owns_lt h.ownD g hg) (fun e => hAd (by rw [hg, e]))), h.vY, h.dX,
    h.parts.stays hS (fun _ h => h), h.rdns.stays hS (fun _ h => h), fun i hi => ⟨Nat.lt_of_lt_of_le (h.avoid i hi).1 k.size, (h.avoid i hi).2⟩, h.low, h.lowv⟩

/-- The attribute at hand is added; a new one is at hand. -/
theorem PInv.part (h : PInv B X Y Z D Rb A v xs vd ds S ty val rdn dn w) {v' : Value} (k : Longer 119 118 Rb v xs (.pointer (some ⟨A, 0, none⟩)) w wc v')
    (hw : w' = (wc.setCell ⟨Y, 0, none⟩ (.pointer (some ⟨wc.heap.size, 0, none⟩))).alloc (.cells #[.string (Nm.bs []), .string (Nm.bs [])] 120 (0, 0))) :
    PInv B X Y Z D Rb wc.heap.size v' (xs ++ [.pointer (some ⟨A, 0, none⟩)]) vd ds (fun i => S i ∨ i = A) [] [] (rdn ++ [(ty, val)]) dn w' ∧ Below B w w' := by
  have hAX := ne_of_types h.hA h.hX (by decide)
  have hAY := ne_of_types h.hA h.hY (by decide)
  have hAR := ne_of_types h.hA h.hR (by decide)
  have hAD := ne_of_types h.hA h.hD (by decide)
  have hRX := ne_of_types h.hR h.hX (by decide)
  have hRY := ne_of_types h.hR h.hY (by decide)
  have hRZ := ne_of_types h.hR h.hZ (by decide)
  have hRD := ne_of_types h.hR h.hD (by decide)
  have hYX := ne_of_types h.hY h.hX (by decide)
  have hYZ := ne_of_types h.hY h.hZ (by decide)
  have hYD := ne_of_types h.hY h.hD (by decide)
  have vX := own_ne h.own h.hX (by decide)
  have vZ := own_ne h.own h.hZ (by decide)
  have vD := own_ne h.own h.hD (by decide)
  have vA := own_ne h.own h.hA (by decide)
  have vR := own_ne h.own h.hR (by decide)
  have dY := own_ne h.ownD h.hY (by decide)
  have dA := own_ne h.ownD h.hA (by decide)
  have dR := own_ne h.ownD h.hR (by decide)
  have hsz := k.only.size
  have lX := blockLt h.hX
  have lY := blockLt h.hY
  have lZ := blockLt h.hZ
  have lR := blockLt h.hR
  have lD := blockLt h.hD
  have lA := blockLt h.hA
  have hsz2 : w'.heap.size = wc.heap.size + 1 := by rw [hw]; simp [World.setCell]
  -- what stands
  have st : ∀ i, i < w.heap.size → i ≠ Rb → v.ownBlock ≠ some i → i ≠ Y → w'.heap[i]? = w.heap[i]? := fun i hi h1 h2 h3 => by
    rw [hw, Below.heap_alloc _ _ _ (by simp [World.setCell]; omega), Below.heap_setCell _ _ _ _ (by simpa using h3)]
    exact k.only.block i hi (by rintro (e | e); exact h1 e; exact h2 e)
  have st2 : ∀ i, i < wc.heap.size → i ≠ Y → w'.heap[i]? = wc.heap[i]? := fun i hi h3 => by
    rw [hw, Below.heap_alloc _ _ _ (by simp [World.setCell]; omega), Below.heap_setCell _ _ _ _ (by simpa using h3)]
  have hYc : wc.heap[Y]? = w.heap[Y]? := k.only.block Y lY (by rintro (e | e); exact hRY e.symm; exact h.vY e)
  have hY' := blockSet (hYc.trans h.hY) 0 (.pointer (some ⟨wc.heap.size, 0, none⟩))
  rw [← Below.heap_alloc _ (.cells #[.string (Nm.bs []), .string (Nm.bs [])] 120 (0, 0)) _ (by simp [World.setCell]; omega), ← hw] at hY'
  have hA' : w'.heap[wc.heap.size]? = some (.cells #[.string (Nm.bs []), .string (Nm.bs [])] 120 (0, 0)) := by
    have := heap_alloc_new (wc.setCell ⟨Y, 0, none⟩ (.pointer (some ⟨wc.heap.size, 0, none⟩))) (.cells #[.string (Nm.bs []), .string (Nm.bs [])] 120 (0, 0))
    rw [← hw] at this
    simpa [World.setCell] using this
  have hv' : ∀ g, v'.ownBlock = some g → g < wc.heap.size := owns_lt k.own
  have v'Y : v'.ownBlock ≠ some Y := by
    rcases k.at' with e | ⟨g, e, hg⟩
    · rw [e]; exact h.vY
    · rw [e]; intro e2; injection e2 with e2; omega
  have hS : ∀ i, S i → w'.heap[i]? = w.heap[i]? := fun i hi => by
    obtain ⟨a1, a2, a3, a4, a5, a6, a7, a8⟩ := h.avoid i hi
    exact st i a1 a5 a7 a3
  refine ⟨⟨?_, by simpa using hY', ?_, ?_, ?_, hA', ?_, ?_, v'Y, h.dX, ?_, ?_, ?_, ?_, ?_⟩, ?_⟩
  · exact (st X lX hRX.symm vX hYX.symm).trans h.hX
  · exact (st Z lZ hRZ.symm vZ hYZ.symm).trans h.hZ
  · exact (st2 Rb (by omega) hRY).trans k.block
  · exact (st D lD hRD.symm vD hYD.symm).trans h.hD
  · have := owns_stays k.own (w' := w') (fun g hg => st2 g (hv' g hg) (fun e => v'Y (by rw [hg, e])))
    simpa using this
  · refine owns_stays h.ownD (fun g hg => st g (owns_lt h.ownD g hg) (fun e => dR (by rw [hg, e])) ?_ (fun e => dY (by rw [hg, e])))
    intro e
    rcases h.own.2 with ⟨e1, _⟩ | ⟨a, c1, u1, e1, _, e3, _⟩
    · rw [e1] at e; simp [Value.ownBlock] at e
    · rcases h.ownD.2 with ⟨e5, _⟩ | ⟨b, c2, u2, e5, _, e7, _⟩
      · rw [e5] at hg; simp [Value.ownBlock] at hg
      · rw [e1] at e; rw [e5] at hg
        simp only [Value.ownBlock, Option.some.injEq] at e hg
        exact ne_of_types e3 e7 (by decide) (by omega)
  · refine PartsAt.snoc (Or.inr rfl) ((st A lA hAR vA hAY).trans h.hA) (h.parts.stays hS (fun _ h => Or.inl h))
  · exact h.rdns.stays hS (fun _ h => Or.inl h)
  · intro i hi
    rcases hi with hi | rfl
    · obtain ⟨a1, a2, a3, a4, a5, a6, a7, a8⟩ := h.avoid i hi
      refine ⟨by omega, a2, a3, by omega, a5, a6, ?_, a8⟩
      rcases k.at' with e | ⟨g, e, hg⟩
      · rw [e]; exact a7
      · rw [e]; intro e2; injection e2 with e2; omega
    · refine ⟨by omega, hAX, hAY, by omega, hAR, hAD, ?_, dA⟩
      rcases k.at' with e | ⟨g, e, hg⟩
      · rw [e]; exact vA
      · rw [e]; intro e2; injection e2 with e2; omega
  · obtain ⟨b1, b2, b3, b4, b5, b6⟩ := h.low
    exact ⟨b1, b2, b3, b4, by omega, b6⟩
  · intro i hi
    rcases hi with hi | hi
    · rcases k.at' with e | ⟨g, e, hg⟩
      · exact h.lowv i (Or.inl (by rw [← e]; exact hi))
      · rw [e] at hi; injection hi with hi; obtain ⟨b1, _⟩ := h.low; omega
    · exact h.lowv i (Or.inr hi)
  · obtain ⟨b1, b2, b3, b4, b5, b6⟩ := h.low
    have hb : Below B w wc := ⟨k.only.os, k.only.tape, k.only.output, k.only.size, fun i hi => k.only.block i (by omega) (by
      rintro (e | e)
      · omega
      · have := h.lowv i (Or.inl e); omega)⟩
    rw [hw]
    exact (hb.setCell (p := ⟨Y, 0, none⟩) b2 _).alloc (by simp [World.setCell]; omega) _

/-- The relative name at hand is added; a new one is at hand. -/
theorem PInv.last (h : PInv B X Y Z D Rb A v xs vd ds S ty val rdn dn w) {vd' : Value} (k : Longer 115 114 D vd ds (.pointer (some ⟨Rb, 0, none⟩)) w wc vd')
    (hw : w' = (wc.setCell ⟨X, 0, none⟩ (.pointer (some ⟨wc.heap.size, 0, none⟩))).alloc (.cells #[.slice none 0 0] 118 (0, 0))) :
    PInv B X Y Z D wc.heap.size A (.slice none 0 0) [] vd' (ds ++ [.pointer (some ⟨Rb, 0, none⟩)]) (fun i => S i ∨ i = Rb ∨ v.ownBlock = some i) ty val [] (dn ++ [rdn]) w' ∧ Below B w w' := by
  have hAX := ne_of_types h.hA h.hX (by decide)
  have hAD := ne_of_types h.hA h.hD (by decide)
  have hRX := ne_of_types h.hR h.hX (by decide)
  have hRY := ne_of_types h.hR h.hY (by decide)
  have hRA := ne_of_types h.hR h.hA (by decide)
  have hRD := ne_of_types h.hR h.hD (by decide)
  have hYX := ne_of_types h.hY h.hX (by decide)
  have hYD := ne_of_types h.hY h.hD (by decide)
  have hZX := ne_of_types h.hZ h.hX (by decide)
  have hZD := ne_of_types h.hZ h.hD (by decide)
  have hXD := ne_of_types h.hX h.hD (by decide)
  have vX := own_ne h.own h.hX (by decide)
  have vZ := own_ne h.own h.hZ (by decide)
  have vD := own_ne h.own h.hD (by decide)
  have vA := own_ne h.own h.hA (by decide)
  have vR := own_ne h.own h.hR (by decide)
  have dY := own_ne h.ownD h.hY (by decide)
  have dZ := own_ne h.ownD h.hZ (by decide)
  have dA := own_ne h.ownD h.hA (by decide)
  have dR := own_ne h.ownD h.hR (by decide)
  have dv : ∀ g, v.ownBlock = some g → vd.ownBlock ≠ some g := by
    intro g e hg
    rcases h.own.2 with ⟨e1, _⟩ | ⟨a, c1, u1, e1, _, e3, _⟩
    · rw [e1] at e; simp [Value.ownBlock] at e
    · rcases h.ownD.2 with ⟨e5, _⟩ | ⟨b, c2, u2, e5, _, e7, _⟩
      · rw [e5] at hg; simp [Value.ownBlock] at hg
      · rw [e1] at e; rw [e5] at hg
        simp only [Value.ownBlock, Option.some.injEq] at e hg
        exact ne_of_types e3 e7 (by decide) (by omega)
  have hsz := k.only.size
  have lX := blockLt h.hX
  have lY := blockLt h.hY
  have lZ := blockLt h.hZ
  have lR := blockLt h.hR
  have lD := blockLt h.hD
  have lA := blockLt h.hA
  have lv := owns_lt h.own
  have hsz2 : w'.heap.size = wc.heap.size + 1 := by rw [hw]; simp [World.setCell]
  have st : ∀ i, i < w.heap.size → i ≠ D → vd.ownBlock ≠ some i → i ≠ X → w'.heap[i]? = w.heap[i]? := fun i hi h1 h2 h3 => by
    rw [hw, Below.heap_alloc _ _ _ (by simp [World.setCell]; omega), Below.heap_setCell _ _ _ _ (by simpa using h3)]
    exact k.only.block i hi (by rintro (e | e); exact h1 e; exact h2 e)
  have st2 : ∀ i, i < wc.heap.size → i ≠ X → w'.heap[i]? = wc.heap[i]? := fun i hi h3 => by
    rw [hw, Below.heap_alloc _ _ _ (by simp [World.setCell]; omega), Below.heap_setCell _ _ _ _ (by simpa using h3)]
  have hXc : wc.heap[X]? = w.heap[X]? := k.only.block X lX (by rintro (e | e); exact hXD e; exact h.dX e)
  have hX' := blockSet (hXc.trans h.hX) 0 (.pointer (some ⟨wc.heap.size, 0, none⟩))
  rw [← Below.heap_alloc _ (.cells #[.slice none 0 0] 118 (0, 0)) _ (by simp [World.setCell]; omega), ← hw] at hX'
  have hR' : w'.heap[wc.heap.size]? = some (.cells #[.slice none 0 0] 118 (0, 0)) := by
    have := heap_alloc_new (wc.setCell ⟨X, 0, none⟩ (.pointer (some ⟨wc.heap.size, 0, none⟩))) (.cells #[.slice none 0 0] 118 (0, 0))
    rw [← hw] at this
    simpa [World.setCell] using this
  have hv' : ∀ g, vd'.ownBlock = some g → g < wc.heap.size := owns_lt k.own
  have d'X : vd'.ownBlock ≠ some X := by
    rcases k.at' with e | ⟨g, e, hg⟩
    · rw [e]; exact h.dX
    · rw [e]; intro e2; injection e2 with e2; omega
  have d'old : ∀ i, i < w.heap.size → vd.ownBlock ≠ some i → vd'.ownBlock ≠ some i := fun i hi hn => by
    rcases k.at' with e | ⟨g, e, hg⟩
    · rw [e]; exact hn
    · rw [e]; intro e2; injection e2 with e2; omega
  have hS : ∀ i, S i → w'.heap[i]? = w.heap[i]? := fun i hi => by
    obtain ⟨a1, a2, a3, a4, a5, a6, a7, a8⟩ := h.avoid i hi
    exact st i a1 a6 a8 a2
  have hvs : ∀ g, v.ownBlock = some g → w'.heap[g]? = w.heap[g]? := fun g hg => st g (lv g hg) (fun e => vD (by rw [hg, e])) (dv g hg) (fun e => vX (by rw [hg, e]))
  refine ⟨⟨by simpa using hX', ?_, ?_, hR', ?_, ?_, ⟨rfl, Or.inl ⟨rfl, rfl⟩⟩, ?_, by simp [Value.ownBlock], d'X, rfl, ?_, ?_, ?_, ?_⟩, ?_⟩
  · exact (st Y lY hYD dY hYX).trans h.hY
  · exact (st Z lZ hZD dZ hZX).trans h.hZ
  · exact (st2 D (by omega) hXD.symm).trans k.block
  · exact (st A lA hAD dA hAX).trans h.hA
  · have := owns_stays k.own (w' := w') (fun g hg => st2 g (hv' g hg) (fun e => d'X (by rw [hg, e])))
    simpa using this
  · refine RdnsAt.snoc ⟨Or.inr (Or.inl rfl), v, xs, (st Rb lR hRD dR hRX).trans h.hR, owns_stays h.own hvs, fun g hg => Or.inr (Or.inr hg), h.parts.stays hS (fun _ h => Or.inl h)⟩ (h.rdns.stays hS (fun _ h => Or.inl h))
  · intro i hi
    rcases hi with hi | rfl | hi
    · obtain ⟨a1, a2, a3, a4, a5, a6, a7, a8⟩ := h.avoid i hi
      exact ⟨by omega, a2, a3, a4, by omega, a6, by simp [Value.ownBlock], d'old i a1 a8⟩
    · exact ⟨by omega, hRX, hRY, hRA, by omega, hRD, by simp [Value.ownBlock], d'old i lR dR⟩
    · have hl := lv i hi
      exact ⟨by omega, fun e => vX (by rw [← e]; exact hi), fun e => h.vY (by rw [← e]; exact hi), fun e => vA (by rw [← e]; exact hi), by omega, fun e => vD (by rw [← e]; exact hi), by simp [Value.ownBlock], d'old i hl (dv i hi)⟩
  · obtain ⟨b1, b2, b3, b4, b5, b6⟩ := h.low
    exact ⟨b1, b2, b3, b4, b5, by omega⟩
  · intro i hi
    rcases hi with hi | hi
    · simp [Value.ownBlock] at hi
    · rcases k.at' with e | ⟨g, e, hg⟩
      · exact h.lowv i (Or.inr (by rw [← e]; exact hi))
      · rw [e] at hi; injection hi with hi; obtain ⟨b1, _⟩ := h.low; omega
  · obtain ⟨b1, b2, b3, b4, b5, b6⟩ := h.low
    have hb : Below B w wc := ⟨k.only.os, k.only.tape, k.only.output, k.only.size, fun i hi => k.only.block i (by omega) (by
      rintro (e | e)
      · omega
      · have := h.lowv i (Or.inr e); omega)⟩
    rw [hw]
    exact (hb.setCell (p := ⟨X, 0, none⟩) b1 _).alloc (by simp [World.setCell]; omega) _
end
end Go.Proofs.YtjmahgefijncaaaGreatFmt

/- Names as plain data in memory: rows of parts, rows of such rows. -/
namespace Go.Proofs.YtjmahgefijncaaaGreatFmt
open Go Go.RowKit

def cellsOf (ps : List Nm.Part) : List Value := ps.flatMap fun p => [Value.string (Nm.bs p.1), .string (Nm.bs p.2)]
theorem cellsOf_snoc (ps : List Nm.Part) (p : Nm.Part) : cellsOf (ps ++ [p]) = cellsOf ps ++ [.string (Nm.bs p.1), .string (Nm.bs p.2)] := by simp [cellsOf]
theorem cellsOf_cons (ps : List Nm.Part) (p : Nm.Part) : cellsOf (p :: ps) = .string (Nm.bs p.1) :: .string (Nm.bs p.2) :: cellsOf ps := by simp [cellsOf]
theorem cellsOf_len : ∀ ps : List Nm.Part, (cellsOf ps).length = ps.length * 2
  | [] => rfl
  | p :: ps => by rw [cellsOf_cons]; simp only [List.length_cons, cellsOf_len ps]; omega
theorem cellsOf_get : ∀ (ps : List Nm.Part) (j : Nat) (p : Nm.Part), ps[j]? = some p → (cellsOf ps)[j * 2]? = some (.string (Nm.bs p.1)) ∧ (cellsOf ps)[j * 2 + 1]? = some (.string (Nm.bs p.2))
  | [], j, p, h => by simp at h
  | q :: ps, 0, p, h => by simp only [List.getElem?_cons_zero, Option.some.injEq] at h; subst h; rw [cellsOf_cons]; exact ⟨rfl, rfl⟩
  | q :: ps, j + 1, p, h => by
    have := cellsOf_get ps j p (by simpa using h)
    rw [cellsOf_cons, show (j + 1) * 2 = j * 2 + 1 + 1 by omega]
    simpa using this

/-- The slice v holds parts, in a row of the call's own. -/
def PartsOwn (e : TypeId) (B : Nat) (w : World) (v : Value) (ps : List Nm.Part) : Prop := w.ownsRow B e 2 v ps.length (cellsOf ps)
def RowsOwn (e : TypeId) (B : Nat) (w : World) : List Value → Nm.Name → Prop
  | vs, [] => vs = []
  | vs, ps :: r => ∃ v us, vs = v :: us ∧ PartsOwn e B w v ps ∧ RowsOwn e B w us r
def NameOwn (e1 e2 : TypeId) (B : Nat) (w : World) (v : Value) (n : Nm.Name) : Prop := ∃ vs, w.ownsRow B e1 1 v n.length vs ∧ RowsOwn e2 B w vs n

/-- The slice v holds parts. -/
def PartsIn (w : World) (v : Value) (ps : List Nm.Part) : Prop :=
  ∃ o cap, v = .slice o ps.length cap ∧ ∀ (j : Nat) (p : Nm.Part), ps[j]? = some p → ∃ b off, o = some ⟨b, off, none⟩ ∧ w.cell? ⟨b, off + j * 2, none⟩ = some (.string (Nm.bs p.1)) ∧ w.cell? ⟨b, off + j * 2 + 1, none⟩ = some (.string (Nm.bs p.2))
/-- The slice v holds a name. -/
def NameIn (w : World) (v : Value) (n : Nm.Name) : Prop :=
  ∃ o cap, v = .slice o n.length cap ∧ ∀ (j : Nat) (ps : List Nm.Part), n[j]? = some ps → ∃ b off u, o = some ⟨b, off, none⟩ ∧ w.cell? ⟨b, off + j, none⟩ = some u ∧ PartsIn w u ps

section
variable {e e1 e2 : TypeId} {B : Nat} {w w' : World}
theorem PartsOwn.stays {v : Value} {ps : List Nm.Part} (h : PartsOwn e B w v ps) (k : ∀ (g : Nat) (c : Array Value), w.heap[g]? = some (Obj.cells c e (0, 0)) → w'.heap[g]? = w.heap[g]?) : PartsOwn e B w' v ps := by
  refine ⟨h.1, h.2.imp id ?_⟩
  rintro ⟨g, cap, cur, e1, e2, e3, e4⟩
  exact ⟨g, cap, cur, e1, e2, (k g _ e3).trans e3, e4⟩
theorem PartsOwn.lower {v : Value} {ps : List Nm.Part} {B' : Nat} (h : PartsOwn e B w v ps) (hB : B' ≤ B) : PartsOwn e B' w v ps := by
  refine ⟨h.1, h.2.imp id ?_⟩
  rintro ⟨g, cap, cur, e1, e2, e3, e4⟩
  exact ⟨g, cap, cur, e1, Nat.le_trans hB e2, e3, e4⟩
theorem RowsOwn.stays (k : ∀ (g : Nat) (c : Array Value), w.heap[g]? = some (Obj.cells c e (0, 0)) → w'.heap[g]? = w.heap[g]?) : ∀ {n : Nm.Name} {vs : List Value}, RowsOwn e B w vs n → RowsOwn e B w' vs n
  | [], _, h => h
  | _ :: _, _, ⟨v, us, e, hp, h⟩ => ⟨v, us, e, hp.stays k, RowsOwn.stays k h⟩
theorem RowsOwn.snoc {v : Value} {ps : List Nm.Part} (hp : PartsOwn e B w v ps) : ∀ {n : Nm.Name} {vs : List Value}, RowsOwn e B w vs n → RowsOwn e B w (vs ++ [v]) (n ++ [ps])
  | [], _, h => by rw [show _ = _ from h]; exact ⟨v, [], rfl, hp, rfl⟩
  | _ :: _, _, ⟨u, us, e, hq, h⟩ => by rw [e]; exact ⟨u, _, rfl, hq, RowsOwn.snoc hp h⟩
theorem RowsOwn.nth : ∀ {n : Nm.Name} {vs : List Value}, RowsOwn e B w vs n → ∀ {j : Nat} {ps : List Nm.Part}, n[j]? = some ps → ∃ v, vs[j]? = some v ∧ PartsOwn e B w v ps
  | [], _, _, j, p, h => by simp at h
  | _ :: _, _, ⟨a, vs, e, hp, h⟩, 0, p, hi => by simp only [List.getElem?_cons_zero, Option.some.injEq] at hi; subst hi; exact ⟨a, by rw [e]; rfl, hp⟩
  | _ :: _, _, ⟨a, vs, e, hp, h⟩, j + 1, p, hi => by
    obtain ⟨b, h1, h2⟩ := RowsOwn.nth h (j := j) (ps := p) (by simpa using hi)
    exact ⟨b, by rw [e]; simpa using h1, h2⟩
theorem RowsOwn.len : ∀ {n : Nm.Name} {vs : List Value}, RowsOwn e B w vs n → vs.length = n.length
  | [], _, h => by rw [show _ = _ from h]; rfl
  | _ :: _, _, ⟨_, _, e, _, h⟩ => by rw [e, List.length_cons, List.length_cons, RowsOwn.len h]
theorem rowsOwn_lower {B' : Nat} (hB : B' ≤ B) : ∀ {n : Nm.Name} {vs : List Value}, RowsOwn e B w vs n → RowsOwn e B' w vs n
  | [], _, h => h
  | _ :: _, _, ⟨v, us, e, hp, h⟩ => ⟨v, us, e, hp.lower hB, rowsOwn_lower hB h⟩
theorem PartsOwn.lt {v : Value} {ps : List Nm.Part} (h : PartsOwn e B w v ps) : ∀ g, v.ownBlock = some g → g < w.heap.size := owns_lt h

theorem owns_cell2 {sz : Nat} {v : Value} {n : Nat} {xs : List Value} (h : w.ownsRow B e sz v n xs) {j : Nat} {u : Value} (hj : xs[j]? = some u) : ∃ g c, v = .slice (some ⟨g, 0, none⟩) n c ∧ w.cell? ⟨g, j, none⟩ = some u := by
  have hl := h.1
  rcases h.2 with ⟨hv, h0⟩ | ⟨g, cap, cur, hv, _, hg, h2, h3, h4, h5⟩
  · subst h0; rw [Nat.zero_mul] at hl; rw [List.getElem?_eq_none (by omega)] at hj; cases hj
  · refine ⟨g, cap, hv, ?_⟩
    rw [blockCell hg j]
    rw [← h5] at hj
    simp only [List.getElem?_take] at hj
    split at hj
    · simpa using hj
    · cases hj
theorem PartsOwn.in' {v : Value} {ps : List Nm.Part} (h : PartsOwn e B w v ps) : PartsIn w v ps := by
  obtain ⟨o, c, hv⟩ : ∃ o c, v = .slice o ps.length c := by
    rcases h.2 with ⟨hv, h0⟩ | ⟨g, cap, cur, hv, _⟩
    · exact ⟨none, 0, by rw [hv, h0]⟩
    · exact ⟨_, _, hv⟩
  refine ⟨o, c, hv, fun j p hj => ?_⟩
  obtain ⟨h1, h2⟩ := cellsOf_get ps j p hj
  obtain ⟨g, c2, e1, e2⟩ := owns_cell2 h h1
  obtain ⟨g', c3, e3, e4⟩ := owns_cell2 h h2
  rw [hv] at e1 e3
  injection e1 with a1 _ a2
  injection e3 with a3 _ _
  rw [a1] at a3
  injection a3 with a3
  injection a3 with a3 _ _
  subst a3
  exact ⟨g, 0, a1, by rw [Nat.zero_add]; exact e2, by rw [Nat.zero_add]; exact e4⟩
theorem NameOwn.in' {v : Value} {n : Nm.Name} (h : NameOwn e1 e2 B w v n) : NameIn w v n := by
  obtain ⟨vs, h1, h2⟩ := h
  obtain ⟨o, c, hv⟩ : ∃ o c, v = .slice o n.length c := by
    rcases h1.2 with ⟨hv, h0⟩ | ⟨g, cap, cur, hv, _⟩
    · exact ⟨none, 0, by rw [hv, h0]⟩
    · exact ⟨_, _, hv⟩
  refine ⟨o, c, hv, fun j p hj => ?_⟩
  obtain ⟨u, hu, hp⟩ := h2.nth hj
  obtain ⟨g, c2, e1, e2⟩ := owns_cell2 h1 hu
  rw [hv] at e1
  injection e1 with a1 _ _
  exact ⟨g, 0, u, a1, by rw [Nat.zero_add]; exact e2, hp.in'⟩
theorem PartsIn.stays {v : Value} {ps : List Nm.Part} (h : PartsIn w v ps) (k : Below w.heap.size w w') : PartsIn w' v ps := by
  obtain ⟨o, c, hv, h1⟩ := h
  refine ⟨o, c, hv, fun j p hj => ?_⟩
  obtain ⟨b, off, e, c0, c1⟩ := h1 j p hj
  exact ⟨b, off, e, (k.cell (World.block_lt_of_cell? w ⟨b, off + j * 2, none⟩ c0)).trans c0, (k.cell (World.block_lt_of_cell? w ⟨b, off + j * 2 + 1, none⟩ c1)).trans c1⟩
theorem NameIn.stays {v : Value} {n : Nm.Name} (h : NameIn w v n) (k : Below w.heap.size w w') : NameIn w' v n := by
  obtain ⟨o, c, hv, h1⟩ := h
  refine ⟨o, c, hv, fun j p hj => ?_⟩
  obtain ⟨b, off, u, e, c0, c1⟩ := h1 j p hj
  exact ⟨b, off, u, e, (k.cell (World.block_lt_of_cell? w ⟨b, off + j, none⟩ c0)).trans c0, c1.stays k⟩

/-- A row of the name grows: the rows in it stand. -/
theorem RowsOwn.grown {n : Nm.Name} {vs : List Value} (h : RowsOwn e2 B w vs n) {v : Value} {k : Nat} {xs : List Value} (hv : w.ownsRow B e1 1 v k xs) (hne : e1 ≠ e2) {o : Obj} (hg : (w.alloc o).grownBy w' v.ownBlock) : RowsOwn e2 B w' vs n := by
  refine h.stays fun g c hc => ?_
  have hlt := blockLt hc
  rw [hg.block g (by simp; omega) (fun e => own_ne hv hc hne e.symm), Below.heap_alloc _ _ _ hlt]
end
end Go.Proofs.YtjmahgefijncaaaGreatFmt

