/- What is told of an error: its code, its text, a referral. -/
import Derived.Test.YtdfehaonngccjaaGreatDoorZ7
import Derived.Deep.QuietTactic
import Derived.BigQuiet
import Derived.Deep.LoopGhost
set_option linter.unusedVariables false
set_option linter.unusedSimpArgs false
namespace Go.Proofs.YtdfehaonngccjaaGreatDoor
open Go Go.RowKit

/-- The error in block E. -/
def ErrIn (w : World) (E : Nat) (code : Int) (matched text : ByteArray) (q : Nat) : Prop :=
  ∃ a : Addr, w.heap[E]? = some (.cells #[.iface 110 (.pointer (some a)), .int .u16 code, .string matched, .pointer (some ⟨q, 0, none⟩)] 80 (0, 0)) ∧ w.cell? a = some (.string text)
theorem ErrIn.stays {w w' : World} {E : Nat} {code : Int} {matched text : ByteArray} {q : Nat} (h : ErrIn w E code matched text q) (k : Below w.heap.size w w') : ErrIn w' E code matched text q := by
  obtain ⟨a, h1, h2⟩ := h
  exact ⟨a, (k.block E (blockLt h1)).trans h1, (k.cell (World.block_lt_of_cell? w _ h2)).trans h2⟩
theorem errIn_new (w : World) (q : Nat) (code : Int) (matched text : ByteArray) : ErrIn (ErrW w q code matched text) (w.heap.size + 1) code matched text q ∧ Below w.heap.size w (ErrW w q code matched text) := by
  refine ⟨⟨⟨w.heap.size, 0, none⟩, alloc2_new w _ _, ?_⟩, ((Below.refl _ w).alloc (Nat.le_refl _) _).alloc (by simp) _⟩
  have h1 : (ErrW w q code matched text).heap[w.heap.size]? = some (.cells #[.string text] 112 (0, 0)) := by
    unfold ErrW
    rw [Below.heap_alloc _ _ _ (by simp)]
    exact heap_alloc_new w _
  exact blockCell h1 0

set_option maxRecDepth 100000 in
set_option maxHeartbeats 4000000 in
theorem codeOf_nil (w : World) :
    Calls Tryz.prog 32 #[.nilIface] w fun e w' => e = .returned (.tuple #[.int .i64 0, .string ⟨#[]⟩, .string ⟨#[]⟩]) ∧ w = w' := by
  go_enter Tryz.func32, Tryz.ntmps32
  go_wp2
  go_ret3
  exact ⟨rfl, rfl⟩

def Sames (w w' : World) : Prop := Same w w'
set_option maxRecDepth 100000 in
set_option maxHeartbeats 4000000 in
theorem codeOf_some (w : World) (E q : Nat) (code : Int) (matched text : ByteArray) (h : ErrIn w E code matched text q) (lo : 0 ≤ code) (hi : code ≤ 127) :
    Calls Tryz.prog 32 #[.iface 76 (.pointer (some ⟨E, 0, none⟩))] w fun e w' => e = .returned (.tuple #[.int .i64 code, .string matched, .string text]) ∧ Sames w w' := by
  obtain ⟨a, hE, ha⟩ := h
  have e0 := blockCell hE 0
  have e1 := blockCell hE 1
  have e2 := blockCell hE 2
  simp only [List.getElem?_toArray, List.getElem?_cons_zero, List.getElem?_cons_succ] at e0 e1 e2
  have het := errText_any w a text ha
  have hna := nil_ahead_err
  have hme := method_err
  have ta := ta_e
  have HET := Lib.hid het
  clear het hE ha
  go_enter Tryz.func32, Tryz.ntmps32
  go_wp2_with fail
  refine HET.out.mono ?_
  rintro e w' ⟨rfl, rfl⟩
  go_wp2_with fail
  go_quiet (fail)
  go_wp2
  go_ret3
  exact ⟨rfl, (Same.refl w).drewN _⟩

set_option maxRecDepth 100000 in
set_option maxHeartbeats 8000000 in
/-- IsErrorWithCode at the code of a referral. -/
theorem isErr_of (w : World) (E q : Nat) (code : Int) (matched text : ByteArray) (h : ErrIn w E code matched text q) (lo : 0 ≤ code) (hi : code ≤ 127) (bv : Bool) (hb : (code == 10) = bv) :
    Calls Tryz.prog 62 #[.iface 76 (.pointer (some ⟨E, 0, none⟩)), .int .u16 10] w fun e w' => e = .returned (.bool bv) ∧ Below w.heap.size w w' := by
  obtain ⟨W1, hW1⟩ : ∃ W1, W1 = w.alloc (.cells #[.int .u16 10] 77) := ⟨_, rfl⟩
  have hW1b : Below w.heap.size w W1 := by rw [hW1]; exact (Below.refl _ w).alloc (Nat.le_refl _) _
  have hn : W1.heap[w.heap.size]? = some (.cells #[.int .u16 10] 77 (0, 0)) := by rw [hW1]; exact heap_alloc_new w _
  have any : Calls Tryz.prog 77 #[.iface 76 (.pointer (some ⟨E, 0, none⟩)), .slice (some ⟨w.heap.size, 0, none⟩) 1 1] W1 fun e w' => e = .returned (.bool bv) ∧ W1 = w' := by
    obtain ⟨a, hE, -⟩ := h.stays hW1b
    have e1 := blockCell hE 1
    have n0 := blockCell hn 0
    simp only [List.getElem?_toArray, List.getElem?_cons_zero, List.getElem?_cons_succ] at e1 n0
    have ta := ta_e
    clear hE hn hW1b h hW1
    go_enter Tryz.func77, Tryz.ntmps77
    go_wp2_with fail
    go_loopg [8, 20] 1 (fun kq v8 v20 wr => ∃ (j : Nat), v20 = .int .i64 j ∧ Hid (j + kq = 1) ∧ Hid (j = 1 → bv = false) ∧ W1 = wr)
    case atStart => exact ⟨0, by go_num, Lib.hid (by simp), Lib.hid (fun h => by cases h), rfl⟩
    case round =>
    obtain ⟨j, rfl, HJ, HB, rfl⟩ := hrel
    by_cases hj : j < 1
    · obtain rfl : j = 0 := by omega
      cases bv with
      | true =>
        have hc : code = 10 := by simpa using hb
        subst hc
        clear hb
        go_wp2
        go_ret
        exact ⟨rfl, rfl⟩
      | false =>
        have HBB := Lib.hid hb
        go_wp2
        have hgk : ∃ q, gk = q + 1 := ⟨gk - 1, by have := HJ.out; omega⟩
        obtain ⟨q, rfl⟩ := hgk
        go_roundg q
        case measure => exact Nat.lt_succ_self _
        case rel => exact ⟨1, by go_num, Lib.hid (by have := HJ.out; omega), Lib.hid (by simp), by first | rfl | trivial⟩
    · obtain rfl : j = 1 := by have := HJ.out; omega
      have hbf := HB.out rfl
      subst hbf
      go_wp2
      go_ret
      exact ⟨rfl, rfl⟩
  have ANY := Lib.hid any
  have HW1 := Lib.hid hW1
  have HW1B := Lib.hid hW1b
  clear any hW1 hW1b hn h hb
  go_enter Tryz.func62, Tryz.ntmps62
  go_wp2_with fail
  rw [← HW1.out]
  refine ANY.out.mono ?_
  rintro e w' ⟨rfl, rfl⟩
  go_wp2
  go_ret
  exact ⟨rfl, HW1B.out⟩
end Go.Proofs.YtdfehaonngccjaaGreatDoor

/- The referral of a message, and ResultOf. -/
namespace Go.Proofs.YtdfehaonngccjaaGreatDoor
open Go Go.RowKit

/-- The first place that a result refers to. -/
def RefMsg (w : World) (C1 n1 : Nat) (ref : ByteArray) : Prop :=
  n1 = 3 ∧ ref = ⟨#[]⟩ ∨ n1 = 4 ∧ ∃ (d C3 n3 cap3 e0 : Nat) (kv : Value), w.cell? ⟨C1, 3, none⟩ = some (.pointer (some ⟨d, 0, none⟩)) ∧ PkAt w d 128 32 3 .nilIface (.slice (some ⟨C3, 0, none⟩) n3 cap3) ∧ 1 ≤ n3 ∧ n3 ≤ 4 ∧
    w.cell? ⟨C3, 0, none⟩ = some (.pointer (some ⟨e0, 0, none⟩)) ∧ PkAt w e0 0 0 4 (.iface 9 (.string ref)) kv
theorem RefMsg.stays {w w' : World} {C1 n1 : Nat} {ref : ByteArray} (h : RefMsg w C1 n1 ref) (k : Below w.heap.size w w') : RefMsg w' C1 n1 ref := by
  have hcell : ∀ {ad : Addr} {v : Value}, w.cell? ad = some v → w'.cell? ad = some v := fun h => (k.cell (World.block_lt_of_cell? w _ h)).trans h
  rcases h with h | ⟨h1, d, C3, n3, cap3, e0, kv, h2, h3, h4, h5, h6, h7⟩
  · exact Or.inl h
  · exact Or.inr ⟨h1, d, C3, n3, cap3, e0, kv, hcell h2, h3.stays k, h4, h5, hcell h6, h7.stays k⟩

set_option maxRecDepth 100000 in
set_option maxHeartbeats 8000000 in
theorem referral_nil (w : World) (q : Nat) :
    Calls Tryz.prog 33 #[.nilIface, .pointer (some ⟨q, 0, none⟩)] w fun e w' => e = .returned (.string ⟨#[]⟩) ∧ Below w.heap.size w w' := by
  have hie : Calls Tryz.prog 62 #[.nilIface, .int .u16 10] w fun e w' => e = .returned (.bool false) ∧ Below w.heap.size w w' := by
    have any : ∀ W v, Calls Tryz.prog 77 #[.nilIface, v] W fun e w' => e = .returned (.bool false) ∧ W = w' := by
      intro W v
      go_enter Tryz.func77, Tryz.ntmps77
      go_wp2
      go_ret
      exact ⟨rfl, rfl⟩
    have ANY := Lib.hid any
    clear any
    go_enter Tryz.func62, Tryz.ntmps62
    go_wp2_with fail
    refine (ANY.out _ _).mono ?_
    rintro e w' ⟨rfl, rfl⟩
    go_wp2
    go_ret
    exact ⟨rfl, (Below.refl _ w).alloc (Nat.le_refl _) _⟩
  have hgr : Calls Tryz.prog 45 #[.nilIface, .pointer (some ⟨q, 0, none⟩)] w fun e w' => e = .returned (.string ⟨#[]⟩) ∧ Below w.heap.size w w' := by
    have HIE := Lib.hid hie
    clear hie
    go_enter Tryz.func45, Tryz.ntmps45
    go_wp2_with fail
    refine HIE.out.mono ?_
    rintro e w' ⟨rfl, hb⟩
    have HB := Lib.hid hb
    clear hb
    go_wp2
    go_ret
    exact ⟨rfl, HB.out⟩
  have HGR := Lib.hid hgr
  clear hie hgr
  go_enter Tryz.func33, Tryz.ntmps33
  go_wp2_with fail
  refine HGR.out.mono ?_
  rintro e w' ⟨rfl, hb⟩
  have HB := Lib.hid hb
  clear hb
  go_wp2
  go_ret
  exact ⟨rfl, HB.out⟩

set_option maxRecDepth 100000 in
set_option maxHeartbeats 16000000 in
theorem referral_some (w : World) (E q q1 a b c C1 n1 cap1 : Nat) (kind code : Int) (matched text ref : ByteArray) (h : ResMsg w q q1 a b c C1 n1 cap1 kind code matched text) (hE : ErrIn w E code matched text q) (hr : RefMsg w C1 n1 ref) :
    Calls Tryz.prog 45 #[.iface 76 (.pointer (some ⟨E, 0, none⟩)), .pointer (some ⟨q, 0, none⟩)] w fun e w' => e = .returned (.string (if code = 10 then ref else ⟨#[]⟩)) ∧ Below w.heap.size w w' := by
  obtain ⟨bv, hbv⟩ : ∃ bv, (code == 10) = bv := ⟨_, rfl⟩
  have hie := isErr_of w E q code matched text hE h.lo h.hi bv hbv
  cases bv with
  | false =>
    have hne : code ≠ 10 := by simpa using hbv
    rw [if_neg hne]
    have HIE := Lib.hid hie
    clear hie h hE hr hbv hne
    go_enter Tryz.func45, Tryz.ntmps45
    go_wp2_with fail
    refine HIE.out.mono ?_
    rintro e w' ⟨rfl, hb⟩
    have HB := Lib.hid hb
    clear hb
    go_wp2
    go_ret
    exact ⟨rfl, HB.out⟩
  | true =>
  have hc : code = 10 := by simpa using hbv
  rw [if_pos hc]
  have HIE := Lib.hid hie
  have HM := Lib.hid h
  have HR := Lib.hid hr
  clear hie h hE hr hbv hc
  go_enter Tryz.func45, Tryz.ntmps45
  go_wp2_with fail
  refine HIE.out.mono ?_
  rintro e w2 ⟨rfl, hb⟩
  obtain ⟨⟨a0, a1, a2, val, C, cap, ⟨D0, bv0, ds0, t1⟩, t2⟩, ⟨D1, bv1, ds1, hop⟩, h3, h4, k0, k1, k2, ⟨kva, Da, bva, dsa, ea⟩, ⟨kvb, Db, bvb, dsb, eb⟩, ⟨kvc, Dc, bvc, dsc, ec⟩, lo, hi⟩ := HM.out.stays hb
  have hr2 := HR.out.stays hb
  have HB := Lib.hid hb
  have hch := child_of w2 q D0 C cap 2 1 q1 a0 a1 a2 val bv0 ds0 t1 (by omega) (by omega) t2
  have hkid1 := fun s => kids_of w2 q1 D1 cap1 n1 1 (some ⟨C1, 0, none⟩) 64 32 kind .nilIface bv1 ds1 s hop (by omega) (by omega)
  have o0 := pk0 hop
  have o1 := pk1 hop
  have o6 := pk6 hop
  have x2 := pk2 ea
  have y2 := pk2 eb
  have z2 := pk2 ec
  have HCH := Lib.hid hch
  have HKID1 := Lib.hid hkid1
  clear hch hkid1 t1 t2 hop ea eb ec lo hi h3 h4 hb
  rcases hr2 with ⟨rfl, rfl⟩ | ⟨rfl, d, C3, n3, cap3, e0, kv, u1, ⟨Dd, bvd, dsd, u2⟩, u3, u4, u5, ⟨De, bve, dse, u6⟩⟩
  · go_wp2_with fail
    refine HCH.out.mono ?_
    rintro e w' ⟨rfl, rfl⟩
    go_wp2_with fail
    refine (HKID1.out _).mono ?_
    rintro e w' ⟨rfl, rfl⟩
    go_wp2_with fail
    go_loopg [51] 3 (fun kq v51 wr => ∃ (j : Nat), v51 = .int .i64 j ∧ Hid (j + kq = 3) ∧ w2 = wr)
    case atStart => exact ⟨0, by go_num, Lib.hid (by simp), rfl⟩
    case round =>
    obtain ⟨j, rfl, HJ, rfl⟩ := hrel
    by_cases hj : j < 3
    · have hgk : ∃ q, gk = q + 1 := ⟨gk - 1, by have := HJ.out; omega⟩
      obtain ⟨q, rfl⟩ := hgk
      rcases (show j = 0 ∨ j = 1 ∨ j = 2 by omega) with rfl | rfl | rfl
      all_goals
        go_wp2
        go_roundg q
        case measure => exact Nat.lt_succ_self _
        case rel => first | exact ⟨1, by go_num, Lib.hid (by have := HJ.out; omega), rfl⟩ | exact ⟨2, by go_num, Lib.hid (by have := HJ.out; omega), rfl⟩ | exact ⟨3, by go_num, Lib.hid (by have := HJ.out; omega), rfl⟩
    · obtain rfl : j = 3 := by have := HJ.out; omega
      go_wp2
      go_ret
      exact ⟨rfl, HB.out⟩
  · have hc3 := child_of w2 d Dd C3 cap3 n3 0 e0 128 32 3 .nilIface bvd dsd u2 (by omega) (by omega) u5
    have htx := text_of w2 e0 De 0 0 4 ref bve kv dse u6
    have d0 := pk0 u2
    have d1 := pk1 u2
    have d2 := pk2 u2
    have HC3 := Lib.hid hc3
    have HTX := Lib.hid htx
    clear hc3 htx u2 u3 u4 u5 u6
    go_wp2_with fail
    refine HCH.out.mono ?_
    rintro e w' ⟨rfl, rfl⟩
    go_wp2_with fail
    refine (HKID1.out _).mono ?_
    rintro e w' ⟨rfl, rfl⟩
    go_wp2_with fail
    go_loopg [51] 4 (fun kq v51 wr => ∃ (j : Nat), v51 = .int .i64 j ∧ Hid (j + kq = 4) ∧ Hid (j ≤ 3) ∧ w2 = wr)
    case atStart => exact ⟨0, by go_num, Lib.hid (by simp), Lib.hid (by omega), rfl⟩
    case round =>
    obtain ⟨j, rfl, HJ, HJ3, rfl⟩ := hrel
    by_cases hj : j < 3
    · have hgk : ∃ q, gk = q + 1 := ⟨gk - 1, by have := HJ.out; omega⟩
      obtain ⟨q, rfl⟩ := hgk
      rcases (show j = 0 ∨ j = 1 ∨ j = 2 by omega) with rfl | rfl | rfl
      all_goals
        go_wp2
        go_roundg q
        case measure => exact Nat.lt_succ_self _
        case rel => first | exact ⟨1, by go_num, Lib.hid (by have := HJ.out; omega), Lib.hid (by omega), rfl⟩ | exact ⟨2, by go_num, Lib.hid (by have := HJ.out; omega), Lib.hid (by omega), rfl⟩ | exact ⟨3, by go_num, Lib.hid (by have := HJ.out; omega), Lib.hid (by omega), rfl⟩
    · obtain rfl : j = 3 := by have := HJ3.out; omega
      go_wp2_with fail
      refine HC3.out.mono ?_
      rintro e w' ⟨rfl, rfl⟩
      go_wp2_with fail
      refine HTX.out.mono ?_
      rintro e w' ⟨rfl, rfl⟩
      go_wp2
      go_ret
      exact ⟨rfl, HB.out⟩
end Go.Proofs.YtdfehaonngccjaaGreatDoor

/- Plain facts on the reading of bytes. -/
namespace Go.Proofs.YtdfehaonngccjaaGreatDoor.Ber

theorem high_bound : ∀ (s : List UInt8) (acc k : Nat), acc < 128 ^ k → ∀ t r, high s acc k = some (t, r) → t < 2 ^ 63 ∧ ∃ m, 1 ≤ m ∧ r = s.drop m ∧ m ≤ s.length
  | [], _, _, _, t, r, h => by simp [high] at h
  | b :: s, acc, k, hacc, t, r, h => by
    simp only [high] at h
    split at h
    · cases h
    · split at h
      · cases h
      · rename_i h9
        have hk : acc * 128 + b.toNat % 128 < 128 ^ (k + 1) := by rw [Nat.pow_succ]; have := Nat.mod_lt b.toNat (show 0 < 128 by decide); omega
        split at h
        · injection h with h; injection h with h1 h2
          subst h1 h2
          exact ⟨Nat.lt_of_lt_of_le hk (Nat.le_trans (Nat.pow_le_pow_right (by decide) (by omega : k + 1 ≤ 9)) (by decide)), 1, Nat.le_refl _, rfl, by simp⟩
        · obtain ⟨h1, m, h2, h3, h4⟩ := high_bound s _ _ hk t r h
          exact ⟨h1, m + 1, by omega, by rw [h3]; rfl, by simp; omega⟩

theorem ident_bound {s : List UInt8} {c t : Nat} {b : Bool} {r : List UInt8} (h : ident s = some (c, b, t, r)) : c < 4 ∧ t < 2 ^ 63 ∧ ∃ m, 1 ≤ m ∧ r = s.drop m ∧ m ≤ s.length := by
  cases s with
  | nil => simp [ident] at h
  | cons x s =>
    have hx := x.toNat_lt
    simp only [ident] at h
    split at h
    · obtain ⟨⟨t', r'⟩, h1, h2⟩ := Option.map_eq_some_iff.1 h
      simp only [Prod.mk.injEq] at h2
      obtain ⟨rfl, _, rfl, rfl⟩ := h2
      obtain ⟨k1, m, k2, k3, k4⟩ := high_bound s 0 0 (by decide) _ _ h1
      exact ⟨by omega, k1, m + 1, by omega, by rw [k3]; rfl, by simp; omega⟩
    · injection h with h
      simp only [Prod.mk.injEq] at h
      obtain ⟨rfl, _, rfl, rfl⟩ := h
      exact ⟨by omega, by omega, 1, Nat.le_refl _, rfl, by simp⟩

theorem lenOf_bound {s : List UInt8} {len : Option Nat} {r : List UInt8} (h : lenOf s = some (len, r)) : (∀ n, len = some n → n < 2 ^ 63) ∧ ∃ m, 1 ≤ m ∧ r = s.drop m ∧ m ≤ s.length := by
  cases s with
  | nil => simp [lenOf] at h
  | cons x s =>
    have hx := x.toNat_lt
    simp only [lenOf] at h
    split at h
    · cases h
    · split at h
      · injection h with h; simp only [Prod.mk.injEq] at h; obtain ⟨rfl, rfl⟩ := h
        exact ⟨fun n hn => by (cases hn), 1, Nat.le_refl _, rfl, by simp⟩
      · split at h
        · injection h with h; simp only [Prod.mk.injEq] at h; obtain ⟨rfl, rfl⟩ := h
          exact ⟨fun n hn => by injection hn with hn; omega, 1, Nat.le_refl _, rfl, by simp⟩
        · split at h
          · cases h
          · split at h
            · cases h
            · split at h
              · cases h
              · injection h with h; simp only [Prod.mk.injEq] at h; obtain ⟨rfl, rfl⟩ := h
                rename_i h5 h6
                refine ⟨fun n hn => ?_, x.toNat - 128 + 1, by omega, (List.drop_succ_cons ..).symm, by rw [List.length_cons]; omega⟩
                have hn := Option.some.inj hn
                rw [← hn]
                exact Nat.lt_of_not_le h6

theorem header_bound {s : List UInt8} {c t : Nat} {b : Bool} {len : Option Nat} {r : List UInt8} (h : header s = some (c, b, t, len, r)) :
    c < 4 ∧ t < 2 ^ 63 ∧ (∀ n, len = some n → n < 2 ^ 63) ∧ ∃ m, 2 ≤ m ∧ r = s.drop m ∧ m ≤ s.length := by
  simp only [header] at h
  split at h
  · cases h
  · rename_i c' b' t' s1 h1
    split at h
    · cases h
    · rename_i len' s2 h2
      split at h
      · cases h
      · injection h with h
        simp only [Prod.mk.injEq] at h
        obtain ⟨rfl, rfl, rfl, rfl, rfl⟩ := h
        obtain ⟨k1, k2, m1, k3, k4, k5⟩ := ident_bound h1
        obtain ⟨j1, m2, j2, j3, j4⟩ := lenOf_bound h2
        refine ⟨k1, k2, j1, m1 + m2, by omega, by rw [j3, k4, List.drop_drop], ?_⟩
        rw [k4, List.length_drop] at j4
        omega
end Go.Proofs.YtdfehaonngccjaaGreatDoor.Ber

/- readPacket: what is refused. -/
namespace Go.Proofs.YtdfehaonngccjaaGreatDoor
open Go Go.RowKit

theorem new_keep (s : ByteArray) (hs : 0 < s.size) (hs2 : s.size < 1000) (N B : Nat) (w : World) (hB : B ≤ w.heap.size) :
    Calls Tryz.prog 34 #[.string s] w fun e w' => ∃ a, e = .returned (.iface 110 (.pointer (some a))) ∧ ErrAt N B w' (.iface 110 (.pointer (some a))) ∧ Below w.heap.size w w' := by
  refine (new_err s hs hs2 N w).mono fun e w' ⟨ev, he, h1, h2⟩ => ?_
  obtain ⟨a, rfl⟩ := h1.iface
  exact ⟨a, he, h1.mono hB, h2⟩

set_option maxRecDepth 100000 in
set_option maxHeartbeats 4000000 in
theorem pack_deep (N : Nat) (w : World) (R A : Nat) (l : List UInt8) (i : Nat) (d : Nat) (hd : 1000 ≤ d) (hd2 : d < 1000000) :
    Calls Tryz.prog 40 #[.iface 60 (.pointer (some ⟨R, 0, none⟩)), .int .i64 d] w fun e w' => PackOut N w.heap.size R A l i .err e w' ∧ Keep w.heap.size R w w' := by
  have hdi : decide ((d : Int) ≥ 1000) = true := by simp; omega
  go_enter Tryz.func40, Tryz.ntmps40
  go_wp2_with fail
  refine (new_keep _ (by decide) (by decide) N w.heap.size _ (Nat.le_refl _)).mono ?_
  rintro e w1 ⟨a, rfl, he, hb⟩
  have HE := Lib.hid he
  have HB := Lib.hid hb
  clear he hb
  go_wp2
  go_ret3
  exact ⟨⟨_, _, rfl, HE.out⟩, Keep.ofBelow HB.out⟩

set_option maxRecDepth 100000 in
set_option maxHeartbeats 4000000 in
theorem pack_head (N : Nat) (w : World) (R A : Nat) (l : List UInt8) (i : Nat) (h : Rd w R A l i) (hE : Env N w) (hN : N ≤ R) (d : Nat) (hd : d < 1000) (hh : Ber.header (l.drop i) = none) :
    Calls Tryz.prog 40 #[.iface 60 (.pointer (some ⟨R, 0, none⟩)), .int .i64 d] w fun e w' => PackOut N w.heap.size R A l i .err e w' ∧ Keep w.heap.size R w w' := by
  have hhd := head_any N w R A l i h hE hN
  have hdi : decide ((d : Int) ≥ 1000) = false := by simp; omega
  have hRlt := h.lt
  have HHD := Lib.hid hhd
  have HH := Lib.hid hh
  clear hhd hh h hE
  go_enter Tryz.func40, Tryz.ntmps40
  go_wp2_with fail
  refine HHD.out.mono ?_
  rintro e w1 ⟨ho, hk⟩
  unfold HeadOut at ho
  rw [HH.out] at ho
  obtain ⟨x, y, ev, rfl, he⟩ := ho
  obtain ⟨a, rfl⟩ := he.iface
  simp only [noTag]
  have HE := Lib.hid (he.alloc (.cells #[.int .u8 0, .int .u8 0, .int .u64 0] 89))
  have HK := Lib.hid (hk.trans ((Keep.refl w.heap.size R w1).alloc hk.size (.cells #[.int .u8 0, .int .u8 0, .int .u64 0] 89)))
  clear he hk
  go_wp2
  go_ret3
  exact ⟨⟨_, _, rfl, HE.out⟩, HK.out⟩

set_option maxRecDepth 100000 in
set_option maxHeartbeats 4000000 in
theorem pack_long (N : Nat) (w : World) (R A : Nat) (l : List UInt8) (i : Nat) (h : Rd w R A l i) (hE : Env N w) (hN : N ≤ R) (d : Nat) (hd : d < 1000) (c t n : Nat) (b : Bool) (rest : List UInt8) (hh : Ber.header (l.drop i) = some (c, b, t, some n, rest)) (hn : 2147483647 < n) :
    Calls Tryz.prog 40 #[.iface 60 (.pointer (some ⟨R, 0, none⟩)), .int .i64 d] w fun e w' => PackOut N w.heap.size R A l i .err e w' ∧ Keep w.heap.size R w w' := by
  have hhd := head_any N w R A l i h hE hN
  have hdi : decide ((d : Int) ≥ 1000) = false := by simp; omega
  have hRlt := h.lt
  have hnb : decide ((n : Int) > 2147483647) = true := by simp; omega
  have hn1 : ((n : Int) != -1) = true := by rw [bne_iff_ne]; omega
  have HHD := Lib.hid hhd
  have HH := Lib.hid hh
  clear hhd hh h hE
  go_enter Tryz.func40, Tryz.ntmps40
  go_wp2_with fail
  refine HHD.out.mono ?_
  rintro e w1 ⟨ho, hk⟩
  unfold HeadOut at ho
  rw [HH.out] at ho
  obtain ⟨k, rfl, hr1, hrest⟩ := ho
  obtain ⟨x, y, z, htv, -⟩ := tagValue_open c b t
  rw [htv]
  simp only [lenInt]
  have hsz1 := hk.size
  have HK := Lib.hid (hk.trans ((Keep.refl w.heap.size R w1).alloc hk.size (.cells #[.int .u8 x, .int .u8 y, .int .u64 z] 89)))
  clear hr1 hrest hk htv
  go_wp2_with fail
  refine (new_keep _ (by decide) (by decide) N w.heap.size _ (by simp; omega)).mono ?_
  rintro e w3 ⟨a, rfl, he, hb⟩
  have HE := Lib.hid he
  have HB := Lib.hid (HK.out.trans (Keep.ofBelow (hb.mono (by simp; omega))))
  clear he hb
  go_wp2
  go_ret3
  exact ⟨⟨_, _, rfl, HE.out⟩, HB.out⟩
end Go.Proofs.YtdfehaonngccjaaGreatDoor

/- readPacket: contents that end too early. -/
namespace Go.Proofs.YtdfehaonngccjaaGreatDoor
open Go Go.RowKit

set_option maxRecDepth 100000 in
set_option maxHeartbeats 8000000 in
theorem pack_short (N : Nat) (w : World) (R A : Nat) (l : List UInt8) (i : Nat) (h : Rd w R A l i) (hE : Env N w) (hN : N ≤ R) (d : Nat) (hd : d < 1000) (c t n : Nat) (rest : List UInt8)
    (hh : Ber.header (l.drop i) = some (c, false, t, some n, rest)) (hn : n ≤ 2147483647) (hm480 : rest.length ≤ 480) (hlen : rest.length < n) :
    Calls Tryz.prog 40 #[.iface 60 (.pointer (some ⟨R, 0, none⟩)), .int .i64 d] w fun e w' => PackOut N w.heap.size R A l i .err e w' ∧ Keep w.heap.size R w w' := by
  have hhd := head_any N w R A l i h hE hN
  have hm2 := make2
  have hdi : decide ((d : Int) ≥ 1000) = false := by simp; omega
  have hRlt := h.lt
  have hAlt := h.ltA (by rcases Nat.eq_zero_or_pos l.length with h0 | h0; · rw [List.length_eq_zero_iff.1 h0] at hh; simp [Ber.header, Ber.ident] at hh
                         · exact h0)
  have HHD := Lib.hid hhd
  have HH := Lib.hid hh
  have HE := Lib.hid hE
  have HLEN := Lib.hid hlen
  have HM := Lib.hid hm480
  clear hhd hh h hE hlen hm480
  go_enter Tryz.func40, Tryz.ntmps40
  go_wp2_with fail
  refine HHD.out.mono ?_
  rintro e w1 ⟨ho, hk⟩
  unfold HeadOut at ho
  rw [HH.out] at ho
  obtain ⟨k, rfl, hr1, hrest⟩ := ho
  simp only [lenInt, tagValue]
  have hsz1 := hk.size
  obtain ⟨x, hx⟩ : ∃ x : Nat, x = c * 64 := ⟨_, rfl⟩
  rw [← hx]
  obtain ⟨m, hm⟩ : ∃ m, m = rest.length := ⟨_, rfl⟩
  have hrl : m = l.length - (i + k) := by rw [hm, hrest, List.length_drop]
  have hmn : m < n := by rw [hm]; exact HLEN.out
  have hm480 : m ≤ 480 := by rw [hm]; exact HM.out
  have hLl : ((startW w1 x 0 t).alloc (.cells #[.iface 60 (.pointer (some ⟨R, 0, none⟩)), .int .i64 n] 150)).heap[w1.heap.size + 1 + 1 + 1 + 1]? = some (.cells #[.iface 60 (.pointer (some ⟨R, 0, none⟩)), .int .i64 n] 150 (0, 0)) := by
    have := heap_alloc_new (startW w1 x 0 t) (.cells #[.iface 60 (.pointer (some ⟨R, 0, none⟩)), .int .i64 n] 150)
    rw [startW_size] at this
    exact this
  have hszl : ((startW w1 x 0 t).alloc (.cells #[.iface 60 (.pointer (some ⟨R, 0, none⟩)), .int .i64 n] 150)).heap.size = w1.heap.size + 1 + 1 + 1 + 1 + 1 := by rw [World.size_alloc, startW_size]
  have hkl : Keep w.heap.size R w ((startW w1 x 0 t).alloc (.cells #[.iface 60 (.pointer (some ⟨R, 0, none⟩)), .int .i64 n] 150)) := hk.trans (Keep.ofBelow ((startW_below w1 x 0 t).trans ((Below.refl _ _).alloc (by rw [startW_size]; omega) _) |>.mono hsz1))
  have hEl := HE.out.keep hkl (by omega) hN
  have hRl : Rd ((startW w1 x 0 t).alloc (.cells #[.iface 60 (.pointer (some ⟨R, 0, none⟩)), .int .i64 n] 150)) R A l (i + k) := ((((hr1.alloc _).alloc _).alloc _).alloc _).alloc _
  have hpos := hr1.pos
  have hall : Calls Tryz.prog 52 #[.iface 148 (.pointer (some ⟨w1.heap.size + 1 + 1 + 1 + 1, 0, none⟩))] ((startW w1 x 0 t).alloc (.cells #[.iface 60 (.pointer (some ⟨R, 0, none⟩)), .int .i64 n] 150)) fun e w' =>
      e = .returned (.tuple #[.slice (some ⟨w1.heap.size + 1 + 1 + 1 + 1 + 1, 0, none⟩) m 512, .nilIface]) ∧ Keep w.heap.size R w w' := by
    by_cases hm0 : m = 0
    · have hi0 : i + k = l.length := by omega
      rw [hi0] at hRl
      have hall := all_end N _ (w1.heap.size + 1 + 1 + 1 + 1) R A l hRl n hLl (by omega) (by omega) hEl (by omega) (by omega)
      rw [hszl] at hall
      exact hall.mono fun e w' ⟨he, hkp, _⟩ => ⟨by rw [he, hm0], hkl.trans (⟨hkp.os, hkp.tape, hkp.output, hkp.size, fun q hq _ => hkp.block q (by omega) (by omega)⟩)⟩
    · have hall := all_some N _ (w1.heap.size + 1 + 1 + 1 + 1) R A l (i + k) hRl (by omega) n hLl (by omega) (by omega) hEl hN (by omega) (by omega) m (by omega) hm480
      rw [hszl] at hall
      exact hall.mono fun e w' ⟨he, hkp, _, _⟩ => ⟨he, hkl.trans (hkp.mono (by omega))⟩
  have hnb : decide ((n : Int) > 2147483647) = false := by simp; omega
  have hn1 : ((n : Int) != -1) = true := by rw [bne_iff_ne]; omega
  have hn2 : ((n : Int) == -1) = false := by rw [beq_eq_false_iff_ne]; omega
  have hn3 : decide ((n : Int) > 0) = true := by simp; omega
  have hn4 : decide ((m : Int) < (n : Int)) = true := by simp; omega
  have HALL := Lib.hid hall
  clear hr1 hrest hk hx hLl hszl hkl hall hEl hRl hpos hrl hm
  go_wp2_with fail
  refine (limit_any _ R n).mono ?_
  rintro e w3 ⟨rfl, rfl⟩
  go_wp2_with fail
  refine HALL.out.mono ?_
  rintro e w5 ⟨rfl, hK5⟩
  have hE5 := HE.out.keep hK5 (by omega) hN
  obtain ⟨a, ha, hae⟩ := hE5.eofErr w.heap.size
  have HE5 := Lib.hid hE5
  have HK5 := Lib.hid hK5
  have HAE := Lib.hid hae
  clear hE5 hK5 hae
  go_wp2_with fail
  refine (uneof_any N w.heap.size w5 HE5.out _ HAE.out).mono ?_
  rintro e w6 ⟨ev, rfl, hev, rfl⟩
  have HEV := Lib.hid hev
  obtain ⟨a', rfl⟩ := hev.iface
  clear hev
  go_wp2
  go_ret3
  exact ⟨⟨_, _, rfl, HEV.out⟩, HK5.out⟩
end Go.Proofs.YtdfehaonngccjaaGreatDoor

/- readPacket of a primitive packet. -/
namespace Go.Proofs.YtdfehaonngccjaaGreatDoor
open Go Go.RowKit

theorem known_cases {c t : Nat} (h : Ber.known c t = true) : c ≠ 0 ∨ c = 0 ∧ (t = 0 ∨ t = 1 ∨ t = 2 ∨ t = 4 ∨ t = 5 ∨ t = 10) := by
  simp only [Ber.known, Bool.or_eq_true, Bool.not_eq_true', decide_eq_true_eq, decide_eq_false_iff_not] at h
  omega

theorem prim_end {N : Nat} {w W0 w3 : World} {R A : Nat} {l data rest : List UInt8} {i kk p D C c t : Nat} {m : Int} {row : Option Nat} {bv : Value} (hm : m = (kk : Int)) (hc : c < 4) (ht : t < 2 ^ 63)
    (hK0 : Keep w.heap.size R w W0) (hR0 : Rd W0 R A l (i + kk)) (hC0 : KidRow W0 C 2 []) (hf3 : Only (fun k => k = p ∨ k = D) W0 w3)
    (hp3 : w3.heap[p]? = some (.cells (PkCells ((c * 64 : Nat) : Int) 0 t (valOf c false t data) bv D (.slice (some ⟨C, 0, none⟩) 0 2) (.string ⟨#[]⟩)) 92 (0, 0)))
    (hb3 : BufAt w3 D row (Lib.byteCells data)) (hr : ∀ g, row = some g → w.heap.size ≤ g) (hpB : w.heap.size ≤ p) (hDB : w.heap.size ≤ D) (hCB : w.heap.size ≤ C) (hCp : C ≠ p) (hCD : C ≠ D) (hRlt : R < w.heap.size) (hAlt : A < w.heap.size)
    (hbv : (c ≠ 0 ∧ bv = .slice none 0 0) ∨ c = 0 ∧ ∃ G cp, bv = .slice (some ⟨G, 0, none⟩) data.length cp ∧ w.heap.size ≤ G ∧ G < W0.heap.size ∧ G ≠ p ∧ G ≠ D ∧ ∀ j v, (Lib.byteCells data)[j]? = some v → W0.cell? ⟨G, j, none⟩ = some v)
    (hrest : rest = l.drop (i + kk)) :
    PackOut N w.heap.size R A l i (.ok (.mk c false t data []) rest) (.returned (.tuple #[.pointer (some ⟨p, 0, none⟩), .int .i64 m, .nilIface])) w3 ∧ Keep w.heap.size R w w3 := by
  subst hm
  have hsz := hK0.size
  have hblk : ∀ k, k < W0.heap.size → k ≠ p → k ≠ D → w3.heap[k]? = W0.heap[k]? := fun k hk h1 h2 => hf3.block k hk (by rintro (h | h); exact h1 h; exact h2 h)
  refine ⟨⟨p, kk, rfl, hpB, ?_, ?_, hrest⟩, ?_⟩
  · refine prim_stable hc (by omega) hp3 hb3 (hC0.stays (hblk C hC0.lt hCp hCD)) hpB hDB hCB hr ?_
    rcases hbv with h | ⟨h0, G, cp, h1, h2, h3, h4, h5, h6⟩
    · exact Or.inl h
    · exact Or.inr ⟨h0, G, cp, h1, h2, Nat.lt_of_lt_of_le h3 hf3.size, fun j v hj => (World.cell?_of_block (w := W0) (hblk G h3 h4 h5)).trans (h6 j v hj)⟩
  · exact hR0.stays (hblk R (by omega) (by omega) (by omega)) (hblk A (by omega) (by omega) (by omega))
  · exact hK0.trans (hf3.toKeep (by rintro k (h | h) <;> omega) hsz)

theorem valOf_none {t : Nat} (data : List UInt8) (h : t = 0 ∨ t = 5) : valOf 0 false t data = .nilIface := by
  unfold valOf
  rcases h with rfl | rfl <;> simp

/-- Of the class of universal ones: W4 is what stands behind the storing of ByteValue, and maybe of a call. -/
theorem prim_fin {N : Nat} {w W0 w2 W4 : World} {R A : Nat} {l data rest : List UInt8} {i kk p D C t G cp : Nat} {m : Int} {row : Option Nat} (hm : m = (kk : Int)) (ht : t < 2 ^ 63)
    (hK0 : Keep w.heap.size R w W0) (hR0 : Rd W0 R A l (i + kk)) (hC0 : KidRow W0 C 2 []) (hp0 : p < W0.heap.size)
    (hp2 : w2.heap[p]? = some (.cells (PkCells ((0 * 64 : Nat) : Int) 0 t .nilIface (.slice none 0 0) D (.slice (some ⟨C, 0, none⟩) 0 2) (.string ⟨#[]⟩)) 92 (0, 0)))
    (hb2 : BufAt w2 D row (Lib.byteCells ([] ++ data))) (hr2 : row = none ∨ ∃ g, row = some g ∧ W0.heap.size ≤ g) (hf2 : Only (fun k => k = D ∨ none = some k) W0 w2)
    (hpB : w.heap.size ≤ p) (hDB : w.heap.size ≤ D) (hCB : w.heap.size ≤ C) (hCp : C ≠ p) (hCD : C ≠ D) (hpD : p ≠ D) (hRlt : R < w.heap.size) (hAlt : A < w.heap.size)
    (hGB : w.heap.size ≤ G) (hGl : G < W0.heap.size) (hGp : G ≠ p) (hGD : G ≠ D) (hs : ∀ j v, (Lib.byteCells data)[j]? = some v → W0.cell? ⟨G, j, none⟩ = some v) (hrest : rest = l.drop (i + kk))
    (hbel : Below (w2.setCell ⟨p, 4, none⟩ (.slice (some ⟨G, 0, none⟩) data.length cp)).heap.size (w2.setCell ⟨p, 4, none⟩ (.slice (some ⟨G, 0, none⟩) data.length cp)) W4) :
    (PackOut N w.heap.size R A l i (.ok (.mk 0 false t data []) rest) (.returned (.tuple #[.pointer (some ⟨p, 0, none⟩), .int .i64 m, .nilIface])) (W4.setCell ⟨p, 3, none⟩ (valOf 0 false t data)) ∧ Keep w.heap.size R w (W4.setCell ⟨p, 3, none⟩ (valOf 0 false t data))) ∧
    (valOf 0 false t data = .nilIface → PackOut N w.heap.size R A l i (.ok (.mk 0 false t data []) rest) (.returned (.tuple #[.pointer (some ⟨p, 0, none⟩), .int .i64 m, .nilIface])) W4 ∧ Keep w.heap.size R w W4) ∧
    W4.cell? ⟨p, 3, none⟩ = some .nilIface ∧ W4.frozen? ⟨p, 3, none⟩ = false := by
  have hsz0 := hK0.size
  have hsz2 := hf2.size
  have hsz3 : (w2.setCell ⟨p, 4, none⟩ (.slice (some ⟨G, 0, none⟩) data.length cp)).heap.size = w2.heap.size := by simp [World.setCell]
  have hg2 : ∀ g, row = some g → W0.heap.size ≤ g := fun g e => by
    rcases hr2 with h | ⟨g', h, h'⟩
    · rw [h] at e; cases e
    · rw [h] at e; rw [← Option.some.inj e]; exact h'
  have hp4 : W4.heap[p]? = some (.cells (PkCells ((0 * 64 : Nat) : Int) 0 t .nilIface (.slice (some ⟨G, 0, none⟩) data.length cp) D (.slice (some ⟨C, 0, none⟩) 0 2) (.string ⟨#[]⟩)) 92 (0, 0)) := by
    have h3 := blockSet hp2 4 (.slice (some ⟨G, 0, none⟩) data.length cp)
    refine (hbel.block p (by rw [hsz3]; omega)).trans ?_
    simpa [PkCells] using h3
  have hb4 : BufAt W4 D row (Lib.byteCells data) := by
    rw [List.nil_append] at hb2
    refine hb2.kept ?_ fun g e => ?_
    · rw [hbel.block D (by rw [hsz3]; exact hb2.ltD), Below.heap_setCell _ _ _ _ (by show D ≠ p; omega)]
    · have := hg2 g e
      rw [hbel.block g (by rw [hsz3]; subst e; exact hb2.ltG), Below.heap_setCell _ _ _ _ (by show g ≠ p; omega)]
  have hf4 : Only (fun k => k = p ∨ k = D) W0 W4 := by
    have h1 : Only (fun k => k = p ∨ k = D) W0 w2 := hf2.weaken (by rintro i _ (h | h); exact Or.inr h; cases h)
    exact (h1.setCell (p := ⟨p, 4, none⟩) (Or.inr (Or.inl rfl)) (.slice (some ⟨G, 0, none⟩) data.length cp)).trans (Only.ofBelow hbel)
  refine ⟨?_, fun hn => ?_, pk3 hp4, blockFrozen hp4 3⟩
  · refine prim_end (c := 0) hm (by decide) ht hK0 hR0 hC0 (hf4.setCell (p := ⟨p, 3, none⟩) (Or.inr (Or.inl rfl)) (valOf 0 false t data)) ?_ (hb4.kept (Below.heap_setCell _ _ _ _ (by show D ≠ p; omega)) (fun g e => Below.heap_setCell _ _ _ _ (by have := hg2 g e; show g ≠ p; omega)))
      (fun g e => by have := hg2 g e; omega) hpB hDB hCB hCp hCD hRlt hAlt (Or.inr ⟨rfl, G, cp, rfl, hGB, hGl, hGp, hGD, hs⟩) hrest
    have := blockSet hp4 3 (valOf 0 false t data)
    simpa [PkCells] using this
  · refine prim_end (c := 0) hm (by decide) ht hK0 hR0 hC0 hf4 ?_ hb4 (fun g e => by have := hg2 g e; omega) hpB hDB hCB hCp hCD hRlt hAlt (Or.inr ⟨rfl, G, cp, rfl, hGB, hGl, hGp, hGD, hs⟩) hrest
    rw [hn]; exact hp4

set_option maxRecDepth 100000 in
set_option maxHeartbeats 16000000 in
theorem pack_zero (N : Nat) (w : World) (R A : Nat) (l : List UInt8) (i : Nat) (h : Rd w R A l i) (hE : Env N w) (hN : N ≤ R) (d : Nat) (hd : d < 1000) (c t : Nat) (rest : List UInt8)
    (hh : Ber.header (l.drop i) = some (c, false, t, some 0, rest)) (hkn : Ber.known c t = true) :
    Calls Tryz.prog 40 #[.iface 60 (.pointer (some ⟨R, 0, none⟩)), .int .i64 d] w fun e w' => PackOut N w.heap.size R A l i (.ok (.mk c false t [] []) rest) e w' ∧ Keep w.heap.size R w w' := by
  have hhd := head_any N w R A l i h hE hN
  have hm2 := make2
  have hm0 := make0
  have hdi : decide ((d : Int) ≥ 1000) = false := by simp; omega
  obtain ⟨hc4, ht63, -, -⟩ := Ber.header_bound hh
  have hRlt := h.lt
  have hAlt := h.ltA (by rcases Nat.eq_zero_or_pos l.length with h0 | h0; · rw [List.length_eq_zero_iff.1 h0] at hh; simp [Ber.header, Ber.ident] at hh
                         · exact h0)
  have HHD := Lib.hid hhd
  have HH := Lib.hid hh
  have HR := Lib.hid h
  have hkc := known_cases hkn
  have HKN := Lib.hid hkn
  clear hhd hh h hkn hE
  go_enter Tryz.func40, Tryz.ntmps40
  go_wp2_with fail
  refine HHD.out.mono ?_
  rintro e w1 ⟨ho, hk⟩
  unfold HeadOut at ho
  rw [HH.out] at ho
  obtain ⟨k, rfl, hr1, hrest⟩ := ho
  simp only [lenInt, tagValue]
  have hsz1 := hk.size
  obtain ⟨x, hx⟩ : ∃ x : Nat, x = c * 64 := ⟨_, rfl⟩
  rw [← hx]
  have HX := Lib.hid hx
  have hRA := hr1
  have HO := Lib.hid (And.intro hr1 hrest)
  have HK := Lib.hid hk
  have h0 : ((startW w1 x 0 t).alloc (.cells #[] 5)).heap[w1.heap.size + 1]? = _ := (Below.heap_alloc _ _ _ (by rw [startW_size]; omega)).trans (startW_P w1 x 0 t)
  have hD0 : BufAt ((startW w1 x 0 t).alloc (.cells #[] 5)) (w1.heap.size + 1 + 1) none (Lib.byteCells []) := (startW_D w1 x 0 t).below ((Below.refl _ _).alloc (Nat.le_refl _) _)
  have hC0 : KidRow ((startW w1 x 0 t).alloc (.cells #[] 5)) (w1.heap.size + 1 + 1 + 1) 2 [] := (startW_C w1 x 0 t).stays (Below.heap_alloc _ _ _ (startW_C w1 x 0 t).lt)
  have hR0 : Rd ((startW w1 x 0 t).alloc (.cells #[] 5)) R A l (i + k) := ((((hRA.alloc _).alloc _).alloc _).alloc _).alloc _
  have hK0 : Keep w.heap.size R w ((startW w1 x 0 t).alloc (.cells #[] 5)) := hk.trans (Keep.ofBelow ((startW_below w1 x 0 t).trans ((Below.refl _ _).alloc (by rw [startW_size]; omega) _) |>.mono hsz1))
  have hRd0 : Reads ((startW w1 x 0 t).alloc (.cells #[] 5)) (Lib.byteCells []) (.slice (some ⟨w1.heap.size + 1 + 1 + 1 + 1, 0, none⟩) ([] : List UInt8).length 0) := ⟨_, 0, rfl, Or.inl rfl⟩
  have hsz0 : w.heap.size ≤ ((startW w1 x 0 t).alloc (.cells #[] 5)).heap.size := by rw [World.size_alloc, startW_size]; omega
  have hlim : ([] : List UInt8).length + ([] : List UInt8).length ≤ 140737488355328 := by simp
  have hsrc0 : ∀ j v, (Lib.byteCells ([] : List UInt8))[j]? = some v → ((startW w1 x 0 t).alloc (.cells #[] 5)).cell? ⟨w1.heap.size + 1 + 1 + 1 + 1, j, none⟩ = some v := fun j v hj => by simp [Lib.byteCells] at hj
  have hgb : w.heap.size ≤ w1.heap.size + 1 + 1 + 1 + 1 := by omega
  have hgl : w1.heap.size + 1 + 1 + 1 + 1 < ((startW w1 x 0 t).alloc (.cells #[] 5)).heap.size := by rw [World.size_alloc, startW_size]; omega
  have hdl : ([] : List UInt8).length < 1000000000000 := by simp
  have HSRC := Lib.hid hsrc0
  have HGB := Lib.hid hgb
  have HGL := Lib.hid hgl
  have HDL := Lib.hid hdl
  clear hsrc0 hgb hgl hdl
  have HRD := Lib.hid hRd0
  have HSZ0 := Lib.hid hsz0
  have HLIM := Lib.hid hlim
  have HREST := Lib.hid hrest
  have HP0 := Lib.hid h0
  have HD0 := Lib.hid hD0
  have HC0 := Lib.hid hC0
  have HR0 := Lib.hid hR0
  have HK0 := Lib.hid hK0
  clear hRd0 hsz0 hlim hr1 hrest hk hRA h0 hD0 hC0 hR0 hK0 hx
  have tx : ((x : Int) == 0) = true ∨ ((x : Int) == 0) = false := by cases ((x : Int) == 0) <;> simp
  rcases tx with tx | tx
  · have hc0 : c = 0 := by have := HX.out; simp at tx; omega
    subst hc0
    rcases hkc.resolve_left (fun h => h rfl) with ⟨-, hkt⟩
    rcases hkt with rfl | rfl | rfl | rfl | rfl | rfl
    all_goals
      go_wp2_with fail
      refine (write_bytes _ (w1.heap.size + 1 + 1) none [] ([] : List UInt8) _ HD0.out HRD.out HLIM.out).mono ?_
      rintro e w2 ⟨rfl, row2, hb2, hr2, hf2⟩
      have hp2 := (hf2.block _ (blockLt HP0.out) (by rintro (h | h); omega; cases h)).trans HP0.out
      have c23 := pk3 hp2
      have c22 := pk2 hp2
      have c24 := pk4 hp2
      have f23 := blockFrozen hp2 3
      have f24 := blockFrozen hp2 4
      have hB2 := Lib.hid hb2
      have hR2 := Lib.hid hr2
      have hF2 := Lib.hid hf2
      have hP2 := Lib.hid hp2
      have hF4 := fun W4 hbel => prim_fin (N := N) (W4 := W4) (data := ([] : List UInt8)) (G := (w1.heap.size + 1 + 1 + 1 + 1)) (cp := 0) (show (k : Int) = (k : Int) from rfl) ht63 HK0.out HR0.out HC0.out (blockLt HP0.out) (by rw [HX.out] at hp2; exact hp2) hb2 hr2 hf2 (by omega) (by omega) (by omega) (by omega) (by omega) (by omega) hRlt hAlt HGB.out HGL.out (by omega) (by omega) HSRC.out HREST.out hbel
      have hs3 : ∀ j v, (Lib.byteCells ([] : List UInt8))[j]? = some v → (w2.setCell ⟨w1.heap.size + 1, 4, none⟩ (.slice (some ⟨(w1.heap.size + 1 + 1 + 1 + 1), 0, none⟩) ([] : List UInt8).length 0)).cell? ⟨(w1.heap.size + 1 + 1 + 1 + 1), j, none⟩ = some v := fun j v hj =>
        (World.cell?_of_block (w := w2) (Below.heap_setCell _ _ _ _ (by show (w1.heap.size + 1 + 1 + 1 + 1) ≠ w1.heap.size + 1; omega))).trans ((hf2.cell (p := ⟨(w1.heap.size + 1 + 1 + 1 + 1), j, none⟩) HGL.out (by rintro (h | h); (show False); have h' : (w1.heap.size + 1 + 1 + 1 + 1) = w1.heap.size + 1 + 1 := h; omega; cases h)).trans (HSRC.out j v hj))
      have HF4 := Lib.hid hF4
      have HS3 := Lib.hid hs3
      clear hb2 hr2 hf2 hp2 hF4 hs3
      go_wp2_with fail
    · go_ret3
      exact (HF4.out _ (Below.refl _ _)).2.1 (valOf_none _ (Or.inl rfl))
    · refine (parse_all _ (w1.heap.size + 1 + 1 + 1 + 1) 0 ([] : List UInt8) HDL.out HS3.out).mono ?_
      rintro e w4 ⟨⟨ev, rfl⟩, hbel⟩
      obtain ⟨hE, -, c43, f43⟩ := HF4.out w4 hbel
      have HE := Lib.hid hE
      clear hE hbel
      go_wp2
      go_ret3
      exact HE.out
    · refine (parse_all _ (w1.heap.size + 1 + 1 + 1 + 1) 0 ([] : List UInt8) HDL.out HS3.out).mono ?_
      rintro e w4 ⟨⟨ev, rfl⟩, hbel⟩
      obtain ⟨hE, -, c43, f43⟩ := HF4.out w4 hbel
      have HE := Lib.hid hE
      clear hE hbel
      go_wp2
      go_ret3
      exact HE.out
    · refine (decode_any _ (w1.heap.size + 1 + 1 + 1 + 1) 0 ([] : List UInt8) HS3.out).mono ?_
      rintro e w4 ⟨rfl, rfl⟩
      obtain ⟨hE, -, c43, f43⟩ := HF4.out _ (Below.refl _ _)
      have HE := Lib.hid hE
      clear hE
      go_wp2
      go_ret3
      exact HE.out
    · go_ret3
      exact (HF4.out _ (Below.refl _ _)).2.1 (valOf_none _ (Or.inr rfl))
    · refine (parse_all _ (w1.heap.size + 1 + 1 + 1 + 1) 0 ([] : List UInt8) HDL.out HS3.out).mono ?_
      rintro e w4 ⟨⟨ev, rfl⟩, hbel⟩
      obtain ⟨hE, -, c43, f43⟩ := HF4.out w4 hbel
      have HE := Lib.hid hE
      clear hE hbel
      go_wp2
      go_ret3
      exact HE.out
  · have hc0 : c ≠ 0 := by have := HX.out; simp at tx; omega
    go_wp2_with fail
    refine (write_bytes ((startW w1 x 0 t).alloc (.cells #[] 5)) (w1.heap.size + 1 + 1) none [] ([] : List UInt8) _ HD0.out HRD.out HLIM.out).mono ?_
    rintro e w2 ⟨rfl, row2, hb2, hr2, hf2⟩
    have hp2 := (hf2.block _ (blockLt HP0.out) (by rintro (h | h); omega; cases h)).trans HP0.out
    have hE := prim_end (N := N) (w := w) (i := i) (kk := k) (rest := rest) (c := c) (t := t) (data := ([] : List UInt8)) (row := row2) (bv := .slice none 0 0) (show (k : Int) = (k : Int) from rfl) hc4 ht63 HK0.out HR0.out HC0.out (hf2.weaken (by rintro i _ (h | h); exact Or.inr h; cases h)) (by rw [← HX.out]; simpa [valOf, hc0] using hp2) hb2
      (by rintro g rfl; rcases hr2 with h | ⟨g', h, h'⟩; cases h; rw [Option.some.inj h]; have := HSZ0.out; omega) (by omega) (by omega) (by omega) (by omega) (by omega) hRlt hAlt (Or.inl ⟨hc0, rfl⟩) HREST.out
    have HE := Lib.hid hE
    clear hE hb2 hr2 hf2 hp2
    go_wp2
    go_ret3
    exact HE.out
end Go.Proofs.YtdfehaonngccjaaGreatDoor

/- readPacket of a primitive packet of some contents. -/
namespace Go.Proofs.YtdfehaonngccjaaGreatDoor
open Go Go.RowKit

theorem nil_or {rest : List UInt8} {l : List UInt8} {j : Nat} (h : rest = l.drop j) : rest.length = l.length - j := by rw [h, List.length_drop]

set_option maxRecDepth 100000 in
set_option maxHeartbeats 16000000 in
theorem pack_some0 (N : Nat) (w : World) (R A : Nat) (l : List UInt8) (i : Nat) (h : Rd w R A l i) (hE : Env N w) (hN : N ≤ R) (d : Nat) (hd : d < 1000) (c t n : Nat) (rest0 data rest : List UInt8)
    (hh : Ber.header (l.drop i) = some (c, false, t, some n, rest0)) (hkn : Ber.known c t = true) (hn0 : 0 < n) (hn480 : n ≤ 480) (hlen : n ≤ rest0.length) (hdata : data = rest0.take n) (hrst : rest = rest0.drop n) :
    Calls Tryz.prog 40 #[.iface 60 (.pointer (some ⟨R, 0, none⟩)), .int .i64 d] w fun e w' => PackOut N w.heap.size R A l i (.ok (.mk c false t data []) rest) e w' ∧ Keep w.heap.size R w w' := by
  have hdl : data.length = n := by rw [hdata, List.length_take]; omega
  subst hdl
  have hhd := head_any N w R A l i h hE hN
  have hm2 := make2
  have hdi : decide ((d : Int) ≥ 1000) = false := by simp; omega
  obtain ⟨hc4, ht63, -, -⟩ := Ber.header_bound hh
  have hRlt := h.lt
  have hAlt := h.ltA (by rcases Nat.eq_zero_or_pos l.length with h0 | h0; · rw [List.length_eq_zero_iff.1 h0] at hh; simp [Ber.header, Ber.ident] at hh
                         · exact h0)
  have HHD := Lib.hid hhd
  have HH := Lib.hid hh
  have hkc := known_cases hkn
  have HKN := Lib.hid hkn
  have HE := Lib.hid hE
  have HLEN := Lib.hid hlen
  have HDT := Lib.hid hdata
  have HRST := Lib.hid hrst
  clear hhd hh h hkn hE hlen hdata hrst
  go_enter Tryz.func40, Tryz.ntmps40
  go_wp2_with fail
  refine HHD.out.mono ?_
  rintro e w1 ⟨ho, hk⟩
  unfold HeadOut at ho
  rw [HH.out] at ho
  obtain ⟨k, rfl, hr1, hrest⟩ := ho
  simp only [lenInt, tagValue]
  have hsz1 := hk.size
  obtain ⟨x, hx⟩ : ∃ x : Nat, x = c * 64 := ⟨_, rfl⟩
  rw [← hx]
  have HX := Lib.hid hx
  have hrl := nil_or hrest
  have hlr : i + k < l.length ∧ data.length ≤ l.length - (i + k) := by have := HLEN.out; rw [hrl] at this; omega
  obtain ⟨kk, hkk⟩ : ∃ kk, kk = k + data.length := ⟨_, rfl⟩
  have hkm : (k : Int) + (data.length : Int) = (kk : Int) := by omega
  have HKM := Lib.hid hkm
  clear hkm
  have hk9 : k < 1000000000 := by have := hr1.len; omega
  have HRR := Lib.hid hrest
  have HK := Lib.hid hk
  -- the limited reader
  have hLl : ((startW w1 x 0 t).alloc (.cells #[.iface 60 (.pointer (some ⟨R, 0, none⟩)), .int .i64 data.length] 150)).heap[w1.heap.size + 1 + 1 + 1 + 1]? = some (.cells #[.iface 60 (.pointer (some ⟨R, 0, none⟩)), .int .i64 data.length] 150 (0, 0)) := by
    have := heap_alloc_new (startW w1 x 0 t) (.cells #[.iface 60 (.pointer (some ⟨R, 0, none⟩)), .int .i64 data.length] 150)
    rw [startW_size] at this
    exact this
  have hszl : ((startW w1 x 0 t).alloc (.cells #[.iface 60 (.pointer (some ⟨R, 0, none⟩)), .int .i64 data.length] 150)).heap.size = w1.heap.size + 1 + 1 + 1 + 1 + 1 := by rw [World.size_alloc, startW_size]
  have hkl : Keep w.heap.size R w ((startW w1 x 0 t).alloc (.cells #[.iface 60 (.pointer (some ⟨R, 0, none⟩)), .int .i64 data.length] 150)) := hk.trans (Keep.ofBelow ((startW_below w1 x 0 t).trans ((Below.refl _ _).alloc (by rw [startW_size]; omega) _) |>.mono hsz1))
  have hall := all_some N ((startW w1 x 0 t).alloc (.cells #[.iface 60 (.pointer (some ⟨R, 0, none⟩)), .int .i64 data.length] 150)) (w1.heap.size + 1 + 1 + 1 + 1) R A l (i + k) (((((hr1.alloc _).alloc _).alloc _).alloc _).alloc _) hlr.1 data.length hLl hn0 (by omega) (HE.out.keep hkl (by omega) hN) hN (by omega) (by omega) data.length (by omega) hn480
  rw [hszl] at hall
  have hall2 : Calls Tryz.prog 52 #[.iface 148 (.pointer (some ⟨w1.heap.size + 1 + 1 + 1 + 1, 0, none⟩))] ((startW w1 x 0 t).alloc (.cells #[.iface 60 (.pointer (some ⟨R, 0, none⟩)), .int .i64 data.length] 150)) fun e w' =>
      e = .returned (.tuple #[.slice (some ⟨w1.heap.size + 1 + 1 + 1 + 1 + 1, 0, none⟩) data.length 512, .nilIface]) ∧
      (w'.heap[w1.heap.size + 1]? = some (.cells (PkCells x 0 t .nilIface (.slice none 0 0) (w1.heap.size + 1 + 1) (.slice (some ⟨w1.heap.size + 1 + 1 + 1, 0, none⟩) 0 2) (.string ⟨#[]⟩)) 92 (0, 0)) ∧
       BufAt w' (w1.heap.size + 1 + 1) none (Lib.byteCells []) ∧ KidRow w' (w1.heap.size + 1 + 1 + 1) 2 [] ∧ Rd w' R A l (i + kk) ∧ Keep w.heap.size R w w' ∧
       Reads w' (Lib.byteCells data) (.slice (some ⟨w1.heap.size + 1 + 1 + 1 + 1 + 1, 0, none⟩) data.length 512) ∧
       (∀ j v, (Lib.byteCells data)[j]? = some v → w'.cell? ⟨w1.heap.size + 1 + 1 + 1 + 1 + 1, j, none⟩ = some v) ∧ w1.heap.size + 1 + 1 + 1 + 1 + 1 < w'.heap.size) := by
    refine hall.mono fun e w' ⟨he, hkp, hrd, hrow⟩ => ?_
    have hst : ∀ q, q < w1.heap.size + 1 + 1 + 1 + 1 → q ≠ R → w'.heap[q]? = (startW w1 x 0 t).heap[q]? := fun q hq hqR => (hkp.block q hq hqR).trans (Below.heap_alloc _ _ _ (by rw [startW_size]; omega))
    have hcs : ∀ j v, (Lib.byteCells data)[j]? = some v → w'.cell? ⟨w1.heap.size + 1 + 1 + 1 + 1 + 1, j, none⟩ = some v := by
      intro j v hj
      rw [blockCell hrow j, List.getElem?_toArray]
      have hd2 : Lib.byteCells data = Lib.byteCells ((l.drop (i + k)).take data.length) := by have h1 := HDT.out; rw [HRR.out] at h1; exact congrArg _ h1
      rw [← hd2]
      have hjl := (List.getElem?_eq_some_iff.1 hj).1
      simp only [splice, List.take_zero, List.nil_append, Nat.zero_add]
      rw [List.getElem?_append_left hjl]
      exact hj
    refine ⟨he, (hst _ (by omega) (by omega)).trans (startW_P w1 x 0 t), (startW_D w1 x 0 t).kept (hst _ (by omega) (by omega)) (fun g e => by cases e), (startW_C w1 x 0 t).stays (hst _ (by omega) (by omega)), by rw [hkk, ← Nat.add_assoc]; exact hrd, hkl.trans (hkp.mono (by omega)), ?_, hcs, blockLt hrow⟩
    exact ⟨_, 512, by rw [cells_length], Or.inr ⟨_, rfl, ⟨_, hrow⟩, hcs⟩⟩
  have hnb : decide ((data.length : Int) > 2147483647) = false := by simp; omega
  have hn1 : ((data.length : Int) != -1) = true := by rw [bne_iff_ne]; omega
  have hn2 : ((data.length : Int) == -1) = false := by rw [beq_eq_false_iff_ne]; omega
  have hn3 : decide ((data.length : Int) > 0) = true := by simp; omega
  have hn4 : decide ((data.length : Int) < (data.length : Int)) = false := by simp
  have hrest' : rest = l.drop (i + kk) := by rw [HRST.out, HRR.out, List.drop_drop, hkk]; congr 1; omega
  have hgb : w.heap.size ≤ w1.heap.size + 1 + 1 + 1 + 1 + 1 := by omega
  have hlim : ([] : List UInt8).length + data.length ≤ 140737488355328 := by simp; omega
  have hdll : data.length < 1000000000000 := by omega
  have HALL := Lib.hid hall2
  have HGB := Lib.hid hgb
  have HLIM := Lib.hid hlim
  have HDL := Lib.hid hdll
  have HREST := Lib.hid hrest'
  have HKK := Lib.hid hkk
  clear hr1 hrest hk hx hLl hszl hkl hall hall2 hrest' hgb hlim hdll hlr hrl hkk
  go_wp2_with fail
  refine (limit_any _ R data.length).mono ?_
  rintro e w3 ⟨rfl, rfl⟩
  go_wp2_with fail
  refine HALL.out.mono ?_
  rintro e w5 ⟨rfl, hP5, hD5, hC5, hR5, hK5, hRd5, hS5, hG5⟩
  have HP0 := Lib.hid hP5
  have HD0 := Lib.hid hD5
  have HC0 := Lib.hid hC5
  have HR0 := Lib.hid hR5
  have HK0 := Lib.hid hK5
  have HRD := Lib.hid hRd5
  have HSRC := Lib.hid hS5
  have HGL := Lib.hid hG5
  have hsz5 : w.heap.size ≤ w5.heap.size := hK5.size
  have HSZ0 := Lib.hid hsz5
  have p51 := pk1 hP5
  have p50 := pk0 hP5
  have p55 := pk5 hP5
  clear hP5 hD5 hC5 hR5 hK5 hRd5 hS5 hG5 hsz5
  have tx : ((x : Int) == 0) = true ∨ ((x : Int) == 0) = false := by cases ((x : Int) == 0) <;> simp
  rcases tx with tx | tx
  · have hc0 : c = 0 := by have := HX.out; simp at tx; omega
    subst hc0
    rcases hkc.resolve_left (fun h => h rfl) with ⟨-, hkt⟩
    rcases hkt with rfl | rfl | rfl | rfl | rfl | rfl
    all_goals
      go_wp2_with fail
      refine (write_bytes _ (w1.heap.size + 1 + 1) none [] data _ HD0.out HRD.out HLIM.out).mono ?_
      rintro e w2 ⟨rfl, row2, hb2, hr2, hf2⟩
      have hp2 := (hf2.block _ (blockLt HP0.out) (by rintro (h | h); omega; cases h)).trans HP0.out
      have c23 := pk3 hp2
      have c22 := pk2 hp2
      have c24 := pk4 hp2
      have f23 := blockFrozen hp2 3
      have f24 := blockFrozen hp2 4
      have hB2 := Lib.hid hb2
      have hR2 := Lib.hid hr2
      have hF2 := Lib.hid hf2
      have hP2 := Lib.hid hp2
      have hF4 := fun W4 hbel => prim_fin (N := N) (W4 := W4) (data := data) (G := (w1.heap.size + 1 + 1 + 1 + 1 + 1)) (cp := 512) HKM.out ht63 HK0.out HR0.out HC0.out (blockLt HP0.out) (by rw [HX.out] at hp2; exact hp2) hb2 hr2 hf2 (by omega) (by omega) (by omega) (by omega) (by omega) (by omega) hRlt hAlt HGB.out HGL.out (by omega) (by omega) HSRC.out HREST.out hbel
      have hs3 : ∀ j v, (Lib.byteCells data)[j]? = some v → (w2.setCell ⟨w1.heap.size + 1, 4, none⟩ (.slice (some ⟨(w1.heap.size + 1 + 1 + 1 + 1 + 1), 0, none⟩) data.length 512)).cell? ⟨(w1.heap.size + 1 + 1 + 1 + 1 + 1), j, none⟩ = some v := fun j v hj =>
        (World.cell?_of_block (w := w2) (Below.heap_setCell _ _ _ _ (by show (w1.heap.size + 1 + 1 + 1 + 1 + 1) ≠ w1.heap.size + 1; omega))).trans ((hf2.cell (p := ⟨(w1.heap.size + 1 + 1 + 1 + 1 + 1), j, none⟩) HGL.out (by rintro (h | h); (show False); have h' : (w1.heap.size + 1 + 1 + 1 + 1 + 1) = w1.heap.size + 1 + 1 := h; omega; cases h)).trans (HSRC.out j v hj))
      have HF4 := Lib.hid hF4
      have HS3 := Lib.hid hs3
      clear hb2 hr2 hf2 hp2 hF4 hs3
      go_wp2_with fail
    · go_ret3
      exact (HF4.out _ (Below.refl _ _)).2.1 (valOf_none _ (Or.inl rfl))
    · refine (parse_all _ (w1.heap.size + 1 + 1 + 1 + 1 + 1) 512 data HDL.out HS3.out).mono ?_
      rintro e w4 ⟨⟨ev, rfl⟩, hbel⟩
      obtain ⟨hE, -, c43, f43⟩ := HF4.out w4 hbel
      have HE := Lib.hid hE
      clear hE hbel
      go_wp2
      go_ret3
      exact HE.out
    · refine (parse_all _ (w1.heap.size + 1 + 1 + 1 + 1 + 1) 512 data HDL.out HS3.out).mono ?_
      rintro e w4 ⟨⟨ev, rfl⟩, hbel⟩
      obtain ⟨hE, -, c43, f43⟩ := HF4.out w4 hbel
      have HE := Lib.hid hE
      clear hE hbel
      go_wp2
      go_ret3
      exact HE.out
    · refine (decode_any _ (w1.heap.size + 1 + 1 + 1 + 1 + 1) 512 data HS3.out).mono ?_
      rintro e w4 ⟨rfl, rfl⟩
      obtain ⟨hE, -, c43, f43⟩ := HF4.out _ (Below.refl _ _)
      have HE := Lib.hid hE
      clear hE
      go_wp2
      go_ret3
      exact HE.out
    · go_ret3
      exact (HF4.out _ (Below.refl _ _)).2.1 (valOf_none _ (Or.inr rfl))
    · refine (parse_all _ (w1.heap.size + 1 + 1 + 1 + 1 + 1) 512 data HDL.out HS3.out).mono ?_
      rintro e w4 ⟨⟨ev, rfl⟩, hbel⟩
      obtain ⟨hE, -, c43, f43⟩ := HF4.out w4 hbel
      have HE := Lib.hid hE
      clear hE hbel
      go_wp2
      go_ret3
      exact HE.out
  · have hc0 : c ≠ 0 := by have := HX.out; simp at tx; omega
    go_wp2_with fail
    refine (write_bytes w5 (w1.heap.size + 1 + 1) none [] data _ HD0.out HRD.out HLIM.out).mono ?_
    rintro e w2 ⟨rfl, row2, hb2, hr2, hf2⟩
    have hp2 := (hf2.block _ (blockLt HP0.out) (by rintro (h | h); omega; cases h)).trans HP0.out
    have hE := prim_end (N := N) (w := w) (i := i) (kk := kk) (rest := rest) (c := c) (t := t) (data := data) (row := row2) (bv := .slice none 0 0) HKM.out hc4 ht63 HK0.out HR0.out HC0.out (hf2.weaken (by rintro i _ (h | h); exact Or.inr h; cases h)) (by rw [← HX.out]; simpa [valOf, hc0] using hp2) hb2
      (by rintro g rfl; rcases hr2 with h | ⟨g', h, h'⟩; cases h; rw [Option.some.inj h]; have := HSZ0.out; omega) (by omega) (by omega) (by omega) (by omega) (by omega) hRlt hAlt (Or.inl ⟨hc0, rfl⟩) HREST.out
    have HE := Lib.hid hE
    clear hE hb2 hr2 hf2 hp2
    go_wp2
    go_ret3
    exact HE.out



theorem pack_some (N : Nat) (w : World) (R A : Nat) (l : List UInt8) (i : Nat) (h : Rd w R A l i) (hE : Env N w) (hN : N ≤ R) (d : Nat) (hd : d < 1000) (c t n : Nat) (rest : List UInt8)
    (hh : Ber.header (l.drop i) = some (c, false, t, some n, rest)) (hkn : Ber.known c t = true) (hn0 : 0 < n) (hn480 : n ≤ 480) (hlen : n ≤ rest.length) :
    Calls Tryz.prog 40 #[.iface 60 (.pointer (some ⟨R, 0, none⟩)), .int .i64 d] w fun e w' => PackOut N w.heap.size R A l i (.ok (.mk c false t (rest.take n) []) (rest.drop n)) e w' ∧ Keep w.heap.size R w w' :=
  pack_some0 N w R A l i h hE hN d hd c t n rest _ _ hh hkn hn0 hn480 hlen rfl rfl
end Go.Proofs.YtdfehaonngccjaaGreatDoor

/- Plain: what a packet that was read has, written again. -/
namespace Go.Proofs.YtdfehaonngccjaaGreatDoor.Ber

theorem tagMore_len : ∀ f n, (tagMore f n).length ≤ f
  | 0, n => by simp [tagMore]
  | f + 1, n => by simp only [tagMore]; split; simp; have := tagMore_len f (n / 128); simp; omega
theorem identBytes_len (c : Nat) (b : Bool) (t : Nat) : (identBytes c b t).length ≤ 13 := by
  have h : (tagBytes t).length ≤ 11 := by
    unfold tagBytes
    split
    · simp
    · have := tagMore_len 10 (t / 128); simp; omega
  unfold identBytes
  split
  · simp
  · rw [List.length_cons]; omega
theorem digits_len : ∀ f n, (digits f n).length ≤ f
  | 0, n => by simp [digits]
  | f + 1, n => by simp only [digits]; split; simp; have := digits_len f (n / 256); simp; omega
theorem lenBytes_len (n : Nat) : (lenBytes n).length ≤ 9 := by
  unfold lenBytes
  split
  · simp
  · have := digits_len 8 n; simp; omega
theorem enc_len (p : Pk) : (enc p).length ≤ 22 + (body p).length := by
  cases p with
  | mk c b t data items =>
    have := identBytes_len c b t
    have := lenBytes_len (body (.mk c b t data items)).length
    simp only [enc, List.length_append]
    omega
theorem bodies_append : ∀ (xs : List Pk) (p : Pk), bodies (xs ++ [p]) = bodies xs ++ enc p
  | [], .mk c b t d i => by simp [bodies, enc]
  | .mk c b t d i :: r, p => by simp only [List.cons_append, bodies, bodies_append r p, List.append_assoc]

/-- A packet of n bytes. -/
structure Fits (s : List UInt8) (p : Pk) (rest : List UInt8) : Prop where
  drop : ∃ m, rest = s.drop m ∧ 2 ≤ m ∧ m ≤ s.length
  size : (enc p).length + 20 * rest.length ≤ 20 * s.length

theorem prim_fits {c t n : Nat} {s0 s : List UInt8} {p : Pk} {rest : List UInt8} (h0 : ∃ m, s = s0.drop m ∧ 2 ≤ m ∧ m ≤ s0.length) (h : prim c t n s = .ok p rest) : Fits s0 p rest := by
  obtain ⟨m, rfl, hm2, hml⟩ := h0
  unfold prim at h
  have key : ∀ (data : List UInt8) (j : Nat), data.length ≤ j → j ≤ (s0.drop m).length → Fits s0 (.mk c false t data []) ((s0.drop m).drop j) := by
    intro data j hd hj
    have he := enc_len (.mk c false t data [])
    have hb : body (.mk c false t data []) = data := rfl
    rw [hb] at he
    rw [List.length_drop] at hj
    refine ⟨⟨m + j, by rw [List.drop_drop], by omega, by omega⟩, ?_⟩
    rw [List.drop_drop, List.length_drop]
    omega
  split at h
  · split at h
    · injection h with h1 h2
      subst h1 h2
      exact key [] 0 (by simp) (by omega)
    · cases h
  · split at h
    · cases h
    · split at h
      · cases h
      · split at h
        · injection h with h1 h2
          subst h1 h2
          exact key _ n (by rw [List.length_take]; omega) (by omega)
        · cases h

mutual
theorem readP_fits : ∀ (f d : Nat) (s : List UInt8) (p : Pk) (rest : List UInt8), readP f d s = .ok p rest → Fits s p rest
  | 0, d, s, p, rest, h => by simp [readP] at h
  | f + 1, d, s, p, rest, h => by
    simp only [readP] at h
    split at h
    · cases h
    · split at h
      · cases h
      · cases h
      · rename_i c t s1 hh
        obtain ⟨-, -, -, m, h1, h2, h3⟩ := header_bound hh
        exact kids_fits f d c t none 0 [] s1 p rest s ⟨m, h2, h1, h3⟩ (by simp [bodies]; rw [h2, List.length_drop]; omega) h
      · rename_i c b t n s1 hh
        obtain ⟨-, -, -, m, h1, h2, h3⟩ := header_bound hh
        split at h
        · cases h
        · split at h
          · exact kids_fits f d c t (some n) 0 [] s1 p rest s ⟨m, h2, h1, h3⟩ (by simp [bodies]; rw [h2, List.length_drop]; omega) h
          · exact prim_fits ⟨m, h2, h1, h3⟩ h
theorem kids_fits : ∀ (f d c t : Nat) (len : Option Nat) (got : Nat) (items : List Pk) (s : List UInt8) (p : Pk) (rest s0 : List UInt8), (∃ m, s = s0.drop m ∧ 2 ≤ m ∧ m ≤ s0.length) → 40 + (bodies items).length + 20 * s.length ≤ 20 * s0.length →
    kids f d c t len got items s = .ok p rest → Fits s0 p rest
  | 0, d, c, t, len, got, items, s, p, rest, s0, h0, hs, h => by simp [kids] at h
  | f + 1, d, c, t, len, got, items, s, p, rest, s0, h0, hs, h => by
    have key : ∀ r : List UInt8, (∃ m, r = s0.drop m ∧ 2 ≤ m ∧ m ≤ s0.length) → r.length ≤ s.length → Fits s0 (.mk c true t [] items) r := by
      intro r hr hl
      have he := enc_len (.mk c true t [] items)
      have hb : body (.mk c true t [] items) = bodies items := rfl
      rw [hb] at he
      exact ⟨hr, by omega⟩
    simp only [kids] at h
    split at h
    · injection h with h1 h2
      subst h1 h2
      exact key _ h0 (Nat.le_refl _)
    · split at h
      · cases h
      · split at h
        · cases h
        · cases h
        · rename_i q r hq
          have hf := readP_fits f (d + 1) s q r hq
          obtain ⟨m, hm1, hm2, hm3⟩ := h0
          obtain ⟨j, hj1, hj2, hj3⟩ := hf.drop
          have hr : ∃ m, r = s0.drop m ∧ 2 ≤ m ∧ m ≤ s0.length := ⟨m + j, by rw [hj1, hm1, List.drop_drop], by omega, by rw [hm1, List.length_drop] at hj3; omega⟩
          have hrl : r.length ≤ s.length := by rw [hj1, List.length_drop]; omega
          split at h
          · cases h
          · split at h
            · split at h
              · injection h with h1 h2
                subst h1 h2
                exact key _ hr hrl
              · cases h
            · refine kids_fits f d c t len _ _ r p rest s0 hr ?_ h
              have := hf.size
              rw [bodies_append, List.length_append]
              omega
end
end Go.Proofs.YtdfehaonngccjaaGreatDoor.Ber

/- Packets in memory: more. -/
namespace Go.Proofs.YtdfehaonngccjaaGreatDoor
open Go Go.RowKit

theorem Kids.length : ∀ {w : World} {xs : List Value} {items : List Ber.Pk}, Kids w xs items → xs.length = items.length
  | w, xs, [], h => by unfold Kids at h; rw [h]; rfl
  | w, xs, x :: r, h => by
    unfold Kids at h
    obtain ⟨q, vs, rfl, _, h2⟩ := h
    simp [Kids.length h2]
theorem Kids.snoc : ∀ {w : World} {xs : List Value} {items : List Ber.Pk} {q : Nat} {p : Ber.Pk}, Kids w xs items → Tree w q p → Kids w (xs ++ [.pointer (some ⟨q, 0, none⟩)]) (items ++ [p])
  | w, xs, [], q, p, h, ht => by
    unfold Kids at h
    subst h
    simp only [List.nil_append]
    unfold Kids
    exact ⟨q, [], rfl, ht, by unfold Kids; rfl⟩
  | w, xs, x :: r, q, p, h, ht => by
    unfold Kids at h
    obtain ⟨q', vs, rfl, h1, h2⟩ := h
    simp only [List.cons_append]
    unfold Kids
    exact ⟨q', vs ++ [.pointer (some ⟨q, 0, none⟩)], rfl, h1, Kids.snoc h2 ht⟩

/-- isEOCPacket of a packet. -/
theorem eoc_tree (w : World) (q : Nat) (p : Ber.Pk) (h : Tree w q p) :
    Calls Tryz.prog 50 #[.pointer (some ⟨q, 0, none⟩)] w fun e w' => e = .returned (.bool (Ber.isEOC p)) ∧ w = w' := by
  cases p with
  | mk c b t data items =>
    unfold Tree at h
    obtain ⟨D, row, C, cap, bv, xs, hc, ht, hp, hb, hk, hbv, hi, hd, hkids⟩ := h
    obtain ⟨bo, bn, bc, rfl, hbn⟩ : ∃ bo bn bc, bv = .slice bo bn bc ∧ (c = 0 ∧ b = false → bn = data.length) := by
      unfold BvAt at hbv
      split at hbv
      · obtain ⟨G, cp, h1, _⟩ := hbv
        exact ⟨_, _, _, h1, fun _ => rfl⟩
      · rename_i hne
        exact ⟨none, 0, 0, hbv, fun h => absurd h hne⟩
    refine (eoc_any w q ((c * 64 : Nat) : Int) (if b then 32 else 0) t _ bo bn bc _ _ xs.length cap _ (0, 0) hp).mono fun e w' ⟨he, hw⟩ => ⟨?_, hw⟩
    rw [he]
    congr 2
    have hxl := hkids.length
    by_cases h0 : c = 0 ∧ b = false
    · obtain ⟨rfl, rfl⟩ := h0
      rw [hbn ⟨rfl, rfl⟩, hxl, hi rfl]
      have e1 : ((t : Int) == 0) = decide (t = 0) := by by_cases h : t = 0 <;> simp [h]
      have e2 : data.isEmpty = decide (data.length = 0) := by cases data <;> simp
      simp only [Ber.isEOC, e1, e2]
      simp
    · have hf : ((((c * 64 : Nat) : Int) == 0) && ((if b then 32 else 0 : Int) == 0)) = false := by
        cases b
        · have : c ≠ 0 := fun h => h0 ⟨h, rfl⟩
          have h64 : (((c * 64 : Nat) : Int) == 0) = false := by rw [beq_eq_false_iff_ne]; omega
          rw [h64]; rfl
        · simp
      have hE : Ber.isEOC (.mk c b t data items) = false := by
        simp only [Ber.isEOC]
        cases b
        · have : c ≠ 0 := fun h => h0 ⟨h, rfl⟩
          simp [this]
        · simp
      rw [hE]
      rw [Bool.and_assoc ((t : Int) == 0), hf]
      simp
end Go.Proofs.YtdfehaonngccjaaGreatDoor

/- readPacket of constructed packets: the loop's invariant. -/
namespace Go.Proofs.YtdfehaonngccjaaGreatDoor
open Go Go.RowKit

theorem Stable.widen {B B' : Nat} {w : World} {Own : Nat → Prop} {Q : World → Prop} (h : Stable B' w (fun _ => False) Q) (hB : B ≤ B') (hO : ∀ k, Own k → k < B') : Stable B w Own Q :=
  fun w2 h2 => h w2 fun k hk hlt _ => h2 k (Nat.le_trans hB hk) hlt (fun e => by have := hO k e; omega)
theorem Stable.both {B : Nat} {w : World} {Own : Nat → Prop} {Q Q' : World → Prop} (h : Stable B w Own Q) (h' : Stable B w Own Q') : Stable B w Own (fun w => Q w ∧ Q' w) := fun w2 h2 => ⟨h w2 h2, h' w2 h2⟩

def ReadHolds (N R A : Nat) (l : List UInt8) (f : Nat) : Prop :=
  ∀ (w : World) (i d : Nat), Rd w R A l i → Env N w → d < 1000000 → Ber.readP f d (l.drop i) ≠ .bad →
    Calls Tryz.prog 40 #[.iface 60 (.pointer (some ⟨R, 0, none⟩)), .int .i64 d] w fun e w' => PackOut N w.heap.size R A l i (Ber.readP f d (l.drop i)) e w' ∧ Keep w.heap.size R w w'

/-- A packet under way. -/
structure Way (R A : Nat) (l : List UInt8) (i c t : Nat) (w : World) (P D : Nat) (k got : Nat) (row : Option Nat) (C cap : Nat) (xs : List Value) (items : List Ber.Pk) (wr : World) : Prop where
  le : got ≤ k
  rd : Rd wr R A l (i + k)
  keep : Keep w.heap.size R w wr
  hP : wr.heap[P]? = some (.cells (PkCells ((c * 64 : Nat) : Int) 32 t .nilIface (.slice none 0 0) D (.slice (some ⟨C, 0, none⟩) xs.length cap) (.string ⟨#[]⟩)) 92 (0, 0))
  hD : BufAt wr D row (Lib.byteCells (Ber.bodies items))
  hC : KidRow wr C cap xs
  cB : w.heap.size ≤ C
  rB : ∀ g, row = some g → w.heap.size ≤ g
  kids : Stable w.heap.size wr (fun k => k = P ∨ k = D ∨ row = some k ∨ k = C) (fun w2 => Kids w2 xs items)
  size : (Ber.bodies items).length ≤ 20 * k
  few : xs.length ≤ k

/-- The loop's head, at most kq rounds to come. -/
def LoopInv (R A : Nat) (l : List UInt8) (i d c t : Nat) (len : Option Nat) (f : Nat) (r : Ber.Res) (w : World) (P D : Nat) (kq : Nat) (v9 v12 : Value) (wr : World) : Prop :=
  ∃ (k got : Nat) (row : Option Nat) (C cap : Nat) (xs : List Value) (items : List Ber.Pk), v9 = .int .i64 k ∧ v12 = .int .i64 got ∧ kq ≤ f ∧ Way R A l i c t w P D k got row C cap xs items wr ∧ Ber.kids kq d c t len got items (l.drop (i + k)) = r

/-- The loop's end: the packet stands. -/
theorem Way.done {N R A : Nat} {l : List UInt8} {i c t : Nat} {w : World} {P D k got : Nat} {row : Option Nat} {C cap : Nat} {xs : List Value} {items : List Ber.Pk} {wr : World}
    (h : Way R A l i c t w P D k got row C cap xs items wr) (hc : c < 4) (ht : t < 2 ^ 63) (hPB : w.heap.size ≤ P) (hDB : w.heap.size ≤ D) :
    PackOut N w.heap.size R A l i (.ok (.mk c true t [] items) (l.drop (i + k))) (.returned (.tuple #[.pointer (some ⟨P, 0, none⟩), .int .i64 k, .nilIface])) wr ∧ Keep w.heap.size R w wr := by
  refine ⟨⟨P, k, rfl, hPB, ?_, h.rd, rfl⟩, h.keep⟩
  intro w2 h2
  have hst : ∀ k, w.heap.size ≤ k → k < wr.heap.size → w2.heap[k]? = wr.heap[k]? := fun k h1 h3 => h2 k h1 h3 id
  unfold Tree
  refine ⟨D, row, C, cap, .slice none 0 0, xs, hc, by omega, ?_, h.hD.kept (hst D hDB h.hD.ltD) (fun g e => hst g (h.rB g e) (by have := h.hD; subst e; exact this.ltG)), h.hC.stays (hst C h.cB h.hC.lt), ?_, (fun e => by cases e), fun _ => rfl, h.kids w2 (fun k h1 h3 _ => hst k h1 h3)⟩
  · rw [hst P hPB (blockLt h.hP), h.hP]
    simp [valOf]
  · unfold BvAt
    rw [if_neg (by rintro ⟨_, h⟩; cases h)]

/-- A child has been read. -/
theorem Way.child {R A : Nat} {l : List UInt8} {i c t : Nat} {w : World} {P D k got : Nat} {row : Option Nat} {C cap : Nat} {xs : List Value} {items : List Ber.Pk} {wr w2 : World} {q k' : Nat} {p : Ber.Pk}
    (h : Way R A l i c t w P D k got row C cap xs items wr) (hRlt : R < w.heap.size) (hPB : w.heap.size ≤ P) (hDB : w.heap.size ≤ D)
    (hk : Keep wr.heap.size R wr w2) (hr : Rd w2 R A l (i + k + k')) (hs : Stable wr.heap.size w2 (fun _ => False) (fun w => Tree w q p)) :
    Way R A l i c t w P D (k + k') (got + k') row C cap xs items w2 ∧ Stable w.heap.size w2 (fun k => k = P ∨ k = D ∨ row = some k ∨ k = C) (fun w2 => Kids w2 (xs ++ [.pointer (some ⟨q, 0, none⟩)]) (items ++ [p])) := by
  have hsz := h.keep.size
  have hst : ∀ k, w.heap.size ≤ k → k < wr.heap.size → w2.heap[k]? = wr.heap[k]? := fun k h1 h2 => hk.block k h2 (by omega)
  have hkids : Stable w.heap.size w2 (fun k => k = P ∨ k = D ∨ row = some k ∨ k = C) (fun w2 => Kids w2 xs items) :=
    h.kids.only (Only.ofKeep hk) (fun i h1 _ h2 => by omega) (fun i _ h => h)
  refine ⟨⟨by have := h.le; omega, by rw [← Nat.add_assoc]; exact hr, h.keep.trans (hk.mono hsz), (hst P hPB (blockLt h.hP)).trans h.hP, h.hD.kept (hst D hDB h.hD.ltD) (fun g e => hst g (h.rB g e) (by have := h.hD; subst e; exact this.ltG)), h.hC.stays (hst C h.cB h.hC.lt), h.cB, h.rB, hkids, by have := h.size; omega, by have := h.few; omega⟩, ?_⟩
  refine (hkids.both (hs.widen hsz ?_)).imp fun w ⟨h1, h2⟩ => h1.snoc h2
  rintro k (rfl | rfl | h1 | rfl)
  · exact blockLt h.hP
  · exact h.hD.ltD
  · have := h.hD; subst h1; exact this.ltG
  · exact h.hC.lt

/-- .. and appended. -/
theorem Way.next {R A : Nat} {l : List UInt8} {i c t : Nat} {w : World} {P D k k' got : Nat} {row row' : Option Nat} {C cap C' cap' : Nat} {xs : List Value} {items : List Ber.Pk} {w2 w3 : World} {q : Nat} {p : Ber.Pk}
    (h : Way R A l i c t w P D (k + k') got row C cap xs items w2) (hRlt : R < w.heap.size) (hAlt : A < w.heap.size) (hPB : w.heap.size ≤ P) (hDB : w.heap.size ≤ D)
    (hk : Stable w.heap.size w2 (fun k => k = P ∨ k = D ∨ row = some k ∨ k = C) (fun w2 => Kids w2 (xs ++ [.pointer (some ⟨q, 0, none⟩)]) (items ++ [p])))
    (hP : w3.heap[P]? = some (.cells (PkCells ((c * 64 : Nat) : Int) 32 t .nilIface (.slice none 0 0) D (.slice (some ⟨C', 0, none⟩) (xs.length + 1) cap') (.string ⟨#[]⟩)) 92 (0, 0)))
    (hD : BufAt w3 D row' (Lib.byteCells (Ber.bodies items ++ Ber.enc p))) (hC : KidRow w3 C' cap' (xs ++ [.pointer (some ⟨q, 0, none⟩)]))
    (hr : row' = row ∨ ∃ g, row' = some g ∧ w2.heap.size ≤ g) (hcc : C' = C ∨ w2.heap.size ≤ C') (hf : Only (fun k => k = P ∨ k = D ∨ row = some k ∨ k = C) w2 w3)
    (hsz : (Ber.bodies items).length + (Ber.enc p).length ≤ 20 * (k + k')) (hfew : xs.length + 1 ≤ k + k') :
    Way R A l i c t w P D (k + k') got row' C' cap' (xs ++ [.pointer (some ⟨q, 0, none⟩)]) (items ++ [p]) w3 := by
  have hs := h.keep.size
  have hown : ∀ g, (g = P ∨ g = D ∨ row = some g ∨ g = C) → w.heap.size ≤ g := by
    rintro g (rfl | rfl | h1 | rfl)
    · exact hPB
    · exact hDB
    · exact h.rB g h1
    · exact h.cB
  have hst : ∀ g, g < w.heap.size → w3.heap[g]? = w2.heap[g]? := fun g hg => hf.block g (by omega) (fun e => by have := hown g e; omega)
  refine ⟨h.le, h.rd.stays (hst R hRlt) (hst A hAlt), h.keep.trans (hf.toKeep (fun g e => Or.inl (hown g e)) hs), by rw [List.length_append]; exact hP, by rw [Ber.bodies_append]; exact hD, hC, ?_, ?_, hk.only hf (fun i _ _ h => h) ?_, by rw [Ber.bodies_append, List.length_append]; exact hsz, by rw [List.length_append]; exact hfew⟩
  · rcases hcc with e | e
    · rw [e]; exact h.cB
    · omega
  · intro g e
    rcases hr with e2 | ⟨g', e2, e3⟩
    · exact h.rB g (by rw [← e2]; exact e)
    · rw [e2] at e; rw [← Option.some.inj e]; omega
  · rintro g hg (h1 | h1 | h1 | h1)
    · exact Or.inl h1
    · exact Or.inr (Or.inl h1)
    · rcases hr with e2 | ⟨g', e2, e3⟩
      · exact Or.inr (Or.inr (Or.inl (by rw [← e2]; exact h1)))
      · rw [e2] at h1; have := Option.some.inj h1; omega
    · rcases hcc with e | e
      · exact Or.inr (Or.inr (Or.inr (by rw [← e]; exact h1)))
      · omega
end Go.Proofs.YtdfehaonngccjaaGreatDoor

/- readPacket of constructed packets. -/
namespace Go.Proofs.YtdfehaonngccjaaGreatDoor
open Go Go.RowKit

set_option maxRecDepth 100000 in
set_option maxHeartbeats 16000000 in
theorem pack_built_some (N R A : Nat) (l : List UInt8) (hN : N ≤ R) (f : Nat) (ih : ∀ g, g < f → ReadHolds N R A l g) (w : World) (i d c t : Nat) (n : Nat) (hn31 : n ≤ 2147483647) (rest : List UInt8) (r : Ber.Res) (h : Rd w R A l i) (hE : Env N w) (hd : d < 1000)
    (hh : Ber.header (l.drop i) = some (c, true, t, (some n), rest)) (hr : Ber.kids f d c t (some n) 0 [] rest = r) (hnb : r ≠ .bad) :
    Calls Tryz.prog 40 #[.iface 60 (.pointer (some ⟨R, 0, none⟩)), .int .i64 d] w fun e w' => PackOut N w.heap.size R A l i r e w' ∧ Keep w.heap.size R w w' := by
  have hhd := head_any N w R A l i h hE hN
  have hm2 := make2
  have hdi : decide ((d : Int) ≥ 1000) = false := by simp; omega
  obtain ⟨hc4, ht63, -, -⟩ := Ber.header_bound hh
  have hRlt := h.lt
  have hAlt := h.ltA (by rcases Nat.eq_zero_or_pos l.length with h0 | h0; · rw [List.length_eq_zero_iff.1 h0] at hh; simp [Ber.header, Ber.ident] at hh
                         · exact h0)
  have hn1 : ((n : Int) != -1) = true := by rw [bne_iff_ne]; omega
  have hnb1 : decide ((n : Int) > 2147483647) = false := by simp; omega
  have HHD := Lib.hid hhd
  have HH := Lib.hid hh
  have HE := Lib.hid hE
  have HKR := Lib.hid hr
  have HNB := Lib.hid hnb
  have HIH := Lib.hid ih
  clear hhd hh h hE hr hnb ih
  go_enter Tryz.func40, Tryz.ntmps40
  go_wp2_with fail
  refine HHD.out.mono ?_
  rintro e w1 ⟨ho, hk⟩
  unfold HeadOut at ho
  rw [HH.out] at ho
  obtain ⟨k, rfl, hr1, hrest⟩ := ho
  simp only [tagValue, lenInt]
  have hsz1 := hk.size
  obtain ⟨x, hx⟩ : ∃ x : Nat, x = c * 64 := ⟨_, rfl⟩
  rw [← hx]
  have HX := Lib.hid hx
  have hway : Way R A l i c t w (w1.heap.size + 1) (w1.heap.size + 1 + 1) k 0 none (w1.heap.size + 1 + 1 + 1) 2 [] [] (startW w1 x 32 t) := by
    have hk0 := hk.trans (Keep.ofBelow ((startW_below w1 x 32 t).mono hsz1))
    refine ⟨Nat.zero_le _, (((hr1.alloc _).alloc _).alloc _).alloc _, hk0, by rw [← hx]; exact startW_P w1 x 32 t, startW_D w1 x 32 t, startW_C w1 x 32 t, by omega, (fun g e => by cases e), fun w2 _ => by unfold Kids; rfl, by simp [Ber.bodies], by simp⟩
  have hkr0 : Ber.kids f d c t (some n) 0 [] (l.drop (i + k)) = r := by rw [← hrest]; exact HKR.out
  have HWAY := Lib.hid hway
  have HKR0 := Lib.hid hkr0
  clear hr1 hrest hk hx hway hkr0
  go_wp2_with fail
  go_loopg [9, 12] f (fun kq v9 v12 wr => LoopInv R A l i d c t (some n) f r w (w1.heap.size + 1) (w1.heap.size + 1 + 1) kq v9 v12 wr)
  case atStart => exact ⟨k, 0, none, _, _, _, _, rfl, rfl, Nat.le_refl _, HWAY.out, HKR0.out⟩
  case round =>
    obtain ⟨k, got, row, C, cap, xs, items, rfl, rfl, hkq, hW, hK⟩ := hrel
    obtain ⟨g, rfl⟩ : ∃ g, gk = g + 1 := by
      cases gk with
      | zero => exact absurd (by rw [← hK]; simp [Ber.kids]) HNB.out
      | succ g => exact ⟨g, rfl⟩
    have hpos := hW.rd.pos
    have hlen9 := hW.rd.len
    have hle := hW.le
    have hP0 := hW.hP
    simp only [Ber.kids] at hK
    by_cases hgn : n = got
    · subst hgn
      rw [if_pos rfl] at hK
      have t1 : ((n : Int) == (n : Int)) = true := by simp
      have hE := hW.done (N := N) hc4 ht63 (by omega) (by omega)
      rw [hK] at hE
      have HE1 := Lib.hid hE
      clear hE hK hW hP0
      go_wp2
      go_ret3
      exact HE1.out
    · rw [if_neg (by simp; exact hgn)] at hK
      have t1 : ((got : Int) == (n : Int)) = false := by rw [beq_eq_false_iff_ne]; omega
      by_cases hlt : n < got
      · rw [if_pos (by simp; exact hlt)] at hK
        have t2 : decide ((got : Int) > (n : Int)) = true := by simp; omega
        have HW := Lib.hid hW
        have HK := Lib.hid hK
        clear hW hK hP0
        go_wp2_with fail
        refine (new_keep _ (by decide) (by decide) N w.heap.size _ HW.out.keep.size).mono ?_
        rintro e w3 ⟨a, rfl, he, hb⟩
        have HEE := Lib.hid he
        have HB := Lib.hid (HW.out.keep.trans (Keep.ofBelow (hb.mono HW.out.keep.size)))
        clear he hb
        go_wp2
        go_ret3
        rw [← HK.out]
        exact ⟨⟨_, _, rfl, HEE.out⟩, HB.out⟩
      · rw [if_neg (by simp; omega)] at hK
        have t2 : decide ((got : Int) > (n : Int)) = false := by simp; omega
        have hEr := HE.out.keep hW.keep (by omega) hN
        have hcall : Ber.readP g (d + 1) (l.drop (i + k)) ≠ .bad := by
          intro hbad
          rw [hbad] at hK
          exact HNB.out hK.symm
        have hcl := HIH.out g (by omega) _ (i + k) (d + 1) hW.rd hEr (by omega) hcall
        have hcl2 : Calls Tryz.prog 40 #[.iface 60 (.pointer (some ⟨R, 0, none⟩)), .int .i64 ((d : Int) + 1)] wr fun e w' => PackOut N wr.heap.size R A l (i + k) (Ber.readP g (d + 1) (l.drop (i + k))) e w' ∧ Keep wr.heap.size R wr w' := hcl
        have HCL := Lib.hid hcl2
        have HW := Lib.hid hW
        have HK := Lib.hid hK
        clear hW hK hcl hcl2 hcall hP0 hEr
        go_wp2_with fail
        refine HCL.out.mono ?_
        rintro e w2 ⟨ho, hk2⟩
        have hkk := HK.out
        cases hrp : Ber.readP g (d + 1) (l.drop (i + k)) with
        | bad => rw [hrp] at hkk; exact absurd hkk.symm HNB.out
        | err =>
          rw [hrp] at hkk ho
          obtain ⟨m, ev, rfl, hev⟩ := ho
          have hkw := HW.out.keep.trans (hk2.mono HW.out.keep.size)
          have HKW := Lib.hid hkw
          have hev2 := hev.mono HW.out.keep.size
          have hE2 := HE.out.keep hkw (by omega) hN
          obtain ⟨a, rfl⟩ := hev.iface
          have HEV := Lib.hid hev2
          have HE2 := Lib.hid hE2
          have HKK := Lib.hid hkk
          clear hkw hev hev2 hE2 hkk hk2 hrp
          go_wp2_with fail
          refine (uneof_any N w.heap.size w2 HE2.out _ HEV.out).mono ?_
          rintro e w3 ⟨ev, rfl, hev3, rfl⟩
          obtain ⟨a3, rfl⟩ := hev3.iface
          have HEV3 := Lib.hid hev3
          clear hev3
          go_wp2
          go_ret3
          rw [← HKK.out]
          exact ⟨⟨_, _, rfl, HEV3.out⟩, HKW.out⟩
        | ok p rest' =>
          rw [hrp] at hkk ho
          obtain ⟨q, k', rfl, hqB, hst, hrd, hrest'⟩ := ho
          have hfits := Ber.readP_fits _ _ _ _ _ hrp
          have hpos2 := hrd.pos
          have hcons : (l.drop (i + k)).length - rest'.length = k' := by rw [hrest', List.length_drop, List.length_drop]; omega
          have hk'2 : 2 ≤ k' := by
            obtain ⟨m, hm1, hm2, hm3⟩ := hfits.drop
            have h9 := congrArg List.length hm1
            rw [List.length_drop] at h9
            rw [← hcons]
            omega
          have hsize : (Ber.bodies items).length + (Ber.enc p).length ≤ 20 * (k + k') := by
            have h1 := hfits.size
            have h2 := HW.out.size
            rw [hrest', List.length_drop, List.length_drop] at h1
            omega
          simp only [] at hkk
          rw [hcons, if_neg (by omega)] at hkk
          obtain ⟨hway2, hkids2⟩ := HW.out.child hRlt (by omega) (by omega) hk2 hrd hst
          have htree := hst.now
          have heoc := eoc_tree w2 q p htree
          have hrest2 : rest' = l.drop (i + (k + k')) := by rw [hrest', Nat.add_assoc]
          have t3 : decide ((got : Int) + (k' : Int) > 2147483647) = false := by simp; omega
          have hgk9 : got + k' < 1000000000 ∧ k + k' < 1000000000 := by omega
          obtain ⟨hgk1, hgk2⟩ := hgk9
          have HFIT := Lib.hid hfits
          have HSIZE := Lib.hid hsize
          have HKK := Lib.hid hkk
          have HWAY2 := Lib.hid hway2
          have HKIDS2 := Lib.hid hkids2
          have HTREE := Lib.hid htree
          have HEOC := Lib.hid heoc
          have HREST2 := Lib.hid hrest2
          clear hfits hsize hkk hway2 hkids2 htree heoc hrest2 hst hrd hk2 hrest' hrp hcons
          go_wp2_with fail
          refine HEOC.out.mono ?_
          rintro e w3 ⟨rfl, rfl⟩
          have hkk := HKK.out
          by_cases he : Ber.isEOC p = true
          · rw [if_pos he] at hkk
            rw [he]
            rw [if_neg (by simp)] at hkk
            have HKK2 := Lib.hid hkk
            clear hkk
            go_wp2_with fail
            refine (new_keep _ (by decide) (by decide) N w.heap.size _ HWAY2.out.keep.size).mono ?_
            rintro e w3 ⟨a, rfl, he2, hb⟩
            have HEE := Lib.hid he2
            have HB := Lib.hid (HWAY2.out.keep.trans (Keep.ofBelow (hb.mono HWAY2.out.keep.size)))
            clear he2 hb
            go_wp2
            go_ret3
            rw [← HKK2.out]
            exact ⟨⟨_, _, rfl, HEE.out⟩, HB.out⟩
          · rw [if_neg he] at hkk
            have hef : Ber.isEOC p = false := by simpa using he
            rw [hef]
            have hnext : Calls Tryz.prog 51 #[.pointer (some ⟨w1.heap.size + 1, 0, none⟩), .pointer (some ⟨q, 0, none⟩)] w2 fun e w' => (∃ v, e = .returned v) ∧ ∃ row' C' cap',
                Way R A l i c t w (w1.heap.size + 1) (w1.heap.size + 1 + 1) (k + k') (got + k') row' C' cap' (xs ++ [.pointer (some ⟨q, 0, none⟩)]) (items ++ [p]) w' := by
              have hw2 := HWAY2.out
              obtain ⟨pc, pb, pt, pd, pi⟩ := p
              have htr := HTREE.out
              unfold Tree at htr
              obtain ⟨D2, row2, C2, cap2, bv2, xs2, hc2, ht2, hp2, hb2, -, -, -, -, -⟩ := htr
              have hel := HSIZE.out
              have hbl : (Ber.body (.mk pc pb pt pd pi)).length ≤ (Ber.enc (.mk pc pb pt pd pi)).length := by simp only [Ber.enc, List.length_append]; omega
              refine (append_any w2 (w1.heap.size + 1) (w1.heap.size + 1 + 1) C cap q D2 row row2 ((c * 64 : Nat) : Int) 32 t .nilIface (.slice none 0 0) (.string ⟨#[]⟩) xs (Ber.bodies items) (Ber.body (.mk pc pb pt pd pi)) pc pt pb _ _ _ _ hc2 ht2 hw2.hP hw2.hC (by have := HW.out.few; omega) hw2.hD (by omega) (by omega) hp2 hb2).mono ?_
              rintro e w' ⟨he, row', C', cap', h1, h2, h3, h4, h5, h6⟩
              exact ⟨he, row', C', cap', hw2.next hRlt hAlt (by omega) (by omega) HKIDS2.out h1 h2 h3 h4 h5 h6 HSIZE.out (by have := HW.out.few; omega)⟩
            have HNEXT := Lib.hid hnext
            have HKK2 := Lib.hid hkk
            clear hnext hkk
            go_wp2_with fail
            refine HNEXT.out.mono ?_
            rintro e w4 ⟨⟨v, rfl⟩, row', C', cap', hw4⟩
            have HW4 := Lib.hid hw4
            clear hw4
            go_wp2_with fail
            go_roundg g
            case measure => exact Nat.lt_succ_self _
            case rel => exact ⟨k + k', got + k', row', C', cap', _, _, by go_num, by go_num, by omega, HW4.out, by rw [← HREST2.out]; exact HKK2.out⟩
end Go.Proofs.YtdfehaonngccjaaGreatDoor

/- readPacket of constructed packets. -/
namespace Go.Proofs.YtdfehaonngccjaaGreatDoor
open Go Go.RowKit

set_option maxRecDepth 100000 in
set_option maxHeartbeats 16000000 in
theorem pack_built_none (N R A : Nat) (l : List UInt8) (hN : N ≤ R) (f : Nat) (ih : ∀ g, g < f → ReadHolds N R A l g) (w : World) (i d c t : Nat) (rest : List UInt8) (r : Ber.Res) (h : Rd w R A l i) (hE : Env N w) (hd : d < 1000)
    (hh : Ber.header (l.drop i) = some (c, true, t, none, rest)) (hr : Ber.kids f d c t none 0 [] rest = r) (hnb : r ≠ .bad) :
    Calls Tryz.prog 40 #[.iface 60 (.pointer (some ⟨R, 0, none⟩)), .int .i64 d] w fun e w' => PackOut N w.heap.size R A l i r e w' ∧ Keep w.heap.size R w w' := by
  have hhd := head_any N w R A l i h hE hN
  have hm2 := make2
  have hdi : decide ((d : Int) ≥ 1000) = false := by simp; omega
  obtain ⟨hc4, ht63, -, -⟩ := Ber.header_bound hh
  have hRlt := h.lt
  have hAlt := h.ltA (by rcases Nat.eq_zero_or_pos l.length with h0 | h0; · rw [List.length_eq_zero_iff.1 h0] at hh; simp [Ber.header, Ber.ident] at hh
                         · exact h0)
  have HHD := Lib.hid hhd
  have HH := Lib.hid hh
  have HE := Lib.hid hE
  have HKR := Lib.hid hr
  have HNB := Lib.hid hnb
  have HIH := Lib.hid ih
  clear hhd hh h hE hr hnb ih
  go_enter Tryz.func40, Tryz.ntmps40
  go_wp2_with fail
  refine HHD.out.mono ?_
  rintro e w1 ⟨ho, hk⟩
  unfold HeadOut at ho
  rw [HH.out] at ho
  obtain ⟨k, rfl, hr1, hrest⟩ := ho
  simp only [tagValue, lenInt]
  have hsz1 := hk.size
  obtain ⟨x, hx⟩ : ∃ x : Nat, x = c * 64 := ⟨_, rfl⟩
  rw [← hx]
  have HX := Lib.hid hx
  have hway : Way R A l i c t w (w1.heap.size + 1) (w1.heap.size + 1 + 1) k 0 none (w1.heap.size + 1 + 1 + 1) 2 [] [] (startW w1 x 32 t) := by
    have hk0 := hk.trans (Keep.ofBelow ((startW_below w1 x 32 t).mono hsz1))
    refine ⟨Nat.zero_le _, (((hr1.alloc _).alloc _).alloc _).alloc _, hk0, by rw [← hx]; exact startW_P w1 x 32 t, startW_D w1 x 32 t, startW_C w1 x 32 t, by omega, (fun g e => by cases e), fun w2 _ => by unfold Kids; rfl, by simp [Ber.bodies], by simp⟩
  have hkr0 : Ber.kids f d c t none 0 [] (l.drop (i + k)) = r := by rw [← hrest]; exact HKR.out
  have HWAY := Lib.hid hway
  have HKR0 := Lib.hid hkr0
  clear hr1 hrest hk hx hway hkr0
  go_wp2_with fail
  go_loopg [9, 12] f (fun kq v9 v12 wr => LoopInv R A l i d c t none f r w (w1.heap.size + 1) (w1.heap.size + 1 + 1) kq v9 v12 wr)
  case atStart => exact ⟨k, 0, none, _, _, _, _, rfl, rfl, Nat.le_refl _, HWAY.out, HKR0.out⟩
  case round =>
    obtain ⟨k, got, row, C, cap, xs, items, rfl, rfl, hkq, hW, hK⟩ := hrel
    obtain ⟨g, rfl⟩ : ∃ g, gk = g + 1 := by
      cases gk with
      | zero => exact absurd (by rw [← hK]; simp [Ber.kids]) HNB.out
      | succ g => exact ⟨g, rfl⟩
    have hpos := hW.rd.pos
    have hlen9 := hW.rd.len
    have hle := hW.le
    have hP0 := hW.hP
    simp only [Ber.kids] at hK
    rw [if_neg (by simp), if_neg (by simp)] at hK
    have hEr := HE.out.keep hW.keep (by omega) hN
    have hcall : Ber.readP g (d + 1) (l.drop (i + k)) ≠ .bad := by
      intro hbad
      rw [hbad] at hK
      exact HNB.out hK.symm
    have hcl := HIH.out g (by omega) _ (i + k) (d + 1) hW.rd hEr (by omega) hcall
    have hcl2 : Calls Tryz.prog 40 #[.iface 60 (.pointer (some ⟨R, 0, none⟩)), .int .i64 ((d : Int) + 1)] wr fun e w' => PackOut N wr.heap.size R A l (i + k) (Ber.readP g (d + 1) (l.drop (i + k))) e w' ∧ Keep wr.heap.size R wr w' := hcl
    have HCL := Lib.hid hcl2
    have HW := Lib.hid hW
    have HK := Lib.hid hK
    clear hW hK hcl hcl2 hcall hP0 hEr
    go_wp2_with fail
    refine HCL.out.mono ?_
    rintro e w2 ⟨ho, hk2⟩
    have hkk := HK.out
    cases hrp : Ber.readP g (d + 1) (l.drop (i + k)) with
    | bad => rw [hrp] at hkk; exact absurd hkk.symm HNB.out
    | err =>
      rw [hrp] at hkk ho
      obtain ⟨m, ev, rfl, hev⟩ := ho
      have hkw := HW.out.keep.trans (hk2.mono HW.out.keep.size)
      have HKW := Lib.hid hkw
      have hev2 := hev.mono HW.out.keep.size
      have hE2 := HE.out.keep hkw (by omega) hN
      obtain ⟨a, rfl⟩ := hev.iface
      have HEV := Lib.hid hev2
      have HE2 := Lib.hid hE2
      have HKK := Lib.hid hkk
      clear hkw hev hev2 hE2 hkk hk2 hrp
      go_wp2_with fail
      refine (uneof_any N w.heap.size w2 HE2.out _ HEV.out).mono ?_
      rintro e w3 ⟨ev, rfl, hev3, rfl⟩
      obtain ⟨a3, rfl⟩ := hev3.iface
      have HEV3 := Lib.hid hev3
      clear hev3
      go_wp2
      go_ret3
      rw [← HKK.out]
      exact ⟨⟨_, _, rfl, HEV3.out⟩, HKW.out⟩
    | ok p rest' =>
      rw [hrp] at hkk ho
      obtain ⟨q, k', rfl, hqB, hst, hrd, hrest'⟩ := ho
      have hfits := Ber.readP_fits _ _ _ _ _ hrp
      have hpos2 := hrd.pos
      have hcons : (l.drop (i + k)).length - rest'.length = k' := by rw [hrest', List.length_drop, List.length_drop]; omega
      have hk'2 : 2 ≤ k' := by
        obtain ⟨m, hm1, hm2, hm3⟩ := hfits.drop
        have h9 := congrArg List.length hm1
        rw [List.length_drop] at h9
        rw [← hcons]
        omega
      have hsize : (Ber.bodies items).length + (Ber.enc p).length ≤ 20 * (k + k') := by
        have h1 := hfits.size
        have h2 := HW.out.size
        rw [hrest', List.length_drop, List.length_drop] at h1
        omega
      simp only [] at hkk
      rw [hcons, if_neg (by omega)] at hkk
      obtain ⟨hway2, hkids2⟩ := HW.out.child hRlt (by omega) (by omega) hk2 hrd hst
      have htree := hst.now
      have heoc := eoc_tree w2 q p htree
      have hrest2 : rest' = l.drop (i + (k + k')) := by rw [hrest', Nat.add_assoc]
      have t3 : decide ((got : Int) + (k' : Int) > 2147483647) = false := by simp; omega
      have hgk9 : got + k' < 1000000000 ∧ k + k' < 1000000000 := by omega
      obtain ⟨hgk1, hgk2⟩ := hgk9
      have HFIT := Lib.hid hfits
      have HSIZE := Lib.hid hsize
      have HKK := Lib.hid hkk
      have HWAY2 := Lib.hid hway2
      have HKIDS2 := Lib.hid hkids2
      have HTREE := Lib.hid htree
      have HEOC := Lib.hid heoc
      have HREST2 := Lib.hid hrest2
      clear hfits hsize hkk hway2 hkids2 htree heoc hrest2 hst hrd hk2 hrest' hrp hcons
      go_wp2_with fail
      refine HEOC.out.mono ?_
      rintro e w3 ⟨rfl, rfl⟩
      have hkk := HKK.out
      by_cases he : Ber.isEOC p = true
      · rw [if_pos he] at hkk
        rw [he]
        rw [if_pos trivial] at hkk
        have hE := HWAY2.out.done (N := N) hc4 ht63 (by omega) (by omega)
        rw [← HREST2.out, hkk] at hE
        have HE1 := Lib.hid hE
        clear hE hkk
        go_wp2
        go_ret3
        exact HE1.out
      · rw [if_neg he] at hkk
        have hef : Ber.isEOC p = false := by simpa using he
        rw [hef]
        have hnext : Calls Tryz.prog 51 #[.pointer (some ⟨w1.heap.size + 1, 0, none⟩), .pointer (some ⟨q, 0, none⟩)] w2 fun e w' => (∃ v, e = .returned v) ∧ ∃ row' C' cap',
            Way R A l i c t w (w1.heap.size + 1) (w1.heap.size + 1 + 1) (k + k') (got + k') row' C' cap' (xs ++ [.pointer (some ⟨q, 0, none⟩)]) (items ++ [p]) w' := by
          have hw2 := HWAY2.out
          obtain ⟨pc, pb, pt, pd, pi⟩ := p
          have htr := HTREE.out
          unfold Tree at htr
          obtain ⟨D2, row2, C2, cap2, bv2, xs2, hc2, ht2, hp2, hb2, -, -, -, -, -⟩ := htr
          have hel := HSIZE.out
          have hbl : (Ber.body (.mk pc pb pt pd pi)).length ≤ (Ber.enc (.mk pc pb pt pd pi)).length := by simp only [Ber.enc, List.length_append]; omega
          refine (append_any w2 (w1.heap.size + 1) (w1.heap.size + 1 + 1) C cap q D2 row row2 ((c * 64 : Nat) : Int) 32 t .nilIface (.slice none 0 0) (.string ⟨#[]⟩) xs (Ber.bodies items) (Ber.body (.mk pc pb pt pd pi)) pc pt pb _ _ _ _ hc2 ht2 hw2.hP hw2.hC (by have := HW.out.few; omega) hw2.hD (by omega) (by omega) hp2 hb2).mono ?_
          rintro e w' ⟨he, row', C', cap', h1, h2, h3, h4, h5, h6⟩
          exact ⟨he, row', C', cap', hw2.next hRlt hAlt (by omega) (by omega) HKIDS2.out h1 h2 h3 h4 h5 h6 HSIZE.out (by have := HW.out.few; omega)⟩
        have HNEXT := Lib.hid hnext
        have HKK2 := Lib.hid hkk
        clear hnext hkk
        go_wp2_with fail
        refine HNEXT.out.mono ?_
        rintro e w4 ⟨⟨v, rfl⟩, row', C', cap', hw4⟩
        have HW4 := Lib.hid hw4
        clear hw4
        go_wp2_with fail
        go_roundg g
        case measure => exact Nat.lt_succ_self _
        case rel => exact ⟨k + k', got + k', row', C', cap', _, _, by go_num, by go_num, by omega, HW4.out, by rw [← HREST2.out]; exact HKK2.out⟩
end Go.Proofs.YtdfehaonngccjaaGreatDoor

/- readPacket answers as the plain function; ReadPacket. -/
namespace Go.Proofs.YtdfehaonngccjaaGreatDoor
open Go Go.RowKit

theorem header_prim {s : List UInt8} {c t : Nat} {r : List UInt8} (h : Ber.header s = some (c, false, t, none, r)) : False := by
  simp only [Ber.header] at h
  split at h
  · cases h
  · split at h
    · cases h
    · rename_i hh
      split at h
      · cases h
      · rename_i hne
        simp only [Option.some.injEq, Prod.mk.injEq] at h
        exact hne ⟨h.2.2.2.1, h.2.1⟩

theorem read_holds (N R A : Nat) (l : List UInt8) (hN : N ≤ R) (f : Nat) : ReadHolds N R A l f := by
  induction f using Nat.strongRecOn with
  | _ f ih =>
  intro w i d h hE hd hnb
  cases f with
  | zero => exact absurd (by simp [Ber.readP]) hnb
  | succ f =>
    have ih' : ∀ g, g < f → ReadHolds N R A l g := fun g hg => ih g (by omega)
    simp only [Ber.readP] at hnb ⊢
    by_cases hd1 : 1000 ≤ d
    · rw [if_pos hd1]
      exact pack_deep N w R A l i d hd1 hd
    · rw [if_neg hd1] at hnb ⊢
      have hd2 : d < 1000 := by omega
      cases hh : Ber.header (l.drop i) with
      | none => exact pack_head N w R A l i h hE hN d hd2 hh
      | some x =>
        obtain ⟨c, b, t, len, rest⟩ := x
        rw [hh] at hnb
        cases len with
        | none =>
          cases b with
          | false => exact absurd (header_prim hh) id
          | true => exact pack_built_none N R A l hN f ih' w i d c t rest _ h hE hd2 hh rfl hnb
        | some n =>
          cases b with
          | true =>
            simp only [] at hnb ⊢
            by_cases hn : 2147483647 < n
            · rw [if_pos hn]; exact pack_long N w R A l i h hE hN d hd2 c t n true rest hh hn
            · rw [if_neg hn] at hnb ⊢
              exact pack_built_some N R A l hN f ih' w i d c t n (by omega) rest _ h hE hd2 hh rfl hnb
          | false =>
            simp only [] at hnb ⊢
            by_cases hn : 2147483647 < n
            · rw [if_pos hn]; exact pack_long N w R A l i h hE hN d hd2 c t n false rest hh hn
            · rw [if_neg hn] at hnb ⊢
              simp only [Bool.false_eq_true, if_false] at hnb ⊢
              unfold Ber.prim at hnb ⊢
              by_cases h0 : n = 0
              · subst h0
                rw [if_pos rfl] at hnb ⊢
                by_cases hk : Ber.known c t = true
                · rw [if_pos hk]; exact pack_zero N w R A l i h hE hN d hd2 c t rest hh hk
                · rw [if_neg hk] at hnb; exact absurd rfl hnb
              · rw [if_neg h0] at hnb ⊢
                by_cases h4 : 480 < n ∧ 480 < rest.length
                · rw [if_pos h4] at hnb; exact absurd rfl hnb
                · rw [if_neg h4] at hnb ⊢
                  by_cases hs : rest.length < n
                  · rw [if_pos hs]
                    exact pack_short N w R A l i h hE hN d hd2 c t n rest hh (by omega) (by omega) hs
                  · rw [if_neg hs] at hnb ⊢
                    by_cases hk : Ber.known c t = true
                    · rw [if_pos hk]; exact pack_some N w R A l i h hE hN d hd2 c t n rest hh hk (by omega) (by omega) (by omega)
                    · rw [if_neg hk] at hnb; exact absurd rfl hnb

/-- What ReadPacket comes to. -/
def ReadOut (N B R A : Nat) (l : List UInt8) (r : Ber.Res) (e : Ending) (w' : World) : Prop :=
  match r with
  | .bad => True
  | .err => ∃ ev, e = .returned (.tuple #[.pointer none, ev]) ∧ ErrAt N B w' ev
  | .ok p rest => ∃ q k : Nat, e = .returned (.tuple #[.pointer (some ⟨q, 0, none⟩), .nilIface]) ∧ B ≤ q ∧ TreeAll B w' q p ∧ Rd w' R A l k ∧ rest = l.drop k
where
  TreeAll (B : Nat) (w' : World) (q : Nat) (p : Ber.Pk) : Prop := Stable B w' (fun _ => False) (fun w2 => Tree w2 q p)

set_option maxRecDepth 100000 in
set_option maxHeartbeats 4000000 in
theorem read_packet (N : Nat) (w : World) (R A : Nat) (l : List UInt8) (h : Rd w R A l 0) (hE : Env N w) (hN : N ≤ R) (f : Nat) (r : Ber.Res) (hr : Ber.readP f 0 l = r) (hnb : r ≠ .bad) :
    Calls Tryz.prog 23 #[.iface 60 (.pointer (some ⟨R, 0, none⟩))] w fun e w' => ReadOut N w.heap.size R A l r e w' ∧ Keep w.heap.size R w w' := by
  have hc : Calls Tryz.prog 40 #[.iface 60 (.pointer (some ⟨R, 0, none⟩)), .int .i64 0] w fun e w' => PackOut N w.heap.size R A l 0 r e w' ∧ Keep w.heap.size R w w' := by
    have := read_holds N R A l hN f w 0 0 h hE (by omega) (by rw [List.drop_zero, hr]; exact hnb)
    rw [List.drop_zero, hr] at this
    exact this
  have HC := Lib.hid hc
  have HNB := Lib.hid hnb
  clear hc hr hnb h hE
  cases r with
  | bad => exact absurd rfl HNB.out
  | err =>
    go_enter Tryz.func23, Tryz.ntmps23
    go_wp2_with fail
    refine HC.out.mono ?_
    rintro e w1 ⟨ho, hk⟩
    obtain ⟨n, ev, rfl, hev⟩ := ho
    obtain ⟨a, rfl⟩ := hev.iface
    have HEV := Lib.hid hev
    have HK := Lib.hid hk
    clear hev hk
    go_wp2
    go_ret2
    exact ⟨⟨_, rfl, HEV.out⟩, HK.out⟩
  | ok p rest =>
    go_enter Tryz.func23, Tryz.ntmps23
    go_wp2_with fail
    refine HC.out.mono ?_
    rintro e w1 ⟨ho, hk⟩
    obtain ⟨q, k, rfl, hq, hst, hrd, hrest⟩ := ho
    have HST := Lib.hid hst
    have HK := Lib.hid hk
    have HRD := Lib.hid hrd
    have HREST := Lib.hid hrest
    clear hst hk hrd hrest
    go_wp2
    go_ret2
    refine ⟨⟨q, 0 + k, rfl, hq, HST.out, HRD.out, HREST.out⟩, HK.out⟩
end Go.Proofs.YtdfehaonngccjaaGreatDoor

