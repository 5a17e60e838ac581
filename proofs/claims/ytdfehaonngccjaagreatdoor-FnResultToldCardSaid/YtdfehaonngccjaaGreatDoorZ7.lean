/- bytes.Buffer's Write: the walks. -/
import Derived.Test.YtdfehaonngccjaaGreatDoorZ6
import Derived.Lib.BufferSrc
import Derived.Laws.IdiomStrings
import Derived.OwnWalk
import Derived.Maps.AppendAt
import Derived.Deep.RegionWith
import Derived.BigRegion
import Derived.Laws.AppendOwn
set_option linter.unusedVariables false
set_option linter.unusedSimpArgs false
namespace Go.Proofs.YtdfehaonngccjaaGreatDoor
open Go Go.RowKit

theorem byte_size : (Tryz.prog.info? 5).map (·.size) = some 1 := by kernel_rfl

/-- The tail of every way: the row has room and the new bytes go to it. -/
theorem wrote_of {w W1 : World} {D g l n cap : Nat} {row : Option Nat} {bs cs : List Value} {cur : Array Value} {lr : Int}
    (hD : W1.heap[D]? = some (.cells #[.slice (some ⟨g, 0, none⟩) (l + n) cap, .int .i64 0, .int .i8 lr] 122 (0, 0))) (hg : W1.heap[g]? = some (.cells cur 5 (0, 0))) (hgD : g ≠ D)
    (hl : bs.length = l) (hn : cs.length = n) (hcs : cur.size = cap) (hlc : l + n ≤ cap) (hcm : cap ≤ maxLen) (htk : cur.toList.take l = bs) (hrow : some g = row ∨ w.heap.size ≤ g)
    (hf : Only (fun k => k = D ∨ row = some k) w W1) :
    Wrote D row (bs ++ cs) w (W1.setRow g (cur.toList.take l ++ cs ++ cur.toList.drop (l + cs.length)).toArray) := by
  refine ⟨some g, ⟨hgD, lr, cap, _, ?_, setRow_heap W1 g cur _ 5 _ hg, ?_, ?_, hcm, ?_⟩, ?_, hf.setRow ?_ _⟩
  · rw [setRow_other W1 g D _ (fun e => hgD e.symm), hD, List.length_append, hl, hn]
  · simp; omega
  · simp; omega
  · rw [htk]
    exact List.take_left' rfl
  · rcases hrow with h | h
    · exact Or.inl h
    · exact Or.inr ⟨g, rfl, h⟩
  · rcases hrow with h | h
    · exact Or.inr (Or.inr h.symm)
    · exact Or.inl h

set_option maxHeartbeats 1000000 in
set_option maxRecDepth 100000 in
/-- Write where the row has room. -/
theorem write_room (w : World) (D g : Nat) (bs cs : List Value) (cap : Nat) (lr : Int) (cur : Array Value) (a : Addr) (n c : Nat) (hgD : g ≠ D)
    (hD : w.heap[D]? = some (.cells #[.slice (some ⟨g, 0, none⟩) bs.length cap, .int .i64 0, .int .i8 lr] 122 (0, 0))) (hg : w.heap[g]? = some (.cells cur 5 (0, 0)))
    (hcs : cur.size = cap) (hcm : cap ≤ maxLen) (htk : cur.toList.take bs.length = bs) (hroom : bs.length + n ≤ cap) (hn : cs.length = n) (hn1 : 1 ≤ n)
    (hab : a.block ≠ D) (hsrc : ∀ j v, cs[j]? = some v → w.cell? (a.add j) = some v) (h1c : ∀ v ∈ cs, v.oneCell' = true) :
    Calls Tryz.prog 54 #[.pointer (some ⟨D, 0, none⟩), .slice (some a) n c] w fun e w' => e = .returned (.tuple #[.int .i64 n, .nilIface]) ∧ Wrote D (some g) (bs ++ cs) w w' := by
  have c2 : w.cell? ⟨D, 2, none⟩ = some (.int .i8 lr) := blockCell hD 2
  have f2 := blockFrozen hD 2
  have hD1 : (w.setCell ⟨D, 2, none⟩ (.int .i8 0)).heap[D]? = some (.cells #[.slice (some ⟨g, 0, none⟩) bs.length cap, .int .i64 0, .int .i8 0] 122 (0, 0)) := by simpa using blockSet hD 2 (.int .i8 0)
  have d0 : (w.setCell ⟨D, 2, none⟩ (.int .i8 0)).cell? ⟨D, 0, none⟩ = some (.slice (some ⟨g, 0, none⟩) bs.length cap) := blockCell hD1 0
  have g0 := blockFrozen hD1 0
  have hD2 : ((w.setCell ⟨D, 2, none⟩ (.int .i8 0)).setCell ⟨D, 0, none⟩ (.slice (some ⟨g, 0, none⟩) (bs.length + n) cap)).heap[D]? = some (.cells #[.slice (some ⟨g, 0, none⟩) (bs.length + n) cap, .int .i64 0, .int .i8 0] 122 (0, 0)) := by simpa using blockSet hD1 0 (.slice (some ⟨g, 0, none⟩) (bs.length + n) cap)
  have e0 : ((w.setCell ⟨D, 2, none⟩ (.int .i8 0)).setCell ⟨D, 0, none⟩ (.slice (some ⟨g, 0, none⟩) (bs.length + n) cap)).cell? ⟨D, 0, none⟩ = some (.slice (some ⟨g, 0, none⟩) (bs.length + n) cap) := blockCell hD2 0
  have hne : ¬ cap = bs.length := by omega
  have hle : bs.length ≤ bs.length + n := Nat.le_add_right _ _
  have hg1 : ((w.setCell ⟨D, 2, none⟩ (.int .i8 0)).setCell ⟨D, 0, none⟩ (.slice (some ⟨g, 0, none⟩) (bs.length + n) cap)).heap[g]? = some (.cells cur 5 (0, 0)) := by
    rw [Below.heap_setCell _ _ _ _ (by show g ≠ D; exact hgD), Below.heap_setCell _ _ _ _ (by show g ≠ D; exact hgD)]; exact hg
  have hsrc1 : ∀ j v, cs[j]? = some v → ((w.setCell ⟨D, 2, none⟩ (.int .i8 0)).setCell ⟨D, 0, none⟩ (.slice (some ⟨g, 0, none⟩) (bs.length + n) cap)).cell? (a.add j) = some v := fun j v hj =>
    (World.cell?_of_block (w := w) (by rw [Below.heap_setCell _ _ _ _ (by rw [Lib.block_add]; exact hab), Below.heap_setCell _ _ _ _ (by rw [Lib.block_add]; exact hab)])).trans (hsrc j v hj)
  have hcp := run_copy_row (P := Tryz.prog) _ 25 25 3 5 g bs.length n (cap - bs.length) a n c cur 5 cs Tryz.underlying25 byte_size hg1 (by rw [hn]; exact (Nat.min_self n).symm) hsrc1 (by rw [hn]; omega) h1c
  rw [hn] at hcp
  have hcm' := hcm
  unfold maxLen at hcm'
  have hW := wrote_of (w := w) (row := some g) (cs := cs) hD2 hg1 hgD rfl hn hcs hroom hcm htk (Or.inl rfl) (((Only.refl _ w).setCell (Or.inr (Or.inl rfl)) _).setCell (Or.inr (Or.inl rfl)) _)
  rw [hn, List.append_assoc] at hW
  have HW := Lib.hid hW
  clear hW hD hg hD1 hD2 hg1 htk hsrc hsrc1 h1c
  go_enter Tryz.func54, Tryz.ntmps54
  go_wp2_with fail
  refine (Tryz.Buffer_tryGrow_room D _ _ cap n _ d0 g0 (by omega) hcm (by omega)).mono ?_
  rintro e w2 ⟨rfl, rfl⟩
  go_wp2_with fail
  go_ret2
  exact ⟨rfl, HW.out⟩

set_option maxHeartbeats 1000000 in
set_option maxRecDepth 100000 in
/-- Write where there is no room: grow's answer given. -/
theorem write_grow (w : World) (D : Nat) (row : Option Nat) (ao : Option Addr) (bs cs : List Value) (cap : Nat) (lr : Int) (a : Addr) (n c : Nat) (hlc : bs.length ≤ cap)
    (hD : w.heap[D]? = some (.cells #[.slice ao bs.length cap, .int .i64 0, .int .i8 lr] 122 (0, 0))) (hcm : cap ≤ maxLen) (hno : cap - bs.length < n) (hn : cs.length = n)
    (hgrow : Calls Tryz.prog 69 #[.pointer (some ⟨D, 0, none⟩), .int .i64 n] (w.setCell ⟨D, 2, none⟩ (.int .i8 0)) fun e w' => e = .returned (.int .i64 bs.length) ∧ Grew D bs.length n 0 bs (w.setCell ⟨D, 2, none⟩ (.int .i8 0)) w')
    (hab : a.block ≠ D) (hsrc : ∀ j v, cs[j]? = some v → w.cell? (a.add j) = some v) (h1c : ∀ v ∈ cs, v.oneCell' = true) (hlim : bs.length + n ≤ 140737488355328) :
    Calls Tryz.prog 54 #[.pointer (some ⟨D, 0, none⟩), .slice (some a) n c] w fun e w' => e = .returned (.tuple #[.int .i64 n, .nilIface]) ∧ Wrote D row (bs ++ cs) w w' := by
  have c2 : w.cell? ⟨D, 2, none⟩ = some (.int .i8 lr) := blockCell hD 2
  have f2 := blockFrozen hD 2
  have hDlt := blockLt hD
  have hD1 : (w.setCell ⟨D, 2, none⟩ (.int .i8 0)).heap[D]? = some (.cells #[.slice ao bs.length cap, .int .i64 0, .int .i8 0] 122 (0, 0)) := by simpa using blockSet hD 2 (.int .i8 0)
  have d0 : (w.setCell ⟨D, 2, none⟩ (.int .i8 0)).cell? ⟨D, 0, none⟩ = some (.slice ao bs.length cap) := blockCell hD1 0
  have hk0 : Only (fun k => k = D ∨ row = some k) w (w.setCell ⟨D, 2, none⟩ (.int .i8 0)) := (Only.refl _ w).setCell (Or.inr (Or.inl rfl)) _
  have hsz : (w.setCell ⟨D, 2, none⟩ (.int .i8 0)).heap.size = w.heap.size := by simp [World.setCell]
  have hsrc1 : ∀ j v, cs[j]? = some v → (w.setCell ⟨D, 2, none⟩ (.int .i8 0)).cell? (a.add j) = some v := fun j v hj =>
    (World.cell?_of_block (w := w) (by rw [Below.heap_setCell _ _ _ _ (by rw [Lib.block_add]; exact hab)])).trans (hsrc j v hj)
  have HG := Lib.hid hgrow
  have HK := Lib.hid hk0
  have HSZ := Lib.hid hsz
  have HSRC := Lib.hid hsrc1
  have HL := Lib.hid hlim
  clear hgrow hk0 hsz hD hD1 hsrc hsrc1 hlim
  go_enter Tryz.func54, Tryz.ntmps54
  go_wp2_with fail
  refine (Tryz.Buffer_tryGrow_none D _ _ cap n _ d0 hlc hcm hno).mono ?_
  rintro e w2 ⟨rfl, rfl⟩
  go_wp2_with fail
  refine HG.out.mono ?_
  rintro e W1 ⟨rfl, G, cap2, cells, hG, hDG, hGG, hcs2, hroom2, hcm2, htk2, hk2⟩
  have hG' : w.heap.size ≤ G := by rw [HSZ.out] at hG; exact hG
  have hGD : G ≠ D := by omega
  have k0 : W1.cell? ⟨D, 0, none⟩ = some (.slice (some ⟨G, 0, none⟩) (bs.length + n) cap2) := blockCell hDG 0
  have hne : ¬ cap2 = bs.length := by omega
  have hle : bs.length ≤ bs.length + n := Nat.le_add_right _ _
  have hle2 : bs.length ≤ cap2 := by omega
  have hsrc2 : ∀ j v, cs[j]? = some v → W1.cell? (a.add j) = some v := fun j v hj =>
    (hk2.cell (p := a.add j) (World.block_lt_of_cell? _ _ (HSRC.out j v hj)) (by rw [Lib.block_add]; exact hab)).trans (HSRC.out j v hj)
  have hcp := run_copy_row (P := Tryz.prog) _ 25 25 3 5 G bs.length n (cap2 - bs.length) a n c cells 5 cs Tryz.underlying25 byte_size hGG (by rw [hn]; exact (Nat.min_self n).symm) hsrc2 (by rw [hn]; omega) h1c
  rw [hn] at hcp
  have hcm' := hcm2
  unfold maxLen at hcm'
  have hW := wrote_of (w := w) (row := row) (cs := cs) hDG hGG hGD rfl hn hcs2 hroom2 hcm2 htk2 (Or.inr hG') (HK.out.trans2 (Only.ofKeep hk2) (fun i _ e => Or.inl e))
  rw [hn, List.append_assoc] at hW
  have HW := Lib.hid hW
  have HCP := Lib.hid hcm2
  clear hW hDG hGG htk2 hsrc2 hcm2
  go_wp2_with fail
  go_ret2
  exact ⟨rfl, HW.out⟩

set_option maxHeartbeats 1000000 in
set_option maxRecDepth 100000 in
/-- Write of nothing. -/
theorem write_zero (w : World) (D : Nat) (row : Option Nat) (bs : List Value) (h : BufAt w D row bs) (ao : Option Addr) (c : Nat) :
    Calls Tryz.prog 54 #[.pointer (some ⟨D, 0, none⟩), .slice ao 0 c] w fun e w' => e = .returned (.tuple #[.int .i64 (0 : Nat), .nilIface]) ∧ Wrote D row (bs ++ []) w w' := by
  obtain ⟨bo, cap, lr, hD, hlc, hcm, hback, hbo⟩ : ∃ bo cap lr, w.heap[D]? = some (.cells #[.slice bo bs.length cap, .int .i64 0, .int .i8 lr] 122 (0, 0)) ∧ bs.length ≤ cap ∧ cap ≤ maxLen ∧
      (∀ w' lr', w'.heap[D]? = some (.cells #[.slice bo bs.length cap, .int .i64 0, .int .i8 lr'] 122 (0, 0)) → (∀ k, k ≠ D → w'.heap[k]? = w.heap[k]?) → BufAt w' D row bs) ∧ (bo = none ∧ cap = 0 ∨ ∃ g, bo = some ⟨g, 0, none⟩) := by
    cases row with
    | none =>
      obtain ⟨rfl, lr, hD⟩ := h
      exact ⟨none, 0, lr, hD, Nat.le_refl _, by decide, fun w' lr' h' _ => ⟨rfl, lr', h'⟩, Or.inl ⟨rfl, rfl⟩⟩
    | some g =>
      obtain ⟨hgD, lr, cap, cur, hD, hg, h1, h2, h3, h4⟩ := h
      exact ⟨some ⟨g, 0, none⟩, cap, lr, hD, h2, h3, fun w' lr' h' hk => ⟨hgD, lr', cap, cur, h', by rw [hk g hgD]; exact hg, h1, h2, h3, h4⟩, Or.inr ⟨g, rfl⟩⟩
  have c2 : w.cell? ⟨D, 2, none⟩ = some (.int .i8 lr) := blockCell hD 2
  have f2 := blockFrozen hD 2
  have hD1 : (w.setCell ⟨D, 2, none⟩ (.int .i8 0)).heap[D]? = some (.cells #[.slice bo bs.length cap, .int .i64 0, .int .i8 0] 122 (0, 0)) := by simpa using blockSet hD 2 (.int .i8 0)
  have d0 : (w.setCell ⟨D, 2, none⟩ (.int .i8 0)).cell? ⟨D, 0, none⟩ = some (.slice bo bs.length cap) := blockCell hD1 0
  have g0 := blockFrozen hD1 0
  have hD2 : ((w.setCell ⟨D, 2, none⟩ (.int .i8 0)).setCell ⟨D, 0, none⟩ (.slice bo bs.length cap)).heap[D]? = some (.cells #[.slice bo bs.length cap, .int .i64 0, .int .i8 0] 122 (0, 0)) := by simpa using blockSet hD1 0 (.slice bo bs.length cap)
  have e0 : ((w.setCell ⟨D, 2, none⟩ (.int .i8 0)).setCell ⟨D, 0, none⟩ (.slice bo bs.length cap)).cell? ⟨D, 0, none⟩ = some (.slice bo bs.length cap) := blockCell hD2 0
  have hW : Wrote D row (bs ++ []) w ((w.setCell ⟨D, 2, none⟩ (.int .i8 0)).setCell ⟨D, 0, none⟩ (.slice bo bs.length cap)) := by
    rw [List.append_nil]
    refine ⟨row, hback _ 0 hD2 (fun k hk => by rw [Below.heap_setCell _ _ _ _ hk, Below.heap_setCell _ _ _ _ hk]), Or.inl rfl, ((Only.refl _ w).setCell (Or.inr (Or.inl rfl)) _).setCell (Or.inr (Or.inl rfl)) _⟩
  have HW := Lib.hid hW
  have hcp := fun (w : World) (d : Option Addr) (dl dc : Nat) => run_copy_none (P := Tryz.prog) w 25 25 3 5 d ao dl dc 0 c Tryz.underlying25 byte_size (Nat.zero_min _)
  have HCM := Lib.hid hcm
  clear hW hD hD1 hD2 hback hcm
  go_enter Tryz.func54, Tryz.ntmps54
  rcases hbo with ⟨rfl, rfl⟩ | ⟨g, rfl⟩
  · have hl0 : bs.length = 0 := Nat.le_zero.1 hlc
    rw [hl0] at d0 e0 HW
    go_wp2_with fail
    refine (Tryz.Buffer_tryGrow_room D none 0 0 0 _ d0 g0 (Nat.le_refl _) (Nat.zero_le _) (Nat.le_refl _)).mono ?_
    rintro e w2 ⟨rfl, rfl⟩
    go_wp2_with fail
    go_ret2
    exact ⟨rfl, HW.out⟩
  · go_wp2_with fail
    refine (Tryz.Buffer_tryGrow_room D _ bs.length cap 0 _ d0 g0 hlc HCM.out (Nat.zero_le _)).mono ?_
    rintro e w2 ⟨rfl, rfl⟩
    have hcm' := HCM.out
    unfold maxLen at hcm'
    by_cases hcl : cap = bs.length
    all_goals
      go_wp2_with fail
      go_ret2
      refine ⟨rfl, ?_⟩
      have hW := HW.out
      first
        | exact hW
        | (rw [hcl] at hW; exact hW)

/-- A slice of bytes that reads cs, out of a block other than D. -/
def Src (w : World) (D : Nat) (cs : List Value) (v : Value) : Prop :=
  ∃ ao c, v = .slice ao cs.length c ∧ (cs = [] ∨ ∃ a, ao = some a ∧ a.block ≠ D ∧ ∀ j v, cs[j]? = some v → w.cell? (a.add j) = some v)

/-- Write, whatever lies there. -/
theorem write_any (w : World) (D : Nat) (row : Option Nat) (bs cs : List Value) (v : Value) (n : Int) (h : BufAt w D row bs) (hs : Src w D cs v) (hn : n = (cs.length : Int))
    (h1 : ∀ v ∈ bs, v.oneCell' = true) (h1c : ∀ v ∈ cs, v.oneCell' = true) (hlim : bs.length + cs.length ≤ 140737488355328) :
    Calls Tryz.prog 54 #[.pointer (some ⟨D, 0, none⟩), v] w fun e w' => e = .returned (.tuple #[.int .i64 n, .nilIface]) ∧ Wrote D row (bs ++ cs) w w' := by
  subst hn
  obtain ⟨ao, c, rfl, hs⟩ := hs
  by_cases h0 : cs.length = 0
  · have : cs = [] := List.length_eq_zero_iff.1 h0
    subst this
    exact write_zero w D row bs h ao c
  · obtain ⟨a, rfl, hab, hsrc⟩ : ∃ a, ao = some a ∧ a.block ≠ D ∧ ∀ j v, cs[j]? = some v → w.cell? (a.add j) = some v := hs.resolve_left (fun e => h0 (by rw [e]; rfl))
    have hn1 : 1 ≤ cs.length := by omega
    cases row with
    | none =>
      obtain ⟨rfl, lr, hD⟩ := h
      have hD1 : (w.setCell ⟨D, 2, none⟩ (.int .i8 0)).heap[D]? = some (.cells #[.slice none 0 0, .int .i64 0, .int .i8 0] 122 (0, 0)) := by simpa using blockSet hD 2 (.int .i8 0)
      refine write_grow w D none none [] cs 0 lr a cs.length c (Nat.le_refl _) hD (by decide) (by show 0 - 0 < cs.length; omega) rfl ?_ hab hsrc h1c hlim
      by_cases h64 : cs.length ≤ 64
      · exact grow_nil_small _ D cs.length 0 hD1 hn1 h64
      · exact grow_nil_big _ D cs.length 0 hD1 (by omega) (by simpa using hlim)
    | some g =>
      obtain ⟨hgD, lr, cap, cur, hD, hg, k1, k2, k3, k4⟩ := h
      by_cases hroom : bs.length + cs.length ≤ cap
      · exact write_room w D g bs cs cap lr cur a cs.length c hgD hD hg k1 k3 k4 hroom rfl hn1 hab hsrc h1c
      · have hD1 : (w.setCell ⟨D, 2, none⟩ (.int .i8 0)).heap[D]? = some (.cells #[.slice (some ⟨g, 0, none⟩) bs.length cap, .int .i64 0, .int .i8 0] 122 (0, 0)) := by simpa using blockSet hD 2 (.int .i8 0)
        refine write_grow w D (some g) (some ⟨g, 0, none⟩) bs cs cap lr a cs.length c k2 hD k3 (by omega) rfl ?_ hab hsrc h1c hlim
        have hgr := grow_row (w.setCell ⟨D, 2, none⟩ (.int .i8 0)) D g bs.length cap cs.length 0 cur hD1 (by rw [Below.heap_setCell _ _ _ _ (by show g ≠ D; exact hgD)]; exact hg) k1 k2 hn1 (by omega) hlim hgD (by rw [k4]; exact h1)
        rw [k4] at hgr
        exact hgr
end Go.Proofs.YtdfehaonngccjaaGreatDoor

/- DecodeString; Len and Bytes of a buffer. -/
namespace Go.Proofs.YtdfehaonngccjaaGreatDoor
open Go Go.RowKit

theorem decode_any (w : World) (G c : Nat) (l : List UInt8) (hsrc : ∀ j v, (Lib.byteCells l)[j]? = some v → w.cell? ⟨G, j, none⟩ = some v) :
    Calls Tryz.prog 56 #[.slice (some ⟨G, 0, none⟩) l.length c] w fun e w' => e = .returned (.string ⟨l.toArray⟩) ∧ w = w' := by
  have hr := run_convert_bytes_back (P := Tryz.prog) w 25 9 5 ⟨G, 0, none⟩ c l Tryz.underlying25 Tryz.underlying5 Tryz.underlying9 (fun j hj => by
    have := hsrc j (.int .u8 (l[j]).toNat) (by simp [Lib.byteCells, List.getElem?_eq_getElem hj])
    have hadd : (⟨G, 0, none⟩ : Addr).add j = ⟨G, j, none⟩ := by unfold Addr.add; split <;> simp_all
    rw [hadd]; exact this)
  clear hsrc
  go_enter Tryz.func56, Tryz.ntmps56
  go_wp2
  go_ret
  exact ⟨rfl, rfl⟩

theorem BufAt.isBuffer {w : World} {D : Nat} {row : Option Nat} {bs : List Value} (h : BufAt w D row bs) : Lib.IsBuffer 122 5 0 D bs w := by
  cases row with
  | none =>
    obtain ⟨rfl, lr, hD⟩ := h
    exact ⟨Nat.zero_le _, _, lr, hD, ⟨by simp, Or.inl ⟨rfl, rfl⟩⟩, by simp [Value.ownBlock]⟩
  | some g =>
    obtain ⟨hgD, lr, cap, cur, hD, hg, h1, h2, h3, h4⟩ := h
    refine ⟨Nat.zero_le _, _, lr, hD, ⟨by simp, Or.inr ⟨g, cap, cur, by simp, Nat.zero_le _, hg, by simpa using h2, h3, by simpa using h1, by simpa using h4⟩⟩, ?_⟩
    simp [Value.ownBlock]
    omega

/-- What a slice of the buffer's bytes reads; its row is of bytes. -/
def Reads (w : World) (bs : List Value) (v : Value) : Prop :=
  ∃ ao c, v = .slice ao bs.length c ∧ (bs = [] ∨ ∃ g, ao = some ⟨g, 0, none⟩ ∧ (∃ cur, w.heap[g]? = some (.cells cur 5 (0, 0))) ∧ ∀ j v, bs[j]? = some v → w.cell? ⟨g, j, none⟩ = some v)

theorem buf_bytes (w : World) (D : Nat) (row : Option Nat) (bs : List Value) (h : BufAt w D row bs) :
    Calls Tryz.prog 41 #[.pointer (some ⟨D, 0, none⟩)] w fun e w' => ∃ v, e = .returned v ∧ Reads w' bs v ∧ Same w w' := by
  refine (Tryz.Buffer_Bytes 0 D bs w h.isBuffer).mono fun e w' he => ?_
  obtain ⟨v, rfl, ho, n, rfl⟩ := he
  refine ⟨v, rfl, ?_, (Same.refl w).drewN n⟩
  rcases ho with ⟨hl, ⟨hv, h0⟩ | ⟨g, cap, cur, hv, _, hg, hn, hm, hcs, htk⟩⟩
  · exact ⟨none, 0, by rw [hv, h0], Or.inl (List.length_eq_zero_iff.1 h0)⟩
  · refine ⟨_, cap, hv, Or.inr ⟨g, rfl, ⟨cur, hg⟩, fun j v hj => ?_⟩⟩
    rw [blockCell hg j]
    rw [Nat.mul_one] at htk
    rw [← htk] at hj
    simp only [List.getElem?_take] at hj
    split at hj
    · simpa using hj
    · cases hj

theorem buf_len (w : World) (D : Nat) (row : Option Nat) (bs : List Value) (h : BufAt w D row bs) :
    Calls Tryz.prog 81 #[.pointer (some ⟨D, 0, none⟩)] w fun e w' => e = .returned (.int .i64 bs.length) ∧ Same w w' := by
  refine (Tryz.Buffer_Len 0 D bs w h.isBuffer).mono fun e w' he => ?_
  obtain ⟨rfl, n, rfl⟩ := he
  exact ⟨rfl, (Same.refl w).drewN n⟩
end Go.Proofs.YtdfehaonngccjaaGreatDoor

/- encodeHighTag: the tags from 31 on. -/
namespace Go.Proofs.YtdfehaonngccjaaGreatDoor
open Go Go.RowKit

/-- A digit of seven bits, marked but for the lowest. -/
def tagDigit (t j : Nat) : Nat := t / 128 ^ j % 128 + (if j = 0 then 0 else 128)
def lowDigits (t j : Nat) : List UInt8 := (List.range j).map fun k => UInt8.ofNat (tagDigit t k)

theorem tagDigit_lt (t j : Nat) : tagDigit t j < 256 := by unfold tagDigit; split <;> omega
theorem lowDigits_length (t j : Nat) : (lowDigits t j).length = j := by simp [lowDigits]
theorem lowDigits_succ (t j : Nat) : lowDigits t (j + 1) = lowDigits t j ++ [UInt8.ofNat (tagDigit t j)] := by simp [lowDigits, List.range_succ]
theorem byteCells_append (a b : List UInt8) : Lib.byteCells (a ++ b) = Lib.byteCells a ++ Lib.byteCells b := by simp [Lib.byteCells]

theorem and127u {x : Nat} (h : x < 2 ^ 64) : bits .and .u64 (x : Int) 127 = ((x % 128 : Nat) : Int) := by
  have := bits_mask .u64 64 (by decide) wraps_u64 7 (by decide) (x : Int) (by omega) (by omega)
  simpa using this
theorem or128u {x : Nat} (h : x < 128) : bits .or .u64 (x : Int) 128 = ((x + 128 : Nat) : Int) := by
  have e := (bits_nat .u64 64 (by decide) wraps_u64 x 128 (by omega) (by omega)).2
  have k : ∀ y, y < 128 → y ||| 128 = y + 128 := by decide +kernel
  rw [← k x h]; exact e

theorem owned_base {w : World} {base : Nat} {e : TypeId} {size : Nat} {v : Value} {n : Nat} {xs : List Value} (h : w.ownsRow base e size v n xs) (g : Nat) (hg : v.ownBlock = some g) : base ≤ g := by
  rcases h.2 with ⟨rfl, _⟩ | ⟨g', cap, cur, rfl, hb, _⟩
  · simp [Value.ownBlock] at hg
  · simp [Value.ownBlock] at hg; omega

theorem one_cell (W : World) (t : TypeId) (v u : Value) (j : Nat) (hv : v = u) (x : Value) (hj : [u][j]? = some x) : (W.alloc (.cells #[v] t)).cell? ((⟨W.heap.size, 0, none⟩ : Addr).add j) = some x := by
  subst hv
  match j, hj with
  | 0, hj =>
    simp at hj
    subst hj
    exact blockCell (heap_alloc_new W _) 0

/-- What a round leaves. -/
theorem hightag_step {w wr w1 : World} {t j d : Nat} {v' : Value} {row : Option Nat} (hd : d = tagDigit t j) (hnx : Below w.heap.size w wr) (hr : ∀ g, row = some g → w.heap.size ≤ g) (o : Obj)
    (hown : w1.ownsRow w.heap.size 5 1 v' (j + 1) (Lib.byteCells (lowDigits t j) ++ [.int .u8 (d : Int)])) (hg : (wr.alloc o).grownBy w1 row) :
    w1.ownsRow w.heap.size 5 1 v' (j + 1) (Lib.byteCells (lowDigits t (j + 1))) ∧ Below w.heap.size w w1 := by
  constructor
  · rw [lowDigits_succ, byteCells_append]
    have : Lib.byteCells [UInt8.ofNat (tagDigit t j)] = [.int .u8 (d : Int)] := by
      simp [Lib.byteCells, hd]
      have := tagDigit_lt t j
      omega
    rw [this]; exact hown
  · have h1 := hnx.alloc hnx.size o
    exact h1.trans ⟨hg.os, hg.tape, hg.output, hg.size, fun k hk => hg.block k (Nat.lt_of_lt_of_le hk h1.size) (fun e => by have := hr k e.symm; omega)⟩

theorem swap_rows {t i j q cap : Nat} {cur2 : Array Value} (hs2 : cur2.size = cap) (hn : j ≤ cap) (hij : i < j / 2) (hq : q = j - 1 - i)
    (h : ∀ k, k < j → cur2[k]? = some (.int .u8 (tagDigit t (if k < i ∨ j ≤ k + i then j - 1 - k else k) : Int))) :
    ∀ k, k < j → ((cur2.setIfInBounds i (.int .u8 (tagDigit t q : Int))).setIfInBounds q (.int .u8 (tagDigit t i : Int)))[k]? = some (.int .u8 (tagDigit t (if k < i + 1 ∨ j ≤ k + (i + 1) then j - 1 - k else k) : Int)) := by
  intro k hk
  by_cases h1 : k = q
  · subst h1
    rw [Array.getElem?_setIfInBounds_self_of_lt (by simp; omega), if_pos (by omega), show j - 1 - k = i by omega]
  · rw [Array.getElem?_setIfInBounds_ne (by omega)]
    by_cases h2 : k = i
    · subst h2
      rw [Array.getElem?_setIfInBounds_self_of_lt (by omega), if_pos (by omega), hq]
    · rw [Array.getElem?_setIfInBounds_ne (by omega), h k hk]
      by_cases h3 : k < i ∨ j ≤ k + i
      · rw [if_pos h3, if_pos (by omega)]
      · rw [if_neg h3, if_neg (by omega)]

theorem mid_rows {t j : Nat} {cur2 : Array Value} (h : ∀ k, k < j → cur2[k]? = some (.int .u8 (tagDigit t (if k < j / 2 ∨ j ≤ k + j / 2 then j - 1 - k else k) : Int))) {k : Nat} {v : Value}
    (hk : (Lib.byteCells (lowDigits t j).reverse)[k]? = some v) : cur2[k]? = some v := by
  have hlt : k < j := by
    have := (List.getElem?_eq_some_iff.1 hk).1
    simpa [Lib.byteCells, lowDigits] using this
  rw [h k hlt, ← hk]
  have hd := tagDigit_lt t (j - 1 - k)
  have e : (if k < j / 2 ∨ j ≤ k + j / 2 then j - 1 - k else k) = j - 1 - k := by split <;> omega
  rw [e]
  simp [Lib.byteCells, lowDigits, hlt]
  omega

theorem tagMore_eq : ∀ (m f n : Nat), m ≤ f → n / 128 ^ m = 0 → (m = 0 ∨ n / 128 ^ (m - 1) ≠ 0) → Ber.tagMore f n = ((List.range m).map fun k => UInt8.ofNat (n / 128 ^ k % 128 + 128)).reverse
  | 0, f, n, _, h, _ => by
    have : n = 0 := by simpa using h
    subst this
    cases f <;> simp [Ber.tagMore]
  | m + 1, 0, n, hm, _, _ => by omega
  | m + 1, f + 1, n, hm, h, hmin => by
    have hn0 : n ≠ 0 := by
      rintro rfl
      rcases hmin with h | h
      · omega
      · simp at h
    have ih := tagMore_eq m f (n / 128) (by omega) (by rw [Nat.div_div_eq_div_mul, Nat.mul_comm, ← Nat.pow_succ]; exact h) (by
      rcases Nat.eq_zero_or_pos m with h0 | h0
      · exact Or.inl h0
      · refine Or.inr ?_
        rw [Nat.div_div_eq_div_mul, Nat.mul_comm, ← Nat.pow_succ, show (m - 1).succ = m by omega]
        exact hmin.resolve_left (by omega))
    simp only [Ber.tagMore]
    rw [if_neg hn0, ih, List.range_succ_eq_map, List.map_cons, List.reverse_cons, List.map_map]
    congr 2
    · congr 1
      funext k
      simp only [Function.comp]
      rw [Nat.div_div_eq_div_mul, Nat.mul_comm, ← Nat.pow_succ]
    · simp

theorem tagBytes_eq (t j : Nat) (h0 : 0 < j) (hj : j ≤ 10) (h : t / 128 ^ j = 0) (hmin : t / 128 ^ (j - 1) ≠ 0) : Ber.tagBytes t = (lowDigits t j).reverse := by
  obtain ⟨m, rfl⟩ : ∃ m, j = m + 1 := ⟨j - 1, by omega⟩
  have hn0 : t ≠ 0 := by rintro rfl; simp at hmin
  have ih := tagMore_eq m 10 (t / 128) (by omega) (by rw [Nat.div_div_eq_div_mul, Nat.mul_comm, ← Nat.pow_succ]; exact h) (by
    rcases Nat.eq_zero_or_pos m with h0 | h0
    · exact Or.inl h0
    · refine Or.inr ?_
      rw [Nat.div_div_eq_div_mul, Nat.mul_comm, ← Nat.pow_succ, show (m - 1).succ = m by omega]
      simpa using hmin)
  unfold Ber.tagBytes
  rw [if_neg hn0, ih]
  simp only [lowDigits]
  rw [List.range_succ_eq_map, List.map_cons, List.reverse_cons, List.map_map]
  congr 2
  · congr 1
    funext k
    simp only [Function.comp, tagDigit]
    rw [Nat.div_div_eq_div_mul, Nat.mul_comm, ← Nat.pow_succ]
    simp
  · simp [tagDigit]

set_option maxRecDepth 100000 in
set_option maxHeartbeats 4000000 in
theorem hightag_any (w : World) (t : Nat) (ht : t < 2 ^ 64) (h0 : t ≠ 0) :
    Calls Tryz.prog 88 #[.int .u64 t] w fun e w' => ∃ v, e = .returned v ∧ Reads w' (Lib.byteCells (Ber.tagBytes t)) v ∧ Below w.heap.size w w' := by
  obtain ⟨i0, hi, hz0, hz1, hz2⟩ := info_byte
  have hm4 : ∀ W : World, ∃ M : Array Value, M.size = 4 ∧ (Instr.makeSlice 25 (.int .i64 0) (.int .i64 4)).run Tryz.prog W = .ok (.slice (some ⟨W.heap.size, 0, none⟩) 0 4) (W.alloc (.cells M 5)) := fun W => by
    have h := run_makeSlice W 25 5 i0 (.int .u8 0) Tryz.underlying25 hi hz0 .i64 .i64 0 4 (by omega) (by omega) (by rw [hz1]; decide) (by rw [hz2]; decide) (by decide)
    have h2 := size_madeCells (Value.int .u8 0).cells (Int.toNat 4 * i0.size)
    exact ⟨madeCells (Value.int .u8 0).cells (Int.toNat 4 * i0.size), by rw [h2, hz1]; rfl, by simpa using h⟩
  obtain ⟨M, hM, hmk⟩ := hm4 w
  clear hm4
  go_enter Tryz.func88, Tryz.ntmps88
  go_wp2_with fail
  go_loopw [0, 3] (fun t0 t3 wr => ∃ j : Nat, j ≤ 10 ∧ (j = 0 ∨ t / 128 ^ (j - 1) ≠ 0) ∧ t0 = .int .u64 ((t / 128 ^ j : Nat) : Int) ∧ wr.ownsRow w.heap.size 5 1 t3 j (Lib.byteCells (lowDigits t j)) ∧ Below w.heap.size w wr) (fun t0 _ _ => (intOf t0).toNat)
  case atStart => exact ⟨0, by omega, Or.inl rfl, by simp, World.ownsRow_made w _ 4 (Nat.le_refl _) (by decide) (by omega), (Below.refl _ w).alloc (Nat.le_refl _) _⟩
  case round =>
    obtain ⟨j, hj, hjm, rfl, hown, hnx⟩ := hrel
    have HJM := Lib.hid hjm
    clear hjm
    obtain ⟨ao, cap, rfl⟩ : ∃ ao cap, u3 = .slice ao j cap := by
      rcases hown.2 with ⟨h1, h2⟩ | ⟨g, cap, cur, h1, _⟩
      · exact ⟨none, 0, by rw [h1, h2]⟩
      · exact ⟨_, cap, h1⟩
    obtain ⟨r, hr⟩ : ∃ r, r = t / 128 ^ j := ⟨_, rfl⟩
    rw [← hr]
    have hr64 : r < 2 ^ 64 := Nat.lt_of_le_of_lt (by rw [hr]; exact Nat.div_le_self _ _) ht
    have hand := and127u hr64
    have hor : bits .or .u64 ((r : Int) % 128) 128 = ((r % 128 + 128 : Nat) : Int) := by have := or128u (x := r % 128) (by omega); rw [← this]; congr 1
    have hnext : r / 128 = t / 128 ^ (j + 1) := by rw [hr, Nat.div_div_eq_div_mul, Nat.pow_succ]
    have HR := Lib.hid hr
    have HN := Lib.hid hnext
    have H64 := Lib.hid hr64
    clear hr hnext
    by_cases hz : r = 0
    · have hz1 : ((r : Int) != 0) = false := by rw [hz]; rfl
      subst hz
      have hj0 : 0 < j := by
        rcases Nat.eq_zero_or_pos j with h | h
        · exfalso; apply h0; rw [h] at HR; have := HR.out; simpa using this.symm
        · exact h
      obtain ⟨g, cap', cur, hv, hgb, hgc, hn, hm, hcs, htk⟩ : ∃ g cap' cur, Value.slice ao j cap = .slice (some ⟨g, 0, none⟩) j cap' ∧ w.heap.size ≤ g ∧ wr.heap[g]? = some (.cells cur 5 (0, 0)) ∧ j ≤ cap' ∧ cap' ≤ maxLen ∧ cur.size = cap' * 1 ∧ cur.toList.take (j * 1) = Lib.byteCells (lowDigits t j) := by
        rcases hown.2 with ⟨_, h⟩ | h
        · omega
        · exact h
      obtain ⟨rfl, rfl⟩ : ao = some ⟨g, 0, none⟩ ∧ cap = cap' := by injection hv with h1 _ h2; exact ⟨h1, h2⟩
      have HOWN := Lib.hid hown
      clear hown hv
      go_wp2_with fail
      have hrow0 : ∀ k, k < j → cur[k]? = some (.int .u8 (tagDigit t k : Int)) := by
        intro k hk
        have h1 : (cur.toList.take (j * 1))[k]? = (Lib.byteCells (lowDigits t j))[k]? := by rw [htk]
        rw [Nat.mul_one, List.getElem?_take, if_pos hk] at h1
        rw [← Array.getElem?_toList, h1]
        have := tagDigit_lt t k
        simp [Lib.byteCells, lowDigits, List.getElem?_range hk]
        omega
      clear htk
      go_loopw [5] (fun t5 w2 => ∃ (i : Nat) (cur2 : Array Value), i ≤ j / 2 ∧ t5 = .int .i64 i ∧ w2.heap[g]? = some (.cells cur2 5 (0, 0)) ∧ cur2.size = cap ∧ Below w.heap.size w w2 ∧
        ∀ k, k < j → cur2[k]? = some (.int .u8 (tagDigit t (if k < i ∨ j ≤ k + i then j - 1 - k else k) : Int))) (fun t5 _ => j - (intOf t5).toNat)
      case atStart => exact ⟨0, cur, Nat.zero_le _, rfl, hgc, by omega, hnx, fun k hk => by rw [if_neg (by omega)]; exact hrow0 k hk⟩
      case round =>
        obtain ⟨i, cur2, hi2, rfl, hg2, hs2, hnx2, hrow⟩ := hrel
        by_cases hij : i < j / 2
        · obtain ⟨q, hq⟩ : ∃ q : Nat, q = j - 1 - i := ⟨_, rfl⟩
          have hqi : (j : Int) - 1 - (i : Int) = (q : Int) := by omega
          have hqj : q < j := by omega
          have hiq : i ≠ q := by omega
          have hgd : wr.drew.heap[g]? = some (.cells cur2 5 (0, 0)) := hg2
          have ci := (blockCell hgd i).trans (hrow i (by omega))
          rw [if_neg (by omega)] at ci
          have cq := (blockCell hgd q).trans (hrow q (by omega))
          rw [if_neg (by omega)] at cq
          have fi := blockFrozen hgd i
          have fq := blockFrozen hgd q
          have hgd2 : (wr.setCell ⟨g, i, none⟩ (.int .u8 (tagDigit t q : Int))).drew.heap[g]? = some (.cells (cur2.setIfInBounds i (.int .u8 (tagDigit t q : Int))) 5 (0, 0)) := blockSet hg2 i _
          have cq2 : (wr.setCell ⟨g, i, none⟩ (.int .u8 (tagDigit t q : Int))).drew.cell? ⟨g, q, none⟩ = some (.int .u8 (tagDigit t q : Int)) := by
            rw [blockCell hgd2 q, Array.getElem?_setIfInBounds_ne hiq, hrow q (by omega), if_neg (by omega)]
          have fq2 := blockFrozen hgd2 q
          have hwq : IntKind.i64.wrap (q : Int) = (q : Int) := IntWalk.i64_in _ (by constructor <;> omega)
          have HROW := Lib.hid hrow
          have HQ := Lib.hid hq
          clear hrow hq
          go_wp2_with fail
          go_region
          go_wp2
          go_roundw
          case rel => exact ⟨i + 1, _, by omega, by go_num, blockSet hgd2 q (.int .u8 (tagDigit t i : Int)), by simp [hs2], ((hnx2.setCell (p := ⟨g, i, none⟩) hgb (.int .u8 (tagDigit t q : Int))).setCell (p := ⟨g, q, none⟩) hgb (.int .u8 (tagDigit t i : Int))).drew, swap_rows hs2 hn hij HQ.out HROW.out⟩
          case measure => simp [intOf]; omega
        · obtain rfl : i = j / 2 := by omega
          have HROW := Lib.hid hrow
          clear hrow
          go_wp2_with fail
          go_ret
          refine ⟨_, rfl, ⟨some ⟨g, 0, none⟩, cap, ?_, Or.inr ⟨g, rfl, ⟨cur2, hg2⟩, ?_⟩⟩, hnx2⟩
          · rw [tagBytes_eq t j hj0 hj HR.out.symm (HJM.out.resolve_left (by omega))]; simp [Lib.byteCells, lowDigits]
          · intro k v hk
            rw [tagBytes_eq t j hj0 hj HR.out.symm (HJM.out.resolve_left (by omega))] at hk
            exact (blockCell hg2 k).trans (mid_rows HROW.out hk)
    · have hne : ((r : Int) != 0) = true := by rw [bne_iff_ne]; omega
      have hj9 : j < 10 := by
        rcases Nat.lt_or_ge j 10 with h | h
        · exact h
        · exfalso
          apply hz
          rw [HR.out]
          exact Nat.div_eq_of_lt (Nat.lt_of_lt_of_le ht (Nat.le_trans (by decide : 2 ^ 64 ≤ 128 ^ 10) (Nat.pow_le_pow_right (by decide) h)))
      by_cases hj0 : j = 0
      · subst hj0
        go_wp2_with (first
          | (at_builtin; refine wpList_append_own _ rfl _ _ 25 rfl w.heap.size 5 i0 (.int .u8 0) 1 1 Tryz.underlying25 hi hz0 hz1 hz2 rfl (by decide) _ _ _ rfl (hown.alloc _) ⟨wr.heap.size, 0, none⟩ 1 1 [.int .u8 ((r % 128 : Nat) : Int)] rfl rfl (fun j u hj => one_cell wr 5 _ _ j (by simp) u hj) (by intro u hu; simp at hu; subst hu; rfl) (by decide) (by decide) (by have := hnx.size; simp; omega) ?_))
        · intro v' w1 hown' hgrow _
          have R := hightag_step (t := t) (d := r % 128) (by unfold tagDigit; rw [HR.out]; simp) hnx (fun g hg => owned_base hown g hg) _ hown' hgrow
          clear hown' hgrow hown
          go_wp2
          go_roundw
          case rel => exact ⟨1, by omega, Or.inr (by have := HR.out; simp at this; simp; omega), by rw [← HN.out]; simp, R.1, R.2⟩
          case measure => simp [intOf]; omega
      · have hjb : ((j : Int) != 0) = true := by rw [bne_iff_ne]; omega
        have hcv : IntKind.u8.wrap ((r % 128 + 128 : Nat) : Int) = ((r % 128 + 128 : Nat) : Int) := by rw [IntKind.wrap_u8]; omega
        have hmax : j + 1 ≤ maxLen := by simp only [maxLen]; omega
        go_wp2_with (first
          | (at_builtin; refine wpList_append_own _ rfl _ _ 25 rfl w.heap.size 5 i0 (.int .u8 0) 1 1 Tryz.underlying25 hi hz0 hz1 hz2 rfl (by decide) _ _ _ rfl (hown.alloc _) ⟨wr.heap.size, 0, none⟩ 1 1 [.int .u8 ((r % 128 + 128 : Nat) : Int)] rfl rfl (fun j u hj => one_cell wr 5 _ _ j (by simp) u hj) (by intro u hu; simp at hu; subst hu; rfl) (by exact hmax) (by omega) (by have := hnx.size; simp; omega) ?_))
        · intro v' w1 hown' hgrow _
          have R := hightag_step (t := t) (d := r % 128 + 128) (by unfold tagDigit; rw [HR.out, if_neg hj0]) hnx (fun g hg => owned_base hown g hg) _ hown' hgrow
          clear hown' hgrow hown
          go_wp2
          go_roundw
          case rel => exact ⟨j + 1, by omega, Or.inr (by rw [Nat.add_sub_cancel, ← HR.out]; exact hz), by rw [← HN.out]; simp, R.1, R.2⟩
          case measure => simp [intOf]; omega
end Go.Proofs.YtdfehaonngccjaaGreatDoor

/- encodeIdentifier. -/
namespace Go.Proofs.YtdfehaonngccjaaGreatDoor
open Go Go.RowKit

theorem or_u8 {x y : Nat} (hx : x < 256) (hy : y < 256) : bits .or .u8 (x : Int) (y : Int) = ((x ||| y : Nat) : Int) := (bits_nat .u8 8 (by decide) wraps_u8 x y (by omega) (by omega)).2
theorem or_cls : ∀ c, c < 4 → ∀ b : Bool, (c * 64 ||| (if b then 32 else 0)) = c * 64 + (if b then 32 else 0) := by decide +kernel
theorem or_tag : ∀ c, c < 4 → ∀ b : Bool, ∀ t, t < 32 → (c * 64 + (if b then 32 else 0)) ||| t = c * 64 + (if b then 32 else 0) + t := by decide +kernel

theorem alloc2_new (w : World) (a b : Obj) : ((w.alloc a).alloc b).heap[w.heap.size + 1]? = some b := by have := heap_alloc_new (w.alloc a) b; simpa using this

theorem reads_of_owned {w : World} {base n : Nat} {v : Value} {xs : List Value} (h : w.ownsRow base 5 1 v n xs) : Reads w xs v := by
  obtain ⟨hl, ⟨hv, h0⟩ | ⟨g, cap, cur, hv, _, hg, hn, hm, hcs, htk⟩⟩ := h
  · have : xs = [] := List.length_eq_zero_iff.1 (by omega)
    exact ⟨none, 0, by rw [hv, this]; rfl, Or.inl this⟩
  · refine ⟨_, cap, by rw [hv, show n = xs.length by omega], Or.inr ⟨g, rfl, ⟨cur, hg⟩, fun j v hj => ?_⟩⟩
    rw [blockCell hg j]
    rw [Nat.mul_one] at htk
    rw [← htk] at hj
    simp only [List.getElem?_take] at hj
    split at hj
    · simpa using hj
    · cases hj

theorem tagBytes_len (t : Nat) (h : t ≠ 0) : 0 < (Ber.tagBytes t).length ∧ (Ber.tagBytes t).length ≤ 12 := by
  have hm : ∀ f n, (Ber.tagMore f n).length ≤ f := by
    intro f
    induction f with
    | zero => intro n; simp [Ber.tagMore]
    | succ f ih => intro n; simp only [Ber.tagMore]; split <;> simp; exact ih _
  have := hm 10 (t / 128)
  unfold Ber.tagBytes
  rw [if_neg h]
  simp
  omega

set_option maxRecDepth 100000 in
set_option maxHeartbeats 4000000 in
theorem identOf_any (w : World) (c : Nat) (hc : c < 4) (b : Bool) (t : Nat) (ht : t < 2 ^ 64) :
    Calls Tryz.prog 79 #[tagValue c b t] w fun e w' => ∃ v, e = .returned v ∧ Reads w' (Lib.byteCells (Ber.identBytes c b t)) v ∧ Below w.heap.size w w' := by
  obtain ⟨y, hy, hy1, hyb⟩ : ∃ y : Nat, ((if b then 32 else 0 : Int)) = (y : Int) ∧ y = (if b then 32 else 0) ∧ y ≤ 32 := by cases b <;> exact ⟨_, rfl, rfl, by decide⟩
  have o1 : bits .or .u8 0 ((c * 64 : Nat) : Int) = ((c * 64 : Nat) : Int) := by have := or_u8 (x := 0) (y := c * 64) (by omega) (by omega); simpa using this
  have o2 : bits .or .u8 ((c * 64 : Nat) : Int) (y : Int) = ((c * 64 + y : Nat) : Int) := by rw [or_u8 (by omega) (by omega), hy1, or_cls c hc b]
  obtain ⟨x, hx⟩ : ∃ x : Nat, x = c * 64 := ⟨_, rfl⟩
  obtain ⟨s, hs⟩ : ∃ s : Nat, s = c * 64 + y := ⟨_, rfl⟩
  have hx256 : x < 256 := by omega
  have hs256 : s < 256 := by omega
  unfold tagValue
  rw [hy]
  rw [← hs, ← hx] at o2
  rw [← hx] at o1 ⊢
  have h0s := heap_alloc_new w (.cells #[.int .u8 x, .int .u8 y, .int .u64 t] 89)
  have HS := Lib.hid hs
  have HX := Lib.hid hx
  have HY := Lib.hid hy1
  clear hy hy1 hs hx h0s
  go_enter Tryz.func79, Tryz.ntmps79
  go_wp2
  go_region
  go_wp2
  go_region
  by_cases h31 : t < 31
  · have o3 : bits .or .u8 (s : Int) (t : Int) = ((s + t : Nat) : Int) := by rw [or_u8 (by omega) (by omega), HS.out, HY.out, or_tag c hc b t (by omega)]
    have hwt : IntKind.u8.wrap (t : Int) = (t : Int) := by rw [IntKind.wrap_u8]; omega
    have htb : decide ((t : Int) < 31) = true := by simp; omega
    go_wp2
    go_region
    go_wp2
    go_ret
    have hn := alloc2_new w (.cells #[.int .u8 x, .int .u8 y, .int .u64 t] 89) (.cells #[.int .u8 ((s : Int) + t)] 5)
    refine ⟨_, rfl, ⟨some ⟨w.heap.size + 1, 0, none⟩, 1, ?_, Or.inr ⟨w.heap.size + 1, rfl, ⟨_, hn⟩, fun j v hj => ?_⟩⟩, ((((Below.refl _ w).alloc (Nat.le_refl _) _).alloc (by simp) _).drew.drew.drew)⟩
    · simp [Ber.identBytes, h31, Lib.byteCells]
    · have h256 : s + t < 256 := by
        have := HS.out; have := HX.out; have := HY.out
        cases b <;> simp at * <;> omega
      refine (blockCell hn j).trans ?_
      rw [← hj]
      simp [Ber.identBytes, h31, Lib.byteCells, ← HY.out, ← HS.out]
      match j with
      | 0 => simp; omega
      | j + 1 => simp
  · have o3 : bits .or .u8 (s : Int) 31 = ((s + 31 : Nat) : Int) := by have := or_u8 (x := s) (y := 31) (by omega) (by omega); rw [show ((31 : Nat) : Int) = 31 from rfl] at this; rw [this, HS.out, HY.out, or_tag c hc b 31 (by omega)]
    have htb : decide ((t : Int) < 31) = false := by simp; omega
    obtain ⟨i0, hi, hz0, hz1, hz2⟩ := info_byte
    have hlen : (Lib.byteCells (Ber.tagBytes t)).length ≤ 12 ∧ Lib.byteCells (Ber.tagBytes t) ≠ [] := by
      have h := tagBytes_len t (by omega)
      simp only [Lib.byteCells, List.length_map, ne_eq, List.map_eq_nil_iff]
      exact ⟨h.2, fun e => by rw [e] at h; simp at h⟩
    have h1c : ∀ v ∈ Lib.byteCells (Ber.tagBytes t), v.oneCell' = true := by intro v hv; simp [Lib.byteCells] at hv; obtain ⟨_, _, rfl⟩ := hv; rfl
    obtain ⟨cs, hcs⟩ : ∃ cs, cs = Lib.byteCells (Ber.tagBytes t) := ⟨_, rfl⟩
    rw [← hcs] at hlen h1c
    have HCS := Lib.hid hcs
    clear hcs
    go_wp2_with fail
    refine (hightag_any _ t ht (by omega)).mono ?_
    rintro e w1 ⟨v, rfl, hv, hb1⟩
    rw [← HCS.out] at hv
    obtain ⟨ao, cp, rfl, hv⟩ := hv
    obtain ⟨g, rfl, -, hsrc⟩ := hv.resolve_left hlen.2
    have hb0 : Below w.heap.size w w1 := (((Below.refl _ w).alloc (Nat.le_refl _) _).alloc (by simp) _).drew.drew.trans (hb1.mono (by simp; omega))
    have hrow : w1.heap[w.heap.size + 1]? = some (.cells #[.int .u8 ((s : Int) + 31)] 5 (0, 0)) := (hb1.block _ (by simp)).trans (alloc2_new w (.cells #[.int .u8 x, .int .u8 y, .int .u64 t] 89) _)
    have hown : w1.ownsRow w.heap.size 5 1 (.slice (some ⟨w.heap.size + 1, 0, none⟩) 1 1) 1 [.int .u8 ((s : Int) + 31)] := ⟨by simp, Or.inr ⟨_, 1, _, rfl, by omega, hrow, by omega, by decide, by simp, by simp⟩⟩
    have hsz := hb0.size
    have hmx : 1 + cs.length ≤ maxLen := by simp only [maxLen]; omega
    have hsrc2 : ∀ j u, cs[j]? = some u → w1.cell? ((⟨g, 0, none⟩ : Addr).add j) = some u := by
      intro j u hj
      have hadd : (⟨g, 0, none⟩ : Addr).add j = ⟨g, j, none⟩ := by unfold Addr.add; split <;> simp_all
      rw [hadd]; exact hsrc j u hj
    have HB := Lib.hid hb0
    clear hb0 hb1 hv hsrc hrow
    go_wp2_with (first
      | (at_builtin; refine wpList_append_own _ rfl _ _ 25 rfl w.heap.size 5 i0 (.int .u8 0) 1 1 Tryz.underlying25 hi hz0 hz1 hz2 rfl (by decide) _ _ _ rfl hown ⟨g, 0, none⟩ cs.length cp cs rfl (by simp) hsrc2 h1c hmx (by omega) hsz ?_))
    intro v' w2 hown' hgrow _
    have hb2 : Below w.heap.size w w2 := HB.out.trans ⟨hgrow.os, hgrow.tape, hgrow.output, hgrow.size, fun k hk => hgrow.block k (by omega) (by simp [Value.ownBlock]; omega)⟩
    have hrd := reads_of_owned hown'
    have HRD := Lib.hid hrd
    have HB2 := Lib.hid hb2
    clear hrd hb2 hgrow hown' hown
    go_wp2
    go_ret
    refine ⟨_, rfl, ?_, HB2.out⟩
    have e1 : Lib.byteCells (Ber.identBytes c b t) = [.int .u8 ((s : Int) + 31)] ++ cs := by
      have h256 : s + 31 < 256 := by
        have := HS.out; have := HX.out; have := HY.out
        cases b <;> simp at * <;> omega
      rw [HCS.out]
      simp [Ber.identBytes, h31, Lib.byteCells, ← HY.out, ← HS.out]
      omega
    rw [e1]
    exact HRD.out
end Go.Proofs.YtdfehaonngccjaaGreatDoor

/- encodeLength. -/
namespace Go.Proofs.YtdfehaonngccjaaGreatDoor
open Go Go.RowKit

/-- x has m bytes. -/
structure Bytes8 (x m : Nat) : Prop where
  lo : 1 ≤ m
  hi : m ≤ 8
  lt : x < 256 ^ m
  ge : m = 1 ∨ 256 ^ (m - 1) ≤ x

theorem bytes8_ex (x : Nat) (h : x < 2 ^ 64) : ∃ m, Bytes8 x m := by
  have : ∀ m, m ≤ 8 → x < 256 ^ m → 1 ≤ m → ∃ m, Bytes8 x m := by
    intro m
    induction m with
    | zero => intro _ _ h; omega
    | succ m ih =>
      intro hm hx _
      by_cases h0 : m = 0
      · subst h0; exact ⟨1, by omega, by omega, hx, Or.inl rfl⟩
      · by_cases hx2 : x < 256 ^ m
        · exact ih (by omega) hx2 (by omega)
        · exact ⟨m + 1, by omega, hm, hx, Or.inr (by rw [Nat.add_sub_cancel]; omega)⟩
  exact this 8 (by omega) (by rw [show (256 : Nat) ^ 8 = 2 ^ 64 by decide]; exact h) (by omega)

theorem Bytes8.more {x m j : Nat} (h : Bytes8 x m) (hj : j + 1 < m) : 255 < x / 256 ^ j := by
  have h1 : 256 ^ (m - 1) ≤ x := h.ge.resolve_left (by omega)
  have h2 : 256 ^ (j + 1) ≤ 256 ^ (m - 1) := Nat.pow_le_pow_right (by decide) (by omega)
  have h3 : 256 ≤ x / 256 ^ j := (Nat.le_div_iff_mul_le (Nat.pow_pos (by decide))).2 (by rw [Nat.pow_succ] at h2; omega)
  omega
theorem Bytes8.last {x m j : Nat} (h : Bytes8 x m) (hj : j + 1 = m) : x / 256 ^ j < 256 := by
  apply (Nat.div_lt_iff_lt_mul (Nat.pow_pos (by decide))).2
  have := h.lt
  rw [← hj, Nat.pow_succ] at this
  omega

theorem digits_eq : ∀ (m f x : Nat), m ≤ f → Bytes8 x m → Ber.digits f x = (List.range m).map fun k => UInt8.ofNat (x / 256 ^ (m - 1 - k) % 256)
  | 0, f, x, _, h => by have := h.lo; omega
  | m + 1, 0, x, hm, _ => by omega
  | m + 1, f + 1, x, hm, h => by
    simp only [Ber.digits]
    by_cases h0 : m = 0
    · subst h0
      have := h.lt
      rw [if_pos (by simpa using this)]
      simp at this
      simp [Nat.mod_eq_of_lt this]
    · have hx : 256 ≤ x := by
        have h1 : 256 ^ (m + 1 - 1) ≤ x := h.ge.resolve_left (by omega)
        have h2 : 256 ^ 1 ≤ 256 ^ m := Nat.pow_le_pow_right (by decide) (by omega)
        simp at h1; omega
      have hb : Bytes8 (x / 256) m := ⟨by omega, by have := h.hi; omega, (Nat.div_lt_iff_lt_mul (by decide)).2 (by have := h.lt; rw [Nat.pow_succ] at this; exact this), by
        by_cases h1 : m = 1
        · exact Or.inl h1
        · refine Or.inr ?_
          have h2 : 256 ^ (m + 1 - 1) ≤ x := h.ge.resolve_left (by omega)
          rw [Nat.add_sub_cancel] at h2
          exact (Nat.le_div_iff_mul_le (by decide)).2 (by rw [← Nat.pow_succ, show (m - 1).succ = m by omega]; exact h2)⟩
      have ih := digits_eq m f (x / 256) (by omega) hb
      rw [if_neg (by omega), ih, List.range_succ, List.map_append]
      congr 1
      · apply List.map_congr_left
        intro k hk
        have hk := List.mem_range.1 hk
        rw [Nat.div_div_eq_div_mul, Nat.mul_comm, ← Nat.pow_succ]
        congr 4
        omega
      · simp

set_option maxHeartbeats 1000000 in
theorem length64_any (w : World) (x m : Nat) (h : Bytes8 x m) :
    Calls Tryz.prog 95 #[.int .u64 x] w fun e w' => e = .returned (.int .i64 m) ∧ w = w' := by
  have hlo := h.lo
  have hhi := h.hi
  go_enter Tryz.func95, Tryz.ntmps95
  go_wp2
  go_loopw [0, 2] (fun t0 t2 wr => ∃ j : Nat, j < m ∧ t0 = .int .u64 ((x / 256 ^ j : Nat) : Int) ∧ t2 = .int .i64 ((j + 1 : Nat) : Int) ∧ w = wr) (fun _ t2 _ => m + 1 - (intOf t2).toNat)
  case atStart => exact ⟨0, by omega, by simp, rfl, rfl⟩
  case round =>
    obtain ⟨j, hj, rfl, rfl, rfl⟩ := hrel
    obtain ⟨y, hy⟩ : ∃ y, y = x / 256 ^ j := ⟨_, rfl⟩
    rw [← hy]
    have hy64 : y < 2 ^ 64 := Nat.lt_of_le_of_lt (by rw [hy]; exact Nat.div_le_self _ _) (Nat.lt_of_lt_of_le h.lt (Nat.le_trans (Nat.pow_le_pow_right (by decide) hhi) (by decide)))
    by_cases hjm : j + 1 < m
    · have hb := h.more hjm
      rw [← hy] at hb
      have hn : y / 256 = x / 256 ^ (j + 1) := by rw [hy, Nat.div_div_eq_div_mul, Nat.pow_succ]
      have HN := Lib.hid hn
      clear hn hy
      go_wp2
      go_roundw
      case rel => exact ⟨j + 1, hjm, by rw [← HN.out]; go_num, by go_num, by first | rfl | trivial⟩
      case measure => simp [intOf]; omega
    · have hb := h.last (j := j) (by omega)
      rw [← hy] at hb
      have hjm1 : j + 1 = m := by omega
      have HM := Lib.hid hjm1
      clear hy hjm1
      go_wp2
      go_ret
      exact ⟨by rw [← HM.out]; simp, by first | rfl | trivial⟩

theorem digit_rows {x j : Nat} {cur : Array Value} (h : Bytes8 x j) (hs : cur.size = j) (hrow : ∀ k, k < j → cur[k]? = some (.int .u8 ((x / 256 ^ (j - 1 - k) % 256 : Nat) : Int))) : cur.toList = Lib.byteCells (Ber.digits 8 x) := by
  rw [digits_eq j 8 x h.hi h]
  apply List.ext_getElem?
  intro k
  by_cases hk : k < j
  · rw [Array.getElem?_toList, hrow k hk]
    simp [Lib.byteCells, hk]
  · rw [List.getElem?_eq_none (by simp; omega), List.getElem?_eq_none (by simp [Lib.byteCells]; omega)]

set_option maxRecDepth 100000 in
set_option maxHeartbeats 4000000 in
theorem unsigned_any (w : World) (x m : Nat) (h : Bytes8 x m) :
    Calls Tryz.prog 89 #[.int .u64 x] w fun e w' => ∃ cur : Array Value, e = .returned (.slice (some ⟨w.heap.size, 0, none⟩) m m) ∧ w'.heap[w.heap.size]? = some (.cells cur 5 (0, 0)) ∧
      cur.toList = Lib.byteCells (Ber.digits 8 x) ∧ Below w.heap.size w w' := by
  have hlo := h.lo
  have hhi := h.hi
  obtain ⟨i0, hi, hz0, hz1, hz2⟩ := info_byte
  have hmk0 : ∃ M : Array Value, M.size = m ∧ (Instr.makeSlice 25 (.int .i64 (m : Int)) (.int .i64 (m : Int))).run Tryz.prog w = .ok (.slice (some ⟨w.heap.size, 0, none⟩) m m) (w.alloc (.cells M 5)) := by
    have h := run_makeSlice w 25 5 i0 (.int .u8 0) Tryz.underlying25 hi hz0 .i64 .i64 (m : Int) m (by omega) (by omega) (by rw [hz1]; omega) (by rw [hz2]; omega) (by omega)
    have h2 := size_madeCells (Value.int .u8 0).cells (Int.toNat m * i0.size)
    exact ⟨madeCells (Value.int .u8 0).cells (Int.toNat m * i0.size), by rw [h2, hz1]; simp, by simpa using h⟩
  obtain ⟨M, hM, hmk⟩ := hmk0
  have hx64 : x < 2 ^ 64 := Nat.lt_of_lt_of_le h.lt (Nat.le_trans (Nat.pow_le_pow_right (by decide) hhi) (by decide))
  go_enter Tryz.func89, Tryz.ntmps89
  go_wp2_with fail
  refine (length64_any _ x m h).mono ?_
  rintro e w1 ⟨rfl, rfl⟩
  go_wp2_with fail
  go_loopw [3, 5] (fun t3 t5 wr => ∃ (j : Nat) (cur : Array Value), j ≤ m ∧ t3 = .int .i64 ((m - j : Nat) : Int) ∧ t5 = .int .i64 j ∧ wr.heap[w.heap.size]? = some (.cells cur 5 (0, 0)) ∧ cur.size = m ∧ Below w.heap.size w wr ∧
      ∀ k, k < j → cur[k]? = some (.int .u8 ((x / 256 ^ (m - 1 - k) % 256 : Nat) : Int))) (fun t3 _ _ => (intOf t3).toNat)
  case atStart => exact ⟨0, M, by omega, rfl, rfl, heap_alloc_new w _, hM, (Below.refl _ w).alloc (Nat.le_refl _) _, fun k hk => by omega⟩
  case round =>
    obtain ⟨j, cur, hj, rfl, rfl, hg, hs, hnx, hrow⟩ := hrel
    by_cases hjm : j < m
    · obtain ⟨r, hr⟩ : ∃ r, m - j = r + 1 := ⟨m - j - 1, by omega⟩
      rw [hr]
      have hr8 : r < 8 := by omega
      have hcj : wr.cell? ⟨w.heap.size, j, none⟩ = some (cur[j]'(by omega)) := by rw [blockCell hg j]; exact Array.getElem?_eq_getElem (by omega)
      have fj := blockFrozen hg j
      have hpos : (0 : Int) < ((r + 1 : Nat) : Int) := by omega
      have hp : (2 : Nat) ^ (r * 8) = 256 ^ r := by rw [Nat.mul_comm, Nat.pow_mul]
      have HR := Lib.hid hrow
      have HJ := Lib.hid hr
      clear hrow
      go_wp2_with fail
      refine ⟨⟨j + 1, _, by omega, by congr 2; omega, by go_num, blockSet hg j _, by simp [hs], hnx.setCell (p := ⟨w.heap.size, j, none⟩) (Nat.le_refl _) _, ?_⟩, by simp [intOf]⟩
      intro k hk
      by_cases hkj : k = j
      · subst hkj
        rw [Array.getElem?_setIfInBounds_self_of_lt (by omega), show m - 1 - k = r by omega, ← hp]
        simp
      · rw [Array.getElem?_setIfInBounds_ne (by omega)]
        exact HR.out k (by omega)
    · obtain rfl : j = m := by omega
      go_wp2_with fail
      go_ret
      exact ⟨cur, rfl, hg, digit_rows h hs hrow, hnx⟩

set_option maxRecDepth 100000 in
set_option maxHeartbeats 4000000 in
theorem lenOf_any (w : World) (n : Nat) (hn : n < 2 ^ 63) :
    Calls Tryz.prog 80 #[.int .i64 n] w fun e w' => ∃ v, e = .returned v ∧ Reads w' (Lib.byteCells (Ber.lenBytes n)) v ∧ Below w.heap.size w w' := by
  obtain ⟨m, hm⟩ := bytes8_ex n (by omega)
  have hlo := hm.lo
  have hhi := hm.hi
  have hwu : IntKind.u64.wrap (n : Int) = (n : Int) := wraps_u64 _ (by omega) (by omega)
  have hdl : (Ber.digits 8 n).length = m := by rw [digits_eq m 8 n hm.hi hm]; simp
  have hun := fun w => unsigned_any w n m hm
  by_cases h127 : n < 128
  · have hm1 : m = 1 := by
      rcases hm.ge with h | h
      · exact h
      · have h1 : 256 ^ 1 ≤ 256 ^ (m - 1) ∨ m = 1 := by
          rcases Nat.lt_or_ge (m - 1) 1 with h2 | h2
          · exact Or.inr (by omega)
          · exact Or.inl (Nat.pow_le_pow_right (by decide) h2)
        rcases h1 with h1 | h1
        · omega
        · exact h1
    subst hm1
    have t1 : decide ((n : Int) > 127) = false := by simp; omega
    have HM := Lib.hid hm
    have HD := Lib.hid hdl
    clear hm hdl
    go_enter Tryz.func80, Tryz.ntmps80
    go_wp2_with fail
    refine (hun _).mono ?_
    rintro e w1 ⟨cur, rfl, hg, hcur, hb⟩
    have hcl : cur.size = 1 := by rw [← Array.length_toList, hcur]; simpa [Lib.byteCells] using HD.out
    go_wp2_with fail
    go_ret
    refine ⟨_, rfl, ?_, hb⟩
    have e1 : Ber.lenBytes n = Ber.digits 8 n := by simp [Ber.lenBytes, Ber.digits, h127, show n < 256 by omega]
    rw [e1, ← hcur]
    refine ⟨some ⟨w.heap.size, 0, none⟩, 1, by show Value.slice (some ⟨w.heap.size, 0, none⟩) 1 1 = _; rw [Array.length_toList, hcl], Or.inr ⟨_, rfl, ⟨cur, hg⟩, fun j v hj => (blockCell hg j).trans (by simpa using hj)⟩⟩
  · obtain ⟨i0, hi, hz0, hz1, hz2⟩ := info_byte
    have t1 : decide ((n : Int) > 127) = true := by simp; omega
    have hor : bits .or .u8 128 (m : Int) = ((128 + m : Nat) : Int) := by
      have := or_u8 (x := 128) (y := m) (by omega) (by omega)
      have k : ∀ y, y ≤ 8 → (128 ||| y) = 128 + y := by decide +kernel
      rw [k m hhi] at this
      exact this
    have hwm : IntKind.u8.wrap (m : Int) = (m : Int) := by rw [IntKind.wrap_u8]; omega
    have HM := Lib.hid hm
    have HD := Lib.hid hdl
    clear hm hdl
    go_enter Tryz.func80, Tryz.ntmps80
    go_wp2_with fail
    refine (hun _).mono ?_
    rintro e w1 ⟨cur, rfl, hg, hcur, hb⟩
    have hcl : cur.size = m := by rw [← Array.length_toList, hcur]; simpa [Lib.byteCells] using HD.out
    have hsz := hb.size
    obtain ⟨cs, hcs⟩ : ∃ cs, cs = Lib.byteCells (Ber.digits 8 n) := ⟨_, rfl⟩
    have hcm : cs.length = m := by rw [hcs]; simpa [Lib.byteCells] using HD.out
    have h1c : ∀ v ∈ cs, v.oneCell' = true := by intro v hv; rw [hcs] at hv; simp [Lib.byteCells] at hv; obtain ⟨_, _, rfl⟩ := hv; rfl
    have hgw : w.heap.size < w1.heap.size := blockLt hg
    have hsrc2 : ∀ j u, cs[j]? = some u → (w1.alloc (.cells #[.int .u8 (128 + (m : Int))] 5)).cell? ((⟨w.heap.size, 0, none⟩ : Addr).add j) = some u := by
      intro j u hj
      have hadd : (⟨w.heap.size, 0, none⟩ : Addr).add j = ⟨w.heap.size, j, none⟩ := by unfold Addr.add; split <;> simp_all
      rw [hadd]
      refine (World.cell?_of_block (w := w1) (Below.heap_alloc w1 _ _ hgw)).trans ((blockCell hg j).trans ?_)
      rw [← Array.getElem?_toList, hcur, ← hcs]; exact hj
    have hown : (w1.alloc (.cells #[.int .u8 (128 + (m : Int))] 5)).ownsRow w.heap.size 5 1 (.slice (some ⟨w1.heap.size, 0, none⟩) 1 1) 1 [.int .u8 (128 + (m : Int))] := ⟨by simp, Or.inr ⟨_, 1, _, rfl, hsz, heap_alloc_new w1 _, by omega, by decide, by simp, by simp⟩⟩
    have hmx : 1 + cs.length ≤ maxLen := by simp only [maxLen]; omega
    have HCS := Lib.hid hcs
    have HB := Lib.hid hb
    clear hcs hb hg hcur
    go_wp2_with (first
      | (at_builtin; refine wpList_append_own _ rfl _ _ 25 rfl w.heap.size 5 i0 (.int .u8 0) 1 1 Tryz.underlying25 hi hz0 hz1 hz2 rfl (by decide) _ _ _ rfl hown ⟨w.heap.size, 0, none⟩ m m cs rfl (by omega) hsrc2 h1c (by omega) (by omega) (by simp; omega) ?_))
    intro v' w2 hown' hgrow _
    have hb2 : Below w.heap.size w w2 := HB.out.trans (((Below.refl w.heap.size w1).alloc hsz _).trans ⟨hgrow.os, hgrow.tape, hgrow.output, hgrow.size, fun k hk => hgrow.block k (by simp; omega) (by simp [Value.ownBlock]; omega)⟩)
    have hrd := reads_of_owned hown'
    have HRD := Lib.hid hrd
    have HB2 := Lib.hid hb2
    clear hrd hb2 hgrow hown' hown hsrc2
    go_wp2
    go_ret
    refine ⟨_, rfl, ?_, HB2.out⟩
    have e1 : Lib.byteCells (Ber.lenBytes n) = .int .u8 (128 + (m : Int)) :: cs := by
      rw [HCS.out]
      simp [Ber.lenBytes, h127, Lib.byteCells, HD.out]
      omega
    rw [e1]
    exact HRD.out
end Go.Proofs.YtdfehaonngccjaaGreatDoor

/- (*Packet).Bytes. -/
namespace Go.Proofs.YtdfehaonngccjaaGreatDoor
open Go Go.RowKit

theorem BufAt.ltD {w : World} {D : Nat} {row : Option Nat} {bs : List Value} (h : BufAt w D row bs) : D < w.heap.size := by
  cases row with
  | none => obtain ⟨_, lr, hD⟩ := h; exact blockLt hD
  | some g => obtain ⟨_, lr, cap, cur, hD, _⟩ := h; exact blockLt hD
theorem BufAt.ltG {w : World} {D g : Nat} {bs : List Value} (h : BufAt w D (some g) bs) : g < w.heap.size := by
  obtain ⟨_, lr, cap, cur, hD, hg, _⟩ := h; exact blockLt hg
theorem BufAt.ty {w : World} {D : Nat} {row : Option Nat} {bs : List Value} (h : BufAt w D row bs) : ∃ cs fr, w.heap[D]? = some (.cells cs 122 fr) := by
  cases row with
  | none => obtain ⟨_, lr, hD⟩ := h; exact ⟨_, _, hD⟩
  | some g => obtain ⟨_, lr, cap, cur, hD, _⟩ := h; exact ⟨_, _, hD⟩
theorem BufAt.only {S : Nat → Prop} {w w' : World} {D : Nat} {row : Option Nat} {bs : List Value} (h : BufAt w D row bs) (k : Only S w w') (hD : ¬ S D) (hg : ∀ g, row = some g → ¬ S g) : BufAt w' D row bs :=
  h.kept (k.block D h.ltD hD) (fun g e => k.block g (by subst e; exact h.ltG) (hg g e))
theorem BufAt.same {w w' : World} {D : Nat} {row : Option Nat} {bs : List Value} (h : BufAt w D row bs) (k : Same w w') : BufAt w' D row bs := h.kept (by rw [k.heap]) (fun g _ => by rw [k.heap])
theorem BufAt.below {w w' : World} {D : Nat} {row : Option Nat} {bs : List Value} (h : BufAt w D row bs) (k : Below w.heap.size w w') : BufAt w' D row bs :=
  h.kept (k.block D h.ltD) (fun g e => k.block g (by subst e; exact h.ltG))
theorem Only.ofBelow {S : Nat → Prop} {w w' : World} (h : Below w.heap.size w w') : Only S w w' := ⟨h.os, h.tape, h.output, h.size, fun k hk _ => h.block k hk⟩

theorem Reads.src {w : World} {bs : List Value} {v : Value} {D : Nat} (h : Reads w bs v) (hD : ∃ cs fr, w.heap[D]? = some (.cells cs 122 fr)) : Src w D bs v := by
  obtain ⟨ao, c, rfl, h⟩ := h
  refine ⟨ao, c, rfl, h.imp id ?_⟩
  rintro ⟨g, rfl, ⟨cur, hg⟩, hs⟩
  refine ⟨_, rfl, ?_, fun j v hj => ?_⟩
  · rintro rfl
    obtain ⟨cs, fr, hD⟩ := hD
    rw [hg] at hD
    injection hD with hD
    injection hD with _ h2 _
    exact absurd h2 (by decide)
  · have hadd : (⟨g, 0, none⟩ : Addr).add j = ⟨g, j, none⟩ := by unfold Addr.add; split <;> simp_all
    rw [hadd]; exact hs j v hj

theorem cells1 (l : List UInt8) : ∀ v ∈ Lib.byteCells l, v.oneCell' = true := by
  intro v hv
  simp only [Lib.byteCells, List.mem_map] at hv
  obtain ⟨_, _, rfl⟩ := hv
  rfl
theorem cells_length (l : List UInt8) : (Lib.byteCells l).length = l.length := by simp [Lib.byteCells]

/-- Write of bytes to a buffer of bytes. -/
theorem write_bytes (w : World) (D : Nat) (row : Option Nat) (l m : List UInt8) (v : Value) (h : BufAt w D row (Lib.byteCells l)) (hs : Reads w (Lib.byteCells m) v) (hlim : l.length + m.length ≤ 140737488355328) :
    Calls Tryz.prog 54 #[.pointer (some ⟨D, 0, none⟩), v] w fun e w' => e = .returned (.tuple #[.int .i64 m.length, .nilIface]) ∧ Wrote D row (Lib.byteCells (l ++ m)) w w' := by
  rw [byteCells_append]
  exact write_any w D row _ _ v _ h (hs.src h.ty) (by rw [cells_length]) (cells1 l) (cells1 m) (by rw [cells_length, cells_length]; exact hlim)

theorem Only.toBelow {S : Nat → Prop} {B : Nat} {a w w' : World} (h : Below B a w) (hB : B ≤ a.heap.size) (k : Only S w w') (hS : ∀ i, S i → B ≤ i) : Below B a w' :=
  ⟨k.os.trans h.os, k.tape.trans h.tape, k.output.trans h.output, Nat.le_trans h.size k.size, fun i hi =>
    (k.block i (by have := h.size; omega) (fun e => by have := hS i e; omega)).trans (h.block i hi)⟩
theorem Same.toBelow {w w' : World} (h : Same w w') (B : Nat) : Below B w w' := ⟨h.os, h.tape, h.output, by rw [h.heap]; exact Nat.le_refl _, fun k _ => by rw [h.heap]⟩

theorem identBytes_len (c : Nat) (b : Bool) (t : Nat) : (Ber.identBytes c b t).length ≤ 13 := by
  unfold Ber.identBytes
  split
  · simp
  · rename_i h
    have := tagBytes_len t (by omega)
    simp; omega
theorem digits_len : ∀ f n, (Ber.digits f n).length ≤ f
  | 0, n => by simp [Ber.digits]
  | f + 1, n => by simp only [Ber.digits]; split; simp; have := digits_len f (n / 256); simp; omega
theorem lenBytes_len (n : Nat) : (Ber.lenBytes n).length ≤ 9 := by
  unfold Ber.lenBytes
  split
  · simp
  · have := digits_len 8 n; simp; omega

set_option maxRecDepth 100000 in
set_option maxHeartbeats 4000000 in
theorem bytes_any (w : World) (p D : Nat) (row : Option Nat) (c t : Nat) (b : Bool) (l : List UInt8) (v3 v4 v6 v7 : Value) (hc : c < 4) (ht : t < 2 ^ 64) (hl : l.length ≤ 100000000000)
    (hp : w.heap[p]? = some (.cells #[.int .u8 ((c * 64 : Nat) : Int), .int .u8 (if b then 32 else 0), .int .u64 t, v3, v4, .pointer (some ⟨D, 0, none⟩), v6, v7] 92 (0, 0)))
    (hb : BufAt w D row (Lib.byteCells l)) :
    Calls Tryz.prog 67 #[.pointer (some ⟨p, 0, none⟩)] w fun e w' => ∃ v, e = .returned v ∧ Reads w' (Lib.byteCells (Ber.identBytes c b t ++ (Ber.lenBytes l.length ++ l))) v ∧ Below w.heap.size w w' := by
  have hplt := blockLt hp
  obtain ⟨y, hy⟩ : ∃ y : Int, y = (if b then 32 else 0) := ⟨_, rfl⟩
  have hidt : ∀ W, Calls Tryz.prog 79 #[.agg #[.int .u8 ((c * 64 : Nat) : Int), .int .u8 y, .int .u64 t]] W fun e w' => ∃ v, e = .returned v ∧ Reads w' (Lib.byteCells (Ber.identBytes c b t)) v ∧ Below W.heap.size W w' := by
    intro W; rw [hy]; exact identOf_any W c hc b t ht
  rw [← hy] at hp
  have h0 : (w.alloc (.cells #[.slice none 0 0, .int .i64 0, .int .i8 0] 122)).heap[p]? = some (.cells #[.int .u8 ((c * 64 : Nat) : Int), .int .u8 y, .int .u64 t, v3, v4, .pointer (some ⟨D, 0, none⟩), v6, v7] 92 (0, 0)) := (Below.heap_alloc w _ p hplt).trans hp
  have c0 := blockCell h0 0
  have c1 := blockCell h0 1
  have c2 := blockCell h0 2
  have hb0 : BufAt (w.alloc (.cells #[.slice none 0 0, .int .i64 0, .int .i8 0] 122)) D row (Lib.byteCells l) := hb.below ((Below.refl _ w).alloc (Nat.le_refl _) _)
  have hout0 : BufAt (w.alloc (.cells #[.slice none 0 0, .int .i64 0, .int .i8 0] 122)) w.heap.size none (Lib.byteCells []) := ⟨rfl, 0, heap_alloc_new w _⟩
  have HY := Lib.hid hy
  have HP := Lib.hid h0
  have HB0 := Lib.hid hb0
  have HO0 := Lib.hid hout0
  have HDNE := Lib.hid (show D ≠ w.heap.size from Nat.ne_of_lt hb.ltD)
  have HGNE := Lib.hid (show row ≠ some w.heap.size from fun e => by subst e; exact Nat.lt_irrefl _ hb.ltG)
  clear hp h0 hb0 hout0 hy hb
  go_enter Tryz.func67, Tryz.ntmps67
  go_wp2_with fail
  refine (hidt _).mono ?_
  rintro e w1 ⟨v1, rfl, hv1, hbel1⟩
  have hsz1 : w.heap.size + 1 ≤ w1.heap.size := by have := hbel1.size; simpa using this
  have hout1 := HO0.out.below hbel1
  have hbd1 := HB0.out.below hbel1
  have hp1 := (hbel1.block p (by simp; omega)).trans HP.out
  have hDlt := hbd1.ltD
  have hD0 : D < w.heap.size + 1 := by have := HB0.out.ltD; simpa using this
  have hDne : D ≠ w.heap.size := HDNE.out
  have hGne : row ≠ some w.heap.size := HGNE.out
  have hG0 : ∀ g, row = some g → g < w.heap.size + 1 := fun g e => by subst e; have := HB0.out.ltG; simpa using this
  go_wp2_with fail
  refine (write_bytes w1 w.heap.size none [] _ v1 hout1 hv1 (by have := identBytes_len c b t; simp; omega)).mono ?_
  rintro e w2 ⟨rfl, row2, hout2, hr2, hf2⟩
  have hbd2 := hbd1.only hf2 (by rintro (h | h); exact hDne h; cases h) (fun g e => by rintro (h | h); exact hGne (by rw [e, h]); cases h)
  have hp2 := (hf2.block p (by omega) (by rintro (h | h); omega; cases h)).trans hp1
  have hsz2 := hf2.size
  have d2 := blockCell hp2 3
  have d5 := blockCell hp2 5
  go_wp2_with fail
  refine (buf_len w2 D row _ hbd2).mono ?_
  rintro e w3 ⟨rfl, hs3⟩
  rw [cells_length]
  go_wp2_with fail
  refine (lenOf_any w3 l.length (by omega)).mono ?_
  rintro e w4 ⟨v4', rfl, hv4, hbel4⟩
  rw [List.nil_append] at hout2
  have hout4 := (hout2.same hs3).below hbel4
  have hbd4 := (hbd2.same hs3).below hbel4
  have hp4 := (hbel4.block p (by rw [hs3.heap]; omega)).trans ((congrArg (fun h => h[p]?) hs3.heap).trans hp2)
  have hsz4 : w2.heap.size ≤ w4.heap.size := by have := hbel4.size; rw [hs3.heap] at this; exact this
  have hilen := identBytes_len c b t
  have hllen := lenBytes_len l.length
  have hr2G : ∀ g, row2 = some g → w.heap.size < g ∧ row ≠ some g := fun g e => by
    rcases hr2 with h | ⟨g', h, hg'⟩
    · rw [h] at e; cases e
    · rw [h] at e; obtain rfl := Option.some.inj e
      exact ⟨by omega, fun e2 => by have := hG0 _ e2; omega⟩
  have hr2D : ∀ g, row2 = some g → g ≠ D := fun g e => by have := (hr2G g e).1; omega
  have hr2p : ∀ g, row2 = some g → g ≠ p := fun g e => by have := (hr2G g e).1; omega
  go_wp2_with fail
  refine (write_bytes w4 w.heap.size row2 _ _ v4' hout4 hv4 (by omega)).mono ?_
  rintro e w5 ⟨rfl, row5, hout5, hr5, hf5⟩
  have hbd5 := hbd4.only hf5 (by rintro (h | h); exact hDne h; exact hr2D _ h rfl) (fun g e => by rintro (h | h); exact hGne (by rw [e, h]); exact (hr2G _ h).2 e)
  have hp5 := (hf5.block p (by omega) (by rintro (h | h); omega; exact hr2p _ h rfl)).trans hp4
  have hsz5 := hf5.size
  have e5 := blockCell hp5 5
  go_wp2_with fail
  refine (buf_bytes w5 D row _ hbd5).mono ?_
  rintro e w6 ⟨v6', rfl, hv6, hs6⟩
  have hr5G : ∀ g, row5 = some g → w.heap.size < g := fun g e => by
    rcases hr5 with h | ⟨g', h, hg'⟩
    · exact (hr2G g (by rw [← h]; exact e)).1
    · rw [h] at e; obtain rfl := Option.some.inj e; omega
  go_wp2_with fail
  refine (write_bytes w6 w.heap.size row5 _ l v6' (hout5.same hs6) hv6 (by simp; omega)).mono ?_
  rintro e w7 ⟨rfl, row7, hout7, hr7, hf7⟩
  go_wp2_with fail
  refine (buf_bytes w7 _ row7 _ hout7).mono ?_
  rintro e w8 ⟨v8, rfl, hv8, hs8⟩
  have hfin : Below w.heap.size w w8 := by
    have k1 : Below w.heap.size w w1 := ((Below.refl _ w).alloc (Nat.le_refl _) _).trans (hbel1.mono (by simp))
    have k2 := Only.toBelow k1 (Nat.le_refl _) hf2 (by rintro k (h | h); omega; cases h)
    have k3 := k2.trans (Same.toBelow hs3 w.heap.size)
    have k4 := k3.trans (hbel4.mono (by rw [hs3.heap]; omega))
    have k5 := Only.toBelow k4 (Nat.le_refl _) hf5 (by rintro k (h | h); omega; have := (hr2G _ h).1; omega)
    have k6 := k5.trans (Same.toBelow hs6 w.heap.size)
    have k7 := Only.toBelow k6 (Nat.le_refl _) hf7 (by rintro k (h | h); omega; have := hr5G _ h; omega)
    exact k7.trans (Same.toBelow hs8 w.heap.size)
  have HV8 := Lib.hid hv8
  have HFIN := Lib.hid hfin
  clear hv8 hfin hout7 hout5 hout4 hout2 hout1
  go_wp2
  go_ret
  exact ⟨_, rfl, by have := HV8.out; rwa [List.append_assoc] at this, HFIN.out⟩
end Go.Proofs.YtdfehaonngccjaaGreatDoor

/- (*Packet).AppendChild. -/
namespace Go.Proofs.YtdfehaonngccjaaGreatDoor
open Go Go.RowKit

/-- A row of pointers to packets. -/
def KidRow (w : World) (C cap : Nat) (xs : List Value) : Prop :=
  ∃ cur : Array Value, w.heap[C]? = some (.cells cur 53 (0, 0)) ∧ xs.length ≤ cap ∧ cap ≤ maxLen ∧ cur.size = cap ∧ cur.toList.take xs.length = xs
theorem KidRow.lt {w : World} {C cap : Nat} {xs : List Value} (h : KidRow w C cap xs) : C < w.heap.size := by obtain ⟨cur, h1, _⟩ := h; exact blockLt h1
theorem KidRow.stays {w w' : World} {C cap : Nat} {xs : List Value} (h : KidRow w C cap xs) (k : w'.heap[C]? = w.heap[C]?) : KidRow w' C cap xs := by
  obtain ⟨cur, h1, h2⟩ := h; exact ⟨cur, k.trans h1, h2⟩
theorem KidRow.own {w : World} {C cap : Nat} {xs : List Value} (h : KidRow w C cap xs) : w.ownsRow 0 53 1 (.slice (some ⟨C, 0, none⟩) xs.length cap) xs.length xs := by
  obtain ⟨cur, h1, h2, h3, h4, h5⟩ := h
  exact ⟨by simp, Or.inr ⟨C, cap, cur, rfl, Nat.zero_le _, h1, h2, h3, by simpa using h4, by simpa using h5⟩⟩
theorem KidRow.of {w : World} {v : Value} {n : Nat} {xs : List Value} (h : w.ownsRow 0 53 1 v n xs) (hn : 0 < n) : ∃ C cap, v = .slice (some ⟨C, 0, none⟩) n cap ∧ n = xs.length ∧ KidRow w C cap xs := by
  have hl : xs.length = n := by simpa using h.1
  rcases h.2 with ⟨_, h0⟩ | ⟨C, cap, cur, hv, _, hg, h2, h3, h4, h5⟩
  · omega
  · exact ⟨C, cap, hv, hl.symm, cur, hg, by omega, h3, by simpa using h4, by rw [Nat.mul_one] at h5; rw [hl]; exact h5⟩
theorem KidRow.cell {w : World} {C cap : Nat} {xs : List Value} (h : KidRow w C cap xs) {j : Nat} {v : Value} (hj : xs[j]? = some v) : w.cell? ⟨C, j, none⟩ = some v := by
  obtain ⟨cur, h1, h2, h3, h4, h5⟩ := h
  rw [blockCell h1 j]
  rw [← h5] at hj
  simp only [List.getElem?_take] at hj
  split at hj
  · simpa using hj
  · cases hj

theorem info_ptr : ∃ i, Tryz.prog.info? 53 = some i ∧ i.zero = some (.pointer none) ∧ i.size = 1 ∧ i.bytes = 8 := info_parts (by kernel_rfl)

/-- Blocks of other types are other blocks. -/
theorem ne_of_types {w : World} {a b : Nat} {x y : Array Value} {t u : TypeId} {f g : Nat × Nat} (ha : w.heap[a]? = some (.cells x t f)) (hb : w.heap[b]? = some (.cells y u g)) (h : t ≠ u) : a ≠ b := by
  rintro rfl
  rw [ha] at hb
  injection hb with hb
  injection hb with _ h2 _
  exact h h2

/-- The block of a packet. -/
def PkCells (a0 a1 a2 : Int) (val bv : Value) (D : Nat) (kv ds : Value) : Array Value := #[.int .u8 a0, .int .u8 a1, .int .u64 a2, val, bv, .pointer (some ⟨D, 0, none⟩), kv, ds]

theorem app_end {w w1 w2 w3 w4 : World} {P D C cap q : Nat} {row row2 : Option Nat} {a0 a1 a2 : Int} {val bv ds : Value} {xs : List Value} {bs : List Value} {v' : Value}
    (hP : w.heap[P]? = some (.cells (PkCells a0 a1 a2 val bv D (.slice (some ⟨C, 0, none⟩) xs.length cap) ds) 92 (0, 0)))
    (hk : KidRow w C cap xs) (hDt : ∃ cs fr, w.heap[D]? = some (.cells cs 122 fr)) (hrt : ∀ g, row = some g → ∃ cs, w.heap[g]? = some (.cells cs 5 (0, 0)))
    (hbel : Below w.heap.size w w1) (hb2 : BufAt w2 D row2 bs) (hr2 : row2 = row ∨ ∃ g, row2 = some g ∧ w1.heap.size ≤ g) (hf2 : Only (fun k => k = D ∨ row = some k) w1 w2)
    (hw3 : w3 = w2.alloc (.cells #[.pointer (some ⟨q, 0, none⟩)] 53)) (hown : w4.ownsRow 0 53 1 v' (xs.length + 1) (xs ++ [.pointer (some ⟨q, 0, none⟩)]))
    (hgr : w3.grownBy w4 (some C)) (hat : v'.ownBlock = some C ∨ v'.ownBlock = some w3.heap.size) :
    ∃ row' C' cap', v' = .slice (some ⟨C', 0, none⟩) (xs.length + 1) cap' ∧
      (w4.setCell ⟨P, 6, none⟩ v').heap[P]? = some (.cells (PkCells a0 a1 a2 val bv D v' ds) 92 (0, 0)) ∧ BufAt (w4.setCell ⟨P, 6, none⟩ v') D row' bs ∧
      KidRow (w4.setCell ⟨P, 6, none⟩ v') C' cap' (xs ++ [.pointer (some ⟨q, 0, none⟩)]) ∧ (row' = row ∨ ∃ g, row' = some g ∧ w.heap.size ≤ g) ∧ (C' = C ∨ w.heap.size ≤ C') ∧
      Only (fun k => k = P ∨ k = D ∨ row = some k ∨ k = C) w (w4.setCell ⟨P, 6, none⟩ v') := by
  have hPlt := blockLt hP
  obtain ⟨dcs, dfr, hDt⟩ := hDt
  have hDlt := blockLt hDt
  have hClt := hk.lt
  obtain ⟨cur, hC, hk2⟩ := id hk
  have hPD : P ≠ D := ne_of_types hP hDt (by decide)
  have hPC : P ≠ C := ne_of_types hP hC (by decide)
  have hCD : C ≠ D := ne_of_types hC hDt (by decide)
  have hrC : row ≠ some C := fun e => by obtain ⟨cs, h⟩ := hrt _ e; exact ne_of_types h hC (by decide) rfl
  have hrP : row ≠ some P := fun e => by obtain ⟨cs, h⟩ := hrt _ e; exact ne_of_types h hP (by decide) rfl
  have hrlt : ∀ g, row = some g → g < w.heap.size := fun g e => by obtain ⟨cs, h⟩ := hrt _ e; exact blockLt h
  have hsz1 := hbel.size
  have hsz2 := hf2.size
  have hsz3 : w3.heap.size = w2.heap.size + 1 := by rw [hw3]; simp
  have hsz4 := hgr.size
  have h12 : Only (fun k => k = P ∨ k = D ∨ row = some k ∨ k = C) w w2 := (Only.ofBelow hbel).trans2 hf2 (fun i _ h => by rcases h with h | h; exact Or.inr (Or.inl h); exact Or.inr (Or.inr (Or.inl h)))
  have h3 : Only (fun k => k = P ∨ k = D ∨ row = some k ∨ k = C) w w3 := by rw [hw3]; exact h12.alloc _
  have h4 : Only (fun k => k = P ∨ k = D ∨ row = some k ∨ k = C) w w4 := h3.trans2 ⟨hgr.os, hgr.tape, hgr.output, hgr.size, fun k hk hs => hgr.block k hk (fun e => hs (Option.some.inj e))⟩ (T := fun k => k = C) (fun i _ h => Or.inr (Or.inr (Or.inr h)))
  have hP2 : w2.heap[P]? = w.heap[P]? := (hf2.block P (by omega) (by rintro (h | h); exact hPD h; exact hrP h)).trans (hbel.block P hPlt)
  have hP4 : w4.heap[P]? = w.heap[P]? := (hgr.block P (by omega) (fun h => hPC (Option.some.inj h))).trans ((by rw [hw3]; exact Below.heap_alloc w2 _ P (by omega) : w3.heap[P]? = w2.heap[P]?).trans hP2)
  have hD2lt := hb2.ltD
  have hr2lt : ∀ g, row2 = some g → g < w2.heap.size ∧ g ≠ C ∧ g ≠ P := fun g e => by
    have h1 : g < w2.heap.size := by subst e; exact hb2.ltG
    refine ⟨h1, ?_, ?_⟩
    · rintro rfl
      rcases hr2 with h | ⟨g', h, h'⟩
      · exact hrC (by rw [← h]; exact e)
      · rw [h] at e; injection e with e; omega
    · rintro rfl
      rcases hr2 with h | ⟨g', h, h'⟩
      · exact hrP (by rw [← h]; exact e)
      · rw [h] at e; injection e with e; omega
  have hstay : ∀ k, k < w2.heap.size → k ≠ C → k ≠ P → (w4.setCell ⟨P, 6, none⟩ v').heap[k]? = w2.heap[k]? := fun k hk h1 h2 => by
    rw [Below.heap_setCell _ _ _ _ (by show k ≠ P; exact h2), hgr.block k (by omega) (fun h => h1 (Option.some.inj h)), hw3, Below.heap_alloc w2 _ k hk]
  obtain ⟨C', cap', hv', hn', hk'⟩ := KidRow.of hown (by omega)
  have hC' : C' = C ∨ C' = w3.heap.size := by
    rw [hv'] at hat
    simp only [Value.ownBlock, Option.some.injEq] at hat
    exact hat
  have hC'P : C' ≠ P := by rcases hC' with h | h <;> omega
  refine ⟨row2, C', cap', hv', ?_, ?_, ?_, ?_, ?_, ?_⟩
  · have := blockSet (hP4.trans hP) 6 v'
    simpa [PkCells] using this
  · exact hb2.kept (hstay D hD2lt (fun e => hCD e.symm) (fun e => hPD e.symm)) (fun g e => hstay g (hr2lt g e).1 (hr2lt g e).2.1 (hr2lt g e).2.2)
  · exact hk'.stays (Below.heap_setCell _ _ _ _ hC'P)
  · rcases hr2 with h | ⟨g, h, h'⟩
    · exact Or.inl h
    · exact Or.inr ⟨g, h, by omega⟩
  · rcases hC' with h | h
    · exact Or.inl h
    · exact Or.inr (by omega)
  · exact h4.setCell (Or.inr (Or.inl rfl)) _

set_option maxRecDepth 100000 in
set_option maxHeartbeats 4000000 in
theorem append_any (w : World) (P D C cap q D2 : Nat) (row rowq : Option Nat) (a0 a1 a2 : Int) (val bv ds : Value) (xs : List Value) (l m : List UInt8) (c t : Nat) (b : Bool) (u3 u4 u6 u7 : Value) (hc : c < 4) (ht : t < 2 ^ 64)
    (hP : w.heap[P]? = some (.cells (PkCells a0 a1 a2 val bv D (.slice (some ⟨C, 0, none⟩) xs.length cap) ds) 92 (0, 0))) (hk : KidRow w C cap xs) (hx : xs.length ≤ 100000000000)
    (hb : BufAt w D row (Lib.byteCells l)) (hl : l.length ≤ 100000000000) (hm : m.length ≤ 100000000000)
    (hq : w.heap[q]? = some (.cells #[.int .u8 ((c * 64 : Nat) : Int), .int .u8 (if b then 32 else 0), .int .u64 t, u3, u4, .pointer (some ⟨D2, 0, none⟩), u6, u7] 92 (0, 0)))
    (hbq : BufAt w D2 rowq (Lib.byteCells m)) :
    Calls Tryz.prog 51 #[.pointer (some ⟨P, 0, none⟩), .pointer (some ⟨q, 0, none⟩)] w fun e w' => (∃ v, e = .returned v) ∧ ∃ row' C' cap',
      w'.heap[P]? = some (.cells (PkCells a0 a1 a2 val bv D (.slice (some ⟨C', 0, none⟩) (xs.length + 1) cap') ds) 92 (0, 0)) ∧ BufAt w' D row' (Lib.byteCells (l ++ (Ber.identBytes c b t ++ (Ber.lenBytes m.length ++ m)))) ∧
      KidRow w' C' cap' (xs ++ [.pointer (some ⟨q, 0, none⟩)]) ∧ (row' = row ∨ ∃ g, row' = some g ∧ w.heap.size ≤ g) ∧ (C' = C ∨ w.heap.size ≤ C') ∧ Only (fun k => k = P ∨ k = D ∨ row = some k ∨ k = C) w w' := by
  obtain ⟨i0, hi, hz0, hz1, hz2⟩ := info_ptr
  have hPlt := blockLt hP
  have c5 : w.drew.cell? ⟨P, 5, none⟩ = some (.pointer (some ⟨D, 0, none⟩)) := blockCell hP 5
  have hq' : w.drew.heap[q]? = _ := hq
  have hbq' : BufAt w.drew D2 rowq (Lib.byteCells m) := hbq
  have hDt := hb.ty
  have hrt : ∀ g, row = some g → ∃ cs, w.heap[g]? = some (.cells cs 5 (0, 0)) := fun g e => by subst e; obtain ⟨_, lr, cap, cur, hD, hg, _⟩ := hb; exact ⟨_, hg⟩
  have hby : Calls Tryz.prog 67 #[.pointer (some ⟨q, 0, none⟩)] w.drew fun e w' => ∃ v, e = .returned v ∧ Reads w' (Lib.byteCells (Ber.identBytes c b t ++ (Ber.lenBytes m.length ++ m))) v ∧ Below w.heap.size w w' :=
    (bytes_any w.drew q D2 rowq c t b m u3 u4 u6 u7 hc ht hm hq' hbq').mono fun e w' ⟨v, h1, h2, h3⟩ => ⟨v, h1, h2, ⟨h3.os, h3.tape, h3.output, h3.size, h3.block⟩⟩
  have HBY := Lib.hid hby
  have HP := Lib.hid hP
  have HK := Lib.hid hk
  have HB := Lib.hid hb
  clear hby hP hk hb hq hq' hbq hbq'
  have hPD : P ≠ D := by obtain ⟨_, _, hD⟩ := hDt; exact ne_of_types HP.out hD (by decide)
  have hPrt : ∀ g, row = some g → P ≠ g := fun g e => by obtain ⟨cs, h⟩ := hrt g e; exact ne_of_types HP.out h (by decide)
  have HDT := Lib.hid hDt
  have HRT := Lib.hid hrt
  have HPRT := Lib.hid hPrt
  clear hDt hrt hPrt
  go_enter Tryz.func51, Tryz.ntmps51
  go_wp2_with fail
  go_region_with (first
    | (go_at_call 67; go_loud (refine HBY.out.mono ?_; rintro e w1 ⟨v1, rfl, hv1, hbel1⟩; have hP1 := (hbel1.block P hPlt).trans HP.out; have c51 : w1.cell? ⟨P, 5, none⟩ = some (.pointer (some ⟨D, 0, none⟩)) := blockCell hP1 5; have hb1 := HB.out.below (w' := w1) hbel1))
    | (go_at_call 54; refine (write_bytes w1 D row _ _ v1 hb1 hv1 (by have := identBytes_len c b t; have := lenBytes_len m.length; simp; omega)).mono ?_; rintro e w2 ⟨rfl, row2, hout2, hr2, hf2⟩))
  all_goals
    have hP2 := (hf2.block P (by have := hbel1.size; omega) (by rintro (h | h); exact hPD h; exact HPRT.out _ h rfl)).trans hP1
    have c26 : w2.cell? ⟨P, 6, none⟩ = some (.slice (some ⟨C, 0, none⟩) xs.length cap) := blockCell hP2 6
    have hk2 : KidRow w2 C cap xs := by
      obtain ⟨cur, hC, _⟩ := id HK.out
      obtain ⟨_, _, hD⟩ := HDT.out
      refine (HK.out.stays (hbel1.block C HK.out.lt)).stays (hf2.block C (by have := hbel1.size; have := HK.out.lt; omega) ?_)
      rintro (h | h)
      · exact ne_of_types hC hD (by decide) h
      · obtain ⟨cs, h2⟩ := HRT.out _ h
        exact ne_of_types h2 hC (by decide) rfl
    have hown2 : (w2.alloc (.cells #[.pointer (some ⟨q, 0, none⟩)] 53)).ownsRow 0 53 1 (.slice (some ⟨C, 0, none⟩) xs.length cap) xs.length xs := (hk2.stays (Below.heap_alloc w2 _ C hk2.lt)).own
    have hmx : xs.length + 1 ≤ maxLen := by simp only [maxLen]; omega
    have HP2 := Lib.hid hP2
    have HK2 := Lib.hid hk2
    clear hP2 hk2 hv1 hP1 hb1
    go_wp2_with (first
      | (at_builtin; refine wpList_append_own_at _ rfl _ _ 81 rfl 0 53 i0 (.pointer none) 1 8 Tryz.underlying81 hi hz0 hz1 hz2 rfl (by decide) _ _ _ rfl hown2 ⟨w2.heap.size, 0, none⟩ 1 1 [.pointer (some ⟨q, 0, none⟩)] rfl rfl (cell_one_new w2 _ _) (by intro u hu; simp at hu; subst hu; rfl) hmx (by omega) (Nat.zero_le _) ?_))
    intro v' w4 hown' hgrow _ hat
    have hP4 : w4.heap[P]? = _ := (hgrow.block P (by have := blockLt HP2.out; simp; omega) (by
      obtain ⟨cur, hC, _⟩ := id HK2.out
      simp only [Value.ownBlock, ne_eq, Option.some.injEq]
      exact ne_of_types HP2.out hC (by decide))).trans ((Below.heap_alloc w2 _ P (blockLt HP2.out)).trans HP2.out)
    have c46 : w4.cell? ⟨P, 6, none⟩ = some (.slice (some ⟨C, 0, none⟩) xs.length cap) := blockCell hP4 6
    have f46 := blockFrozen hP4 6
    obtain ⟨row', C', cap', rfl, hE⟩ := app_end HP.out HK.out HDT.out HRT.out hbel1 hout2 hr2 hf2 rfl hown' hgrow (hat.imp id (fun h => by rw [h]; simp))
    have HE := Lib.hid hE
    clear hE hown' hgrow hat hP4 hown2 hout2 hr2 hf2 hbel1
    go_wp2
    exact bodyPost_end (results_none (by rfl) _ _ _) rfl ⟨⟨_, rfl⟩, row', C', cap', HE.out⟩
end Go.Proofs.YtdfehaonngccjaaGreatDoor

/- io.LimitedReader's Read. -/
namespace Go.Proofs.YtdfehaonngccjaaGreatDoor
open Go Go.RowKit

theorem nil_ahead_lim (a : Addr) (w : World) : (nilAhead 319 148 (.pointer (some a)) "Read").run Tryz.prog w = .ok (some false) w := by kernel_rfl
theorem method_lim (a : Addr) (w : World) : (method 319 148 (.pointer (some a)) "Read").run Tryz.prog w = .ok (131, .pointer (some a)) w := by kernel_rfl

theorem lim_zero (w : World) (L : Nat) (rv : Value) (n : Int) (hL : w.heap[L]? = some (.cells #[rv, .int .i64 n] 150 (0, 0))) (hn : n ≤ 0) (ev : Value) (hE : w.cell? ⟨0, 0, none⟩ = some ev) (dp : Option Addr) (m c : Nat) :
    Calls Tryz.prog 131 #[.pointer (some ⟨L, 0, none⟩), .slice dp m c] w fun e w' => e = .returned (.tuple #[.int .i64 0, ev]) ∧ Same w w' := by
  have c1 : w.cell? ⟨L, 1, none⟩ = some (.int .i64 n) := blockCell hL 1
  clear hL
  go_enter Tryz.func131, Tryz.ntmps131
  go_wp2
  go_quiet (fail)
  go_wp2
  go_ret2
  exact ⟨rfl, (Same.refl w).drewN _⟩

theorem lim_end (w : World) (L R A : Nat) (l : List UInt8) (h : Rd w R A l l.length) (n : Nat) (hL : w.heap[L]? = some (.cells #[.iface 60 (.pointer (some ⟨R, 0, none⟩)), .int .i64 n] 150 (0, 0))) (hn : 0 < n) (hn2 : n < 1000000000000)
    (te : TypeId) (pe : Addr) (hE : w.cell? ⟨0, 0, none⟩ = some (.iface te (.pointer (some pe)))) (g off m c : Nat) (hmc : m ≤ c) (_hc : c < 1000000000000) :
    Calls Tryz.prog 131 #[.pointer (some ⟨L, 0, none⟩), .slice (some ⟨g, off, none⟩) m c] w fun e w' => e = .returned (.tuple #[.int .i64 0, .iface te (.pointer (some pe))]) ∧ Keep w.heap.size L w w' := by
  have c0 : w.cell? ⟨L, 0, none⟩ = some (.iface 60 (.pointer (some ⟨R, 0, none⟩))) := blockCell hL 0
  have c1 : w.cell? ⟨L, 1, none⟩ = some (.int .i64 n) := blockCell hL 1
  have f1 := blockFrozen hL 1
  have hme := method_reader
  have HL := Lib.hid hL
  clear hL
  by_cases hmn : n < m
  all_goals
    go_enter Tryz.func131, Tryz.ntmps131
    go_wp2_with fail
    refine (reader_end _ R A l h _ hE _ _ _).mono ?_
    rintro e w1 ⟨rfl, hs⟩
    have d1 : w1.cell? ⟨L, 1, none⟩ = some (.int .i64 n) := (hs.cell _).trans c1
    have g1 : w1.frozen? ⟨L, 1, none⟩ = false := (hs.frozen _).trans f1
    go_wp2
    go_ret2
    exact ⟨rfl, (hs.keep w.heap.size L).setCell (p := ⟨L, 1, none⟩) (Or.inr rfl) _⟩

theorem lim_some (w : World) (L R A : Nat) (l : List UInt8) (i : Nat) (h : Rd w R A l i) (hi : i < l.length) (n : Nat) (hL : w.heap[L]? = some (.cells #[.iface 60 (.pointer (some ⟨R, 0, none⟩)), .int .i64 n] 150 (0, 0))) (hn : 0 < n) (hn2 : n < 1000000000000)
    (g off m c : Nat) (hmc : m ≤ c) (hc : c < 1000000000000) (cur : List Value) (hg : w.heap[g]? = some (.cells cur.toArray 5 (0, 0))) (hgR : g ≠ R) (hgA : g ≠ A) (hLR : L ≠ R) (hLA : L ≠ A) (hLg : L < g) (hfit : off + m ≤ cur.length) (B : Nat) (hBL : B ≤ L) :
    Calls Tryz.prog 131 #[.pointer (some ⟨L, 0, none⟩), .slice (some ⟨g, off, none⟩) m c] w fun e w' =>
      e = .returned (.tuple #[.int .i64 (min (min m n) (l.length - i) : Nat), .nilIface]) ∧ Keep B R w w' ∧ Rd w' R A l (i + min (min m n) (l.length - i)) ∧
      w'.heap[L]? = some (.cells #[.iface 60 (.pointer (some ⟨R, 0, none⟩)), .int .i64 (n - min (min m n) (l.length - i) : Nat)] 150 (0, 0)) ∧
      w'.heap[g]? = some (.cells (splice cur off (Lib.byteCells ((l.drop i).take (min m n)))).toArray 5 (0, 0)) ∧ w'.heap.size = w.heap.size := by
  have c0 : w.cell? ⟨L, 0, none⟩ = some (.iface 60 (.pointer (some ⟨R, 0, none⟩))) := blockCell hL 0
  have c1 : w.cell? ⟨L, 1, none⟩ = some (.int .i64 n) := blockCell hL 1
  have hme := method_reader
  have HL := Lib.hid hL
  have hlen := h.len
  have hLlt := blockLt hL
  have hglt := blockLt hg
  clear hL
  obtain ⟨mm, hmm⟩ : ∃ mm, mm = min m n := ⟨_, rfl⟩
  have hq : ∃ q, q = min mm (l.length - i) := ⟨_, rfl⟩
  obtain ⟨q, hq⟩ := hq
  rw [← hmm, ← hq]
  have hqn : q ≤ n := by omega
  have hql : q ≤ l.length := by omega
  have HMM := Lib.hid hmm
  have HQ := Lib.hid hq
  clear hmm hq
  have fin : ∀ w1 : World, Keep g R w w1 → Rd w1 R A l (i + q) → w1.heap[g]? = some (.cells (splice cur off (Lib.byteCells ((l.drop i).take mm))).toArray 5 (0, 0)) → w1.heap.size = w.heap.size →
      Keep B R w (w1.setCell ⟨L, 1, none⟩ (.int .i64 ((n : Int) - q))) ∧ Rd (w1.setCell ⟨L, 1, none⟩ (.int .i64 ((n : Int) - q))) R A l (i + q) ∧
      (w1.setCell ⟨L, 1, none⟩ (.int .i64 ((n : Int) - q))).heap[L]? = some (.cells #[.iface 60 (.pointer (some ⟨R, 0, none⟩)), .int .i64 (n - q : Nat)] 150 (0, 0)) ∧
      (w1.setCell ⟨L, 1, none⟩ (.int .i64 ((n : Int) - q))).heap[g]? = some (.cells (splice cur off (Lib.byteCells ((l.drop i).take mm))).toArray 5 (0, 0)) ∧ (w1.setCell ⟨L, 1, none⟩ (.int .i64 ((n : Int) - q))).heap.size = w.heap.size := by
    intro w1 hkg hr hg1 hz
    have hk : Keep B R w w1 := hkg.mono (by omega)
    have hL1 := hkg.block L hLg hLR
    refine ⟨hk.setCell (Or.inl hBL) _, hr.stays (Below.heap_setCell _ _ _ _ (by simp; omega)) (Below.heap_setCell _ _ _ _ (by simp; omega)), ?_, ?_, ?_⟩
    · have := blockSet (hL1.trans HL.out) 1 (.int .i64 ((n : Int) - q))
      rw [this]; simp; omega
    · rw [Below.heap_setCell _ _ _ _ (by simp; omega)]; exact hg1
    · simpa [World.setCell] using hz
  have FIN := Lib.hid fin
  clear fin
  by_cases hmn : n < m
  · have hmm2 : mm = n := by have := HMM.out; omega
    subst hmm2
    go_enter Tryz.func131, Tryz.ntmps131
    go_wp2_with fail
    refine (reader_some g _ R A l i h hi (by omega) g off mm c cur hg (by omega) hgR hgA (by omega)).mono ?_
    rw [← HQ.out]
    rintro e w1 ⟨rfl, hk, hr, hg1, hz⟩
    have d1 : w1.cell? ⟨L, 1, none⟩ = some (.int .i64 mm) := (hk.cell hLg hLR).trans c1
    have g1 : w1.frozen? ⟨L, 1, none⟩ = false := (hk.frozen hLg hLR).trans (blockFrozen HL.out 1)
    have F := Lib.hid (FIN.out w1 hk hr hg1 hz)
    clear hk hr hg1 hz
    go_wp2
    go_ret2
    exact ⟨rfl, F.out⟩
  · have hmm2 : mm = m := by have := HMM.out; omega
    subst hmm2
    go_enter Tryz.func131, Tryz.ntmps131
    go_wp2_with fail
    refine (reader_some g _ R A l i h hi (by omega) g off mm c cur hg (by omega) hgR hgA (by omega)).mono ?_
    rw [← HQ.out]
    rintro e w1 ⟨rfl, hk, hr, hg1, hz⟩
    have d1 : w1.cell? ⟨L, 1, none⟩ = some (.int .i64 n) := (hk.cell hLg hLR).trans c1
    have g1 : w1.frozen? ⟨L, 1, none⟩ = false := (hk.frozen hLg hLR).trans (blockFrozen HL.out 1)
    have F := Lib.hid (FIN.out w1 hk hr hg1 hz)
    clear hk hr hg1 hz
    go_wp2
    go_ret2
    exact ⟨rfl, F.out⟩
end Go.Proofs.YtdfehaonngccjaaGreatDoor

/- io.ReadAll over an io.LimitedReader over a bytes.Reader, for contents of at most 480 bytes. -/
namespace Go.Proofs.YtdfehaonngccjaaGreatDoor
open Go Go.RowKit

def zeros512 : List Value := List.replicate 512 (.int .u8 0)
def nils4 : List Value := List.replicate 4 (.slice none 0 0)
theorem zeros512_length : zeros512.length = 512 := List.length_replicate

theorem make512 (w : World) : (Instr.makeSlice 25 (.int .i64 0) (.int .i64 512)).run Tryz.prog w = .ok (.slice (some ⟨w.heap.size, 0, none⟩) 0 512) (w.alloc (.cells zeros512.toArray 5)) := by kernel_rfl
theorem make4 (w : World) : (Instr.makeSlice 147 (.int .i64 0) (.int .i64 4)).run Tryz.prog w = .ok (.slice (some ⟨w.heap.size, 0, none⟩) 0 4) (w.alloc (.cells nils4.toArray 25)) := by kernel_rfl

theorem alloc2_block {w : World} {k : Nat} (h : k < w.heap.size) (a b : Obj) : (((w.alloc a).alloc b).drew).heap[k]? = w.heap[k]? := by
  show ((w.alloc a).alloc b).heap[k]? = _
  rw [Below.heap_alloc _ _ _ (by simp; omega), Below.heap_alloc _ _ _ h]
theorem alloc2_cell {w : World} {p : Addr} {v : Value} (h : w.cell? p = some v) (a b : Obj) : (((w.alloc a).alloc b).drew).cell? p = some v := cell_alloc (cell_alloc h a) b

end Go.Proofs.YtdfehaonngccjaaGreatDoor

/- io.ReadAll at the reader's end. -/
namespace Go.Proofs.YtdfehaonngccjaaGreatDoor
open Go Go.RowKit

set_option maxRecDepth 100000 in
set_option maxHeartbeats 1000000 in
theorem all_end (N : Nat) (w : World) (L R A : Nat) (l : List UInt8) (h : Rd w R A l l.length) (n : Nat) (hL : w.heap[L]? = some (.cells #[.iface 60 (.pointer (some ⟨R, 0, none⟩)), .int .i64 n] 150 (0, 0))) (hn : 0 < n) (hn2 : n < 1000000000000)
    (hE : Env N w) (hNL : N ≤ L) (_hRL : R < L) :
    Calls Tryz.prog 52 #[.iface 148 (.pointer (some ⟨L, 0, none⟩))] w fun e w' =>
      e = .returned (.tuple #[.slice (some ⟨w.heap.size, 0, none⟩) 0 512, .nilIface]) ∧ Keep w.heap.size L w w' ∧ w'.heap[w.heap.size]? = some (.cells zeros512.toArray 5 (0, 0)) := by
  obtain ⟨a, ha, hae⟩ := hE.eofErr 0
  have hm1 := make512
  have hm2 := make4
  have hna := nil_ahead_lim
  have hme := method_lim
  have heq := fun w => eql_same w a
  have hLlt := blockLt hL
  go_enter Tryz.func52, Tryz.ntmps52
  go_wp2
  refine wp_loop_rounds 1 ?_
  rw [rounds_succ]
  go_wp2
  go_region_with ((go_at_call 131; refine (lim_end _ L R A l ((h.alloc _).alloc _).drew n ((alloc2_block hLlt _ _).trans hL) hn hn2 _ a (alloc2_cell ha _ _) w.heap.size 0 512 512 (by omega) (by omega)).mono ?_; rintro e w1 ⟨rfl, hk⟩))
  have hE1 : w1.cell? ⟨0, 0, none⟩ = some (.iface 110 (.pointer (some a))) := (hk.cell (by have := hE.few; simp <;> omega) (by have := hE.few; show 0 ≠ L; omega)).trans (alloc2_cell ha _ _)
  have hz : w1.heap[w.heap.size]? = some (.cells zeros512.toArray 5 (0, 0)) := (hk.block _ (by simp <;> omega) (by omega)).trans ((Below.heap_alloc _ _ _ (by simp)).trans (heap_alloc_new w _))
  have hkk : Keep w.heap.size L w w1 := ((((Keep.refl _ L w).alloc (Nat.le_refl _) _).alloc (by simp) _).drew).trans (hk.mono (by simp <;> omega))
  have HZ := Lib.hid hz
  clear hz hk
  go_wp2
  go_ret2
  exact ⟨rfl, hkk, HZ.out⟩
end Go.Proofs.YtdfehaonngccjaaGreatDoor

/- io.ReadAll of some contents. -/
namespace Go.Proofs.YtdfehaonngccjaaGreatDoor
open Go Go.RowKit

set_option maxRecDepth 100000 in
set_option maxHeartbeats 4000000 in
theorem all_some (N : Nat) (w : World) (L R A : Nat) (l : List UInt8) (i : Nat) (h : Rd w R A l i) (hi : i < l.length) (n : Nat) (hL : w.heap[L]? = some (.cells #[.iface 60 (.pointer (some ⟨R, 0, none⟩)), .int .i64 n] 150 (0, 0))) (hn : 0 < n) (hn2 : n < 1000000000000)
    (hE : Env N w) (hNL : N ≤ R) (hRL : R < L) (hLA : L ≠ A) (m : Nat) (hm : m = min n (l.length - i)) (hm480 : m ≤ 480) :
    Calls Tryz.prog 52 #[.iface 148 (.pointer (some ⟨L, 0, none⟩))] w fun e w' =>
      e = .returned (.tuple #[.slice (some ⟨w.heap.size, 0, none⟩) m 512, .nilIface]) ∧ Keep L R w w' ∧ Rd w' R A l (i + m) ∧ w'.heap[w.heap.size]? = some (.cells (splice zeros512 0 (Lib.byteCells ((l.drop i).take m))).toArray 5 (0, 0)) := by
  obtain ⟨a, ha, hae⟩ := hE.eofErr 0
  have hm1 := make512
  have hm2 := make4
  have hna := nil_ahead_lim
  have hme := method_lim
  have heq := fun w => eql_same w a
  have hLlt := blockLt hL
  have hAlt := h.ltA (by omega)
  have hlen := h.len
  have hmin : min (min 512 n) (l.length - i) = m := by omega
  have htake : Lib.byteCells ((l.drop i).take (min 512 n)) = Lib.byteCells ((l.drop i).take m) := by
    congr 1
    rw [show m = min (min 512 n) (l.length - i) from hmin.symm, ← List.length_drop, List.take_eq_take_min]
  have HMIN := Lib.hid hmin
  have HT := Lib.hid htake
  have HM := Lib.hid hm
  have hm0 : 0 < m := by omega
  have hm512 : m ≤ 512 := by omega
  have hn512 : ¬ 512 = m := by omega
  have hmn : m ≤ n := by omega
  have hml : m ≤ l.length - i := by omega
  clear hmin htake hm
  go_enter Tryz.func52, Tryz.ntmps52
  go_wp2
  refine wp_loop_rounds 2 ?_
  rw [rounds_succ]
  go_wp2
  go_region_with ((go_at_call 131; refine (lim_some _ L R A l i ((h.alloc _).alloc _).drew hi n ((alloc2_block hLlt _ _).trans hL) hn hn2 w.heap.size 0 512 512 (by omega) (by omega) zeros512 ((Below.heap_alloc _ _ _ (by simp)).trans (heap_alloc_new w _)) (by omega) (by omega) (by omega) hLA (by omega) (by rw [zeros512_length]; omega) L (Nat.le_refl _)).mono ?_; rw [HMIN.out]; rintro e w1 ⟨rfl, hk, hr, hL1, hg1, hz1⟩))
  rw [HT.out] at hg1
  have hr0 : Rd w1 R A l (i + m) := hr
  have hE1 : w1.cell? ⟨0, 0, none⟩ = some (.iface 110 (.pointer (some a))) := (hk.cell (by have := hE.few; show 0 < L; omega) (by have := hE.few; show 0 ≠ R; omega)).trans (alloc2_cell ha _ _)
  have hkk : Keep L R w w1 := ((((Keep.refl L R w).alloc (by omega) _).alloc (by simp <;> omega) _).drew).trans hk
  have HG1 := Lib.hid hg1
  have HL1 := Lib.hid hL1
  have hz2 : w.heap.size + 2 ≤ w1.heap.size := by rw [hz1]; simp
  clear hk hg1 hL1 hz1
  by_cases hrem : n ≤ l.length - i
  · have hnm : n - m = 0 := by have := HM.out; omega
    go_wp2
    try rw [rounds_succ]
    go_wp2
    have hL2 : w1.drew.heap[L]? = _ := HL1.out
    have hE2 : w1.drew.cell? ⟨0, 0, none⟩ = _ := hE1
    have HL2 := Lib.hid hL2
    have HE2 := Lib.hid hE2
    clear hL2 hE2
    go_region_with ((go_at_call 131; refine (lim_zero w1.drew L _ _ HL2.out (by omega) _ HE2.out _ _ _).mono ?_; rintro e w2 ⟨rfl, hs⟩))
    have hE3 : w2.cell? ⟨0, 0, none⟩ = some (.iface 110 (.pointer (some a))) := (hs.cell _).trans hE1
    go_wp2
    go_ret2
    have hs1 : Same w1 w2 := ((Same.refl w1).drew).trans hs
    exact ⟨rfl, hkk.trans (hs1.keep _ _), hr0.heap hs1.heap, (by rw [hs1.heap]; exact HG1.out)⟩
  · have hend : i + m = l.length := by have := HM.out; omega
    have hr1 : Rd w1 R A l l.length := hend ▸ hr0
    have hnm : 0 < n - m := by have := HM.out; omega
    go_wp2
    try rw [rounds_succ]
    go_wp2
    have hL2 : w1.drew.heap[L]? = _ := HL1.out
    have hE2 : w1.drew.cell? ⟨0, 0, none⟩ = _ := hE1
    have HL2 := Lib.hid hL2
    have HE2 := Lib.hid hE2
    have HR2 := Lib.hid hr1.drew
    clear hL2 hE2
    go_region_with ((go_at_call 131; refine (lim_end w1.drew L R A l HR2.out (n - m) HL2.out hnm (by omega) _ a HE2.out _ _ _ _ (Nat.le_refl _) (by omega)).mono ?_; rintro e w2 ⟨rfl, hs⟩))
    have hE3 : w2.cell? ⟨0, 0, none⟩ = some (.iface 110 (.pointer (some a))) := (hs.cell (by have := hE.few; show 0 < w1.heap.size; omega) (by have := hE.few; show 0 ≠ L; omega)).trans hE1
    go_wp2
    go_ret2
    have hs1 : Keep w1.heap.size L w1 w2 := ((Keep.refl _ L w1).drew).trans hs
    have hRlt := hr1.lt
    refine ⟨rfl, ?_, ?_, ?_⟩
    · exact hkk.trans ((hs1.mono (by omega)).toBelow (Nat.le_refl L) |> Keep.ofBelow)
    · rw [hend]; exact hr1.stays (hs1.block R hRlt (by omega)) (hs1.block A (hr1.ltA (by omega)) (by omega))
    · exact (hs1.block _ (by omega) (by omega)).trans HG1.out
end Go.Proofs.YtdfehaonngccjaaGreatDoor

/- Packets in memory. -/
namespace Go.Proofs.YtdfehaonngccjaaGreatDoor
open Go Go.RowKit

/-- What Value holds. -/
def valOf (c : Nat) (b : Bool) (t : Nat) (data : List UInt8) : Value :=
  if c = 0 ∧ b = false then
    if t = 1 then .iface 4 (.bool (parseOf data != 0))
    else if t = 2 ∨ t = 10 then .iface 2 (.int .i64 (parseOf data))
    else if t = 4 then .iface 9 (.string ⟨data.toArray⟩)
    else .nilIface
  else .nilIface

/-- What ByteValue holds. -/
def BvAt (w : World) (c : Nat) (b : Bool) (data : List UInt8) (bv : Value) : Prop :=
  if c = 0 ∧ b = false then ∃ G cp, bv = .slice (some ⟨G, 0, none⟩) data.length cp ∧ ∀ j v, (Lib.byteCells data)[j]? = some v → w.cell? ⟨G, j, none⟩ = some v
  else bv = .slice none 0 0

mutual
/-- The packet in block p. -/
def Tree (w : World) (p : Nat) : Ber.Pk → Prop
  | .mk c b t data items => ∃ (D : Nat) (row : Option Nat) (C cap : Nat) (bv : Value) (xs : List Value), c < 4 ∧ t < 2 ^ 64 ∧
      w.heap[p]? = some (.cells (PkCells ((c * 64 : Nat) : Int) (if b then 32 else 0) t (valOf c b t data) bv D (.slice (some ⟨C, 0, none⟩) xs.length cap) (.string ⟨#[]⟩)) 92 (0, 0)) ∧
      BufAt w D row (Lib.byteCells (Ber.body (.mk c b t data items))) ∧ KidRow w C cap xs ∧ BvAt w c b data bv ∧ (b = false → items = []) ∧ (b = true → data = []) ∧ Kids w xs items
def Kids (w : World) (xs : List Value) : List Ber.Pk → Prop
  | [] => xs = []
  | x :: r => ∃ q vs, xs = .pointer (some ⟨q, 0, none⟩) :: vs ∧ Tree w q x ∧ Kids w vs r
end

/-- Q holds as long as the blocks from B on stand that are not of Own. -/
def Stable (B : Nat) (w : World) (Own : Nat → Prop) (Q : World → Prop) : Prop :=
  ∀ w2 : World, (∀ k, B ≤ k → k < w.heap.size → ¬ Own k → w2.heap[k]? = w.heap[k]?) → Q w2
theorem Stable.now {B : Nat} {w : World} {Own : Nat → Prop} {Q : World → Prop} (h : Stable B w Own Q) : Q w := h w fun _ _ _ _ => rfl
/-- It stays so behind what turns own blocks alone, whatever own blocks come in place. -/
theorem Stable.only {B : Nat} {w w' : World} {Own Own' S : Nat → Prop} {Q : World → Prop} (h : Stable B w Own Q) (k : Only S w w') (hS : ∀ i, B ≤ i → i < w.heap.size → S i → Own i) (hO : ∀ i, i < w.heap.size → Own' i → Own i) : Stable B w' Own' Q :=
  fun w2 h2 => h w2 fun i hB hi hn => (h2 i hB (Nat.lt_of_lt_of_le hi k.size) (fun e => hn (hO i hi e))).trans (k.block i hi (fun e => hn (hS i hB hi e)))
theorem Stable.lower {B B' : Nat} {w : World} {Own : Nat → Prop} {Q : World → Prop} (h : Stable B w Own Q) (hB : B' ≤ B) : Stable B' w Own Q :=
  fun w2 h2 => h w2 fun i hi hlt hn => h2 i (Nat.le_trans hB hi) hlt hn
theorem Stable.imp {B : Nat} {w : World} {Own : Nat → Prop} {Q Q' : World → Prop} (h : Stable B w Own Q) (k : ∀ w, Q w → Q' w) : Stable B w Own Q' := fun w2 h2 => k _ (h w2 h2)

/-- What readPacket comes to. -/
def PackOut (N B R A : Nat) (l : List UInt8) (i : Nat) (r : Ber.Res) (e : Ending) (w' : World) : Prop :=
  match r with
  | .bad => True
  | .err => ∃ n ev, e = .returned (.tuple #[.pointer none, .int .i64 n, ev]) ∧ ErrAt N B w' ev
  | .ok p rest => ∃ q k : Nat, e = .returned (.tuple #[.pointer (some ⟨q, 0, none⟩), .int .i64 k, .nilIface]) ∧ B ≤ q ∧ Stable B w' (fun _ => False) (fun w2 => Tree w2 q p) ∧ Rd w' R A l (i + k) ∧ rest = l.drop (i + k)

theorem parse_all (w : World) (G c : Nat) (l : List UInt8) (hl : l.length < 1000000000000) (hsrc : ∀ j v, (Lib.byteCells l)[j]? = some v → w.cell? ⟨G, j, none⟩ = some v) :
    Calls Tryz.prog 55 #[.slice (some ⟨G, 0, none⟩) l.length c] w fun e w' => (∃ ev, e = .returned (.tuple #[.int .i64 (parseOf l), ev])) ∧ Below w.heap.size w w' := by
  by_cases h8 : l.length ≤ 8
  · exact (parse_any w G c l h8 hsrc).mono fun e w' ⟨h1, h2⟩ => by subst h2; exact ⟨⟨_, h1⟩, Below.refl _ _⟩
  · have hp : parseOf l = 0 := by unfold parseOf; rw [if_pos (by omega)]
    rw [hp]
    go_enter Tryz.func55, Tryz.ntmps55
    go_wp2_with fail
    refine (new_any _ _).mono ?_
    rintro e w1 ⟨rfl, hw⟩
    have hb : Below w.heap.size w w1 := by rw [← hw]; exact (Below.refl _ w).alloc (Nat.le_refl _) _
    have HB := Lib.hid hb
    clear hb hw
    go_wp2
    go_ret2
    exact ⟨⟨_, rfl⟩, HB.out⟩
end Go.Proofs.YtdfehaonngccjaaGreatDoor

/- readIdentifier. -/
namespace Go.Proofs.YtdfehaonngccjaaGreatDoor
open Go Go.RowKit

/-- No byte is left. -/
theorem ident_end (N : Nat) (w : World) (R A : Nat) (l : List UInt8) (h : Rd w R A l l.length) (hE : Env N w) :
    Calls Tryz.prog 65 #[.iface 60 (.pointer (some ⟨R, 0, none⟩))] w fun e w' => ∃ ev n, e = .returned (.tuple #[noTag, .int .i64 n, ev]) ∧ ErrAt N w.heap.size w' ev ∧ Below w.heap.size w w' := by
  obtain ⟨a, ha, hae⟩ := hE.eofErr w.heap.size
  go_enter Tryz.func65, Tryz.ntmps65
  go_wp2_with fail
  refine (byte_end _ R A l ((h.alloc _).alloc _) _ a (cell_alloc (cell_alloc ha _) _)).mono ?_
  rintro e w1 ⟨rfl, hb⟩
  have hk1 : w1.heap[w.heap.size]? = some (.cells #[.int .u8 0, .int .u8 0, .int .u64 0] 89 (0, 0)) := (hb.block _ (by simp; omega)).trans ((Below.heap_alloc _ _ _ (by simp)).trans (heap_alloc_new w _))
  have c0 : w1.cell? ⟨w.heap.size, 0, none⟩ = some (.int .u8 0) := blockCell hk1 0
  have c1 : w1.cell? ⟨w.heap.size, 1, none⟩ = some (.int .u8 0) := blockCell hk1 1
  have c2 : w1.cell? ⟨w.heap.size, 2, none⟩ = some (.int .u64 0) := blockCell hk1 2
  have f0 := blockFrozen hk1 0
  have f1 := blockFrozen hk1 1
  have f2 := blockFrozen hk1 2
  have HK1 := Lib.hid hk1
  clear hk1
  go_wp2
  have K := three_set HK1.out (.int .u8 0) (.int .u8 0) (.int .u64 0)
  have k0 := blockCell K 0
  have k1 := blockCell K 1
  have k2 := blockCell K 2
  have hb2 : Below w.heap.size w (((w1.setCell ⟨w.heap.size, 0, none⟩ (.int .u8 0)).setCell ⟨w.heap.size, 1, none⟩ (.int .u8 0)).setCell ⟨w.heap.size, 2, none⟩ (.int .u64 0)) :=
    (((((((Below.refl _ w).alloc (Nat.le_refl _) _).alloc (by simp) _).trans (hb.mono (by simp; omega))).setCell (by simp) _).setCell (by simp) _).setCell (by simp) _)
  exact bodyPost_ret (v := .tuple #[noTag, .int .i64 0, .iface 110 (.pointer (some a))]) (by simp [results, Tryz.results65, go_sem, k0, k1, k2, noTag]) rfl ⟨_, _, rfl, hae.below hb2, hb2⟩

theorem ident_short (w : World) (R A : Nat) (l : List UInt8) (i : Nat) (h : Rd w R A l i) (hi : i < l.length) (h31 : (l[i]).toNat % 32 ≠ 31) :
    Calls Tryz.prog 65 #[.iface 60 (.pointer (some ⟨R, 0, none⟩))] w fun e w' =>
      e = .returned (.tuple #[tagValue ((l[i]).toNat / 64) (decide ((l[i]).toNat / 32 % 2 = 1)) ((l[i]).toNat % 32), .int .i64 1, .nilIface]) ∧ Keep w.heap.size R w w' ∧ Rd w' R A l (i + 1) := by
  have hR := h.lt
  have hb256 : (l[i]).toNat < 256 := (l[i]).toNat_lt
  have e192 := and192 hb256
  have e32 := and32 hb256
  have e31 := and31 hb256
  have ne31 : ((((l[i]).toNat % 32 : Nat) : Int) != 31) = true := by rw [bne_iff_ne]; omega
  go_enter Tryz.func65, Tryz.ntmps65
  go_wp2_with fail
  refine (byte_one _ R A l i ((h.alloc _).alloc _) hi).mono ?_
  rintro e w1 ⟨rfl, hk, hr⟩
  have hk0 : w1.heap[w.heap.size]? = some (.cells #[.int .u8 0, .int .u8 0, .int .u64 0] 89 (0, 0)) := (hk.block _ (by simp; omega) (by omega)).trans ((Below.heap_alloc _ _ _ (by simp)).trans (heap_alloc_new w _))
  have hk1 : w1.heap[w.heap.size + 1]? = some (.cells #[.int .u8 0, .int .u8 0, .int .u64 0] 89 (0, 0)) := (hk.block _ (by simp) (by omega)).trans (by have := heap_alloc_new (w.alloc (.cells #[.int .u8 0, .int .u8 0, .int .u64 0] 89)) (.cells #[.int .u8 0, .int .u8 0, .int .u64 0] 89); simpa using this)
  have c0 : w1.cell? ⟨w.heap.size, 0, none⟩ = some (.int .u8 0) := blockCell hk0 0
  have c1 : w1.cell? ⟨w.heap.size, 1, none⟩ = some (.int .u8 0) := blockCell hk0 1
  have c2 : w1.cell? ⟨w.heap.size, 2, none⟩ = some (.int .u64 0) := blockCell hk0 2
  have f0 := blockFrozen hk0 0
  have f1 := blockFrozen hk0 1
  have f2 := blockFrozen hk0 2
  have d0 : w1.cell? ⟨w.heap.size + 1, 0, none⟩ = some (.int .u8 0) := blockCell hk1 0
  have d1 : w1.cell? ⟨w.heap.size + 1, 1, none⟩ = some (.int .u8 0) := blockCell hk1 1
  have d2 : w1.cell? ⟨w.heap.size + 1, 2, none⟩ = some (.int .u64 0) := blockCell hk1 2
  have g0 := blockFrozen hk1 0
  have g1 := blockFrozen hk1 1
  have g2 := blockFrozen hk1 2
  have HK0 := Lib.hid hk0
  have HK1 := Lib.hid hk1
  clear hk0 hk1
  go_wp2
  have K1 := three_set HK1.out (.int .u8 (((l[i]).toNat : Int) / 64 * 64)) (.int .u8 (((l[i]).toNat : Int) / 32 % 2 * 32)) (.int .u64 (((l[i]).toNat : Int) % 32))
  have K0 := three_set ((three_other (w := w1) (g := w.heap.size + 1) (k := w.heap.size) (by omega) (.int .u8 (((l[i]).toNat : Int) / 64 * 64)) (.int .u8 (((l[i]).toNat : Int) / 32 % 2 * 32)) (.int .u64 (((l[i]).toNat : Int) % 32))).trans HK0.out)
    (.int .u8 (((l[i]).toNat : Int) / 64 * 64)) (.int .u8 (((l[i]).toNat : Int) / 32 % 2 * 32)) (.int .u64 (((l[i]).toNat : Int) % 32))
  have k0 := blockCell K0 0
  have k1 := blockCell K0 1
  have k2 := blockCell K0 2
  refine bodyPost_ret (v := .tuple #[.agg #[.int .u8 (((l[i]).toNat : Int) / 64 * 64), .int .u8 (((l[i]).toNat : Int) / 32 % 2 * 32), .int .u64 (((l[i]).toNat : Int) % 32)], .int .i64 1, .nilIface])
    (by simp [results, Tryz.results65, go_sem, k0, k1, k2]) rfl ⟨?_, ?_, ?_⟩
  · rw [show (((l[i]).toNat : Int) % 32) = (((l[i]).toNat % 32 : Nat) : Int) by omega, tagValue_eq]
  · refine three_keep (three_keep ?_ (by omega) _ _ _) (Nat.le_refl _) _ _ _
    exact (((Keep.refl _ R w).alloc (Nat.le_refl _) _).alloc (by simp) _).trans (hk.mono (by simp; omega))
  · have hA := h.ltA (by omega)
    exact (hr.three (by omega) (by omega) _ _ _).three (by omega) (by omega) _ _ _
end Go.Proofs.YtdfehaonngccjaaGreatDoor

/- readIdentifier, tags of several bytes. -/
namespace Go.Proofs.YtdfehaonngccjaaGreatDoor
open Go Go.RowKit

/-- What readIdentifier comes to. -/
def IdentOut (N B R A : Nat) (l : List UInt8) (i : Nat) (e : Ending) (w' : World) : Prop :=
  match Ber.ident (l.drop i) with
  | none => ∃ ev n, e = .returned (.tuple #[noTag, .int .i64 n, ev]) ∧ ErrAt N B w' ev
  | some (c, b, t, rest) => ∃ k : Nat, e = .returned (.tuple #[tagValue c b t, .int .i64 k, .nilIface]) ∧ Rd w' R A l (i + k) ∧ rest = l.drop (i + k)

/-- The round's head. -/
def HighInv (B R A : Nat) (l : List UInt8) (i : Nat) (w : World) (cv dv : Value) (t6 t10 : Value) (wr : World) : Prop :=
  ∃ k acc : Nat, k ≤ 9 ∧ acc < 2 ^ (7 * k) ∧ t10 = .int .i64 k ∧ t6 = .int .i64 ((k + 1 : Nat) : Int) ∧ Rd wr R A l (i + 1 + k) ∧ Keep B R w wr ∧ B + 2 ≤ wr.heap.size ∧
    wr.heap[B]? = some (.cells #[.int .u8 0, .int .u8 0, .int .u64 0] 89 (0, 0)) ∧
    wr.heap[B + 1]? = some (.cells #[cv, dv, .int .u64 acc] 89 (0, 0)) ∧
    Ber.high (l.drop (i + 1)) 0 0 = Ber.high (l.drop (i + 1 + k)) acc k

theorem ident_drop {l : List UInt8} {i : Nat} (hi : i < l.length) (h31 : (l[i]).toNat % 32 = 31) :
    Ber.ident (l.drop i) = (Ber.high (l.drop (i + 1)) 0 0).map fun r => ((l[i]).toNat / 64, decide ((l[i]).toNat / 32 % 2 = 1), r.1, r.2) := by
  rw [List.drop_eq_getElem_cons hi]; simp [Ber.ident, h31]
theorem high_end {l : List UInt8} {n acc k : Nat} (h : l.length ≤ n) : Ber.high (l.drop n) acc k = none := by
  rw [List.drop_of_length_le h]; rfl
theorem high_step {l : List UInt8} {n acc k : Nat} (h : n < l.length) : Ber.high (l.drop n) acc k =
    if k = 0 ∧ (l[n]).toNat % 128 = 0 then none else if 9 ≤ k then none else if (l[n]).toNat < 128 then some (acc * 128 + (l[n]).toNat % 128, l.drop (n + 1)) else Ber.high (l.drop (n + 1)) (acc * 128 + (l[n]).toNat % 128) (k + 1) := by
  rw [List.drop_eq_getElem_cons h]; rfl

theorem or_step {acc v k : Nat} (hacc : acc < 2 ^ (7 * k)) (hk : k ≤ 8) : bits .or .u64 (IntKind.u64.wrap ((acc : Int) * 128)) ((v : Int) % 128) = (acc : Int) * 128 + (v : Int) % 128 := by
  have h56 : acc < 2 ^ 56 := Nat.lt_of_lt_of_le hacc (Nat.pow_le_pow_right (by decide) (by omega))
  have hw : IntKind.u64.wrap ((acc : Int) * 128) = ((acc * 128 : Nat) : Int) := by rw [wraps_u64 _ (by omega) (by omega)]; omega
  have hm : ((v : Int) % 128) = ((v % 128 : Nat) : Int) := by omega
  rw [hw, hm, or_low (by omega) (by omega) (by omega)]; omega
theorem acc_step {acc v k : Nat} (hacc : acc < 2 ^ (7 * k)) : acc * 128 + v % 128 < 2 ^ (7 * (k + 1)) := by
  have : 2 ^ (7 * (k + 1)) = 2 ^ (7 * k) * 128 := by rw [Nat.mul_add, Nat.pow_add]
  omega

/-- A way out with an error. -/
theorem ident_fail (N R A : Nat) (l : List UInt8) (i : Nat) (w wx : World) (ev : Value) (n : Int) (hk : Keep w.heap.size R w wx) (he : ErrAt N (w.heap.size + 2) wx ev) (hN : N ≤ w.heap.size)
    (hnone : Ber.ident (l.drop i) = none) :
    IdentOut N w.heap.size R A l i (.returned (.tuple #[noTag, .int .i64 n, ev])) (((wx.setCell ⟨w.heap.size, 0, none⟩ (.int .u8 0)).setCell ⟨w.heap.size, 1, none⟩ (.int .u8 0)).setCell ⟨w.heap.size, 2, none⟩ (.int .u64 0)) ∧
      Keep w.heap.size R w (((wx.setCell ⟨w.heap.size, 0, none⟩ (.int .u8 0)).setCell ⟨w.heap.size, 1, none⟩ (.int .u8 0)).setCell ⟨w.heap.size, 2, none⟩ (.int .u64 0)) := by
  refine ⟨?_, three_keep hk (Nat.le_refl _) _ _ _⟩
  unfold IdentOut
  rw [hnone]
  exact ⟨ev, n, rfl, (((he.setCell (by simpa using hN) (by simp) _).setCell (by simpa using hN) (by simp) _).setCell (by simpa using hN) (by simp) _).mono (by omega)⟩

/-- The way out with a tag. -/
theorem ident_done (N B R A : Nat) (l : List UInt8) (i : Nat) (wx : World) (x t k : Nat) (n : Int) (hn : n = ((k + 2 : Nat) : Int)) (tt : Int) (ht : tt = (t : Int)) (hr : Rd wx R A l (i + (k + 2)))
    (h : Ber.ident (l.drop i) = some (x / 64, decide (x / 32 % 2 = 1), t, l.drop (i + 1 + k + 1))) :
    IdentOut N B R A l i (.returned (.tuple #[.agg #[.int .u8 ((x : Int) / 64 * 64), .int .u8 ((x : Int) / 32 % 2 * 32), .int .u64 tt], .int .i64 n, .nilIface])) wx := by
  unfold IdentOut
  rw [h, hn, ht]
  exact ⟨k + 2, by rw [tagValue_eq], hr, by rw [show i + 1 + k + 1 = i + (k + 2) by omega]⟩

set_option maxHeartbeats 4000000 in
theorem ident_high (N : Nat) (w : World) (R A : Nat) (l : List UInt8) (i : Nat) (h : Rd w R A l i) (hi : i < l.length) (h31 : (l[i]).toNat % 32 = 31) (hE : Env N w) (hN : N ≤ R) :
    Calls Tryz.prog 65 #[.iface 60 (.pointer (some ⟨R, 0, none⟩))] w fun e w' => IdentOut N w.heap.size R A l i e w' ∧ Keep w.heap.size R w w' := by
  have hR := h.lt
  have hlen := h.len
  have hA := h.ltA (by omega)
  have hb256 : (l[i]).toNat < 256 := (l[i]).toNat_lt
  have e192 := and192 hb256
  have e32 := and32 hb256
  have e31 := and31 hb256
  have ne31 : ((((l[i]).toNat % 32 : Nat) : Int) != 31) = false := by rw [bne_eq_false_iff_eq]; omega
  go_enter Tryz.func65, Tryz.ntmps65
  go_wp2_with fail
  refine (byte_one _ R A l i ((h.alloc _).alloc _) hi).mono ?_
  rintro e w1 ⟨rfl, hk, hr⟩
  have hk0 : w1.heap[w.heap.size]? = some (.cells #[.int .u8 0, .int .u8 0, .int .u64 0] 89 (0, 0)) := (hk.block _ (by simp; omega) (by omega)).trans ((Below.heap_alloc _ _ _ (by simp)).trans (heap_alloc_new w _))
  have hk1 : w1.heap[w.heap.size + 1]? = some (.cells #[.int .u8 0, .int .u8 0, .int .u64 0] 89 (0, 0)) := (hk.block _ (by simp) (by omega)).trans (by have := heap_alloc_new (w.alloc (.cells #[.int .u8 0, .int .u8 0, .int .u64 0] 89)) (.cells #[.int .u8 0, .int .u8 0, .int .u64 0] 89); simpa using this)
  have hkk : Keep w.heap.size R w w1 := (((Keep.refl _ R w).alloc (Nat.le_refl _) _).alloc (by simp) _).trans (hk.mono (by simp; omega))
  have hsz : w.heap.size + 2 ≤ w1.heap.size := by have := hk.size; simp at this; omega
  have d0 : w1.cell? ⟨w.heap.size + 1, 0, none⟩ = some (.int .u8 0) := blockCell hk1 0
  have d1 : w1.cell? ⟨w.heap.size + 1, 1, none⟩ = some (.int .u8 0) := blockCell hk1 1
  have g0 := blockFrozen hk1 0
  have g1 := blockFrozen hk1 1
  have HK0 := Lib.hid hk0
  have HK1 := Lib.hid hk1
  clear hk0 hk1 hk
  go_wp2
  go_loopw [6, 10] (fun t6 t10 wr => HighInv w.heap.size R A l i w (.int .u8 (((l[i]).toNat : Int) / 64 * 64)) (.int .u8 (((l[i]).toNat : Int) / 32 % 2 * 32)) t6 t10 wr) (fun t6 _ _ => l.length + 10 - (intOf t6).toNat)
  case atStart =>
    refine ⟨0, 0, by omega, by decide, rfl, rfl, ?_, ?_, ?_, ?_, ?_, rfl⟩
    · exact hr.stays (by rw [Below.heap_setCell _ _ _ _ (by simp; omega), Below.heap_setCell _ _ _ _ (by simp; omega)]) (by rw [Below.heap_setCell _ _ _ _ (by simp; omega), Below.heap_setCell _ _ _ _ (by simp; omega)])
    · exact (hkk.setCell (Or.inl (by simp)) _).setCell (Or.inl (by simp)) _
    · simpa [World.setCell] using hsz
    · rw [Below.heap_setCell _ _ _ _ (by simp), Below.heap_setCell _ _ _ _ (by simp)]; exact HK0.out
    · have := blockSet (blockSet HK1.out 0 (.int .u8 (((l[i]).toNat : Int) / 64 * 64))) 1 (.int .u8 (((l[i]).toNat : Int) / 32 % 2 * 32))
      simpa using this
  case round =>
    obtain ⟨k, acc, hk9, hacc, rfl, rfl, hrr, hkp, hsz2, hb0, hb1, hhigh⟩ := hrel
    have hE' := Lib.hid (hE.keep hkp (by omega) hN)
    obtain ⟨a, ha, hae⟩ := hE'.out.eofErr (w.heap.size + 2)
    have HB0 := Lib.hid hb0
    have HB1 := Lib.hid hb1
    have HH := Lib.hid hhigh
    clear hb0 hb1 hhigh
    by_cases hend : i + 1 + k = l.length
    · have hr' : Rd wr R A l l.length := hend ▸ hrr
      clear hrr
      go_wp2_with fail
      refine (byte_end _ R A l hr' _ a ha).mono ?_
      rintro e w2 ⟨rfl, hb⟩
      have hae2 := hae.below hb
      have hb2 : w2.heap[w.heap.size]? = some (.cells #[.int .u8 0, .int .u8 0, .int .u64 0] 89 (0, 0)) := (hb.block _ (by omega)).trans HB0.out
      have hE2 := Lib.hid (hE'.out.below hb (by omega))
      have c0 : w2.cell? ⟨w.heap.size, 0, none⟩ = some (.int .u8 0) := blockCell hb2 0
      have c1 : w2.cell? ⟨w.heap.size, 1, none⟩ = some (.int .u8 0) := blockCell hb2 1
      have c2 : w2.cell? ⟨w.heap.size, 2, none⟩ = some (.int .u64 0) := blockCell hb2 2
      have f0 := blockFrozen hb2 0
      have f1 := blockFrozen hb2 1
      have f2 := blockFrozen hb2 2
      have HB2 := Lib.hid hb2
      clear hb2
      go_wp2_with fail
      refine (uneof_any N (w.heap.size + 2) w2 hE2.out _ hae2).mono ?_
      rintro e w3 ⟨ev, rfl, hev, rfl⟩
      go_wp2
      have K := three_set HB2.out (.int .u8 0) (.int .u8 0) (.int .u64 0)
      have k0 := blockCell K 0
      have k1 := blockCell K 1
      have k2 := blockCell K 2
      refine bodyPost_ret (v := .tuple #[noTag, .int .i64 ((k : Int) + 1), ev]) (by simp [results, Tryz.results65, go_sem, k0, k1, k2, noTag]) rfl ?_
      exact ident_fail N R A l i w w2 ev _ (hkp.trans (Keep.ofBelow (hb.mono (by omega)))) hev (by omega) (by rw [ident_drop hi h31, HH.out, high_end (by omega)]; rfl)
    · have hlt : i + 1 + k < l.length := by have := hrr.pos; omega
      have hv256 : (l[i + 1 + k]).toNat < 256 := (l[i + 1 + k]).toNat_lt
      have v127 := and127 hv256
      have v128 := and128 hv256
      have hc0 : wr.cell? ⟨w.heap.size, 0, none⟩ = some (.int .u8 0) := blockCell HB0.out 0
      go_wp2_with fail
      refine (byte_one _ R A l _ hrr hlt).mono ?_
      rintro e w2 ⟨rfl, hk2, hr2⟩
      have hb20 : w2.heap[w.heap.size]? = some (.cells #[.int .u8 0, .int .u8 0, .int .u64 0] 89 (0, 0)) := (hk2.block _ (by omega) (by omega)).trans HB0.out
      have hb21 := (hk2.block _ (by omega) (by omega)).trans HB1.out
      have c0 : w2.cell? ⟨w.heap.size, 0, none⟩ = some (.int .u8 0) := blockCell hb20 0
      have c1 : w2.cell? ⟨w.heap.size, 1, none⟩ = some (.int .u8 0) := blockCell hb20 1
      have c2 : w2.cell? ⟨w.heap.size, 2, none⟩ = some (.int .u64 0) := blockCell hb20 2
      have f0 := blockFrozen hb20 0
      have f1 := blockFrozen hb20 1
      have f2 := blockFrozen hb20 2
      have d2 : w2.cell? ⟨w.heap.size + 1, 2, none⟩ = some (.int .u64 acc) := blockCell hb21 2
      have g2 := blockFrozen hb21 2
      have HB20 := Lib.hid hb20
      have HB21 := Lib.hid hb21
      clear hb20 hb21
      have d0 : w2.cell? ⟨w.heap.size + 1, 0, none⟩ = some (.int .u8 (((l[i]).toNat : Int) / 64 * 64)) := blockCell HB21.out 0
      have d1 : w2.cell? ⟨w.heap.size + 1, 1, none⟩ = some (.int .u8 (((l[i]).toNat : Int) / 32 % 2 * 32)) := blockCell HB21.out 1
      have hsz3 := hk2.size
      have hkk2 : Keep w.heap.size R w w2 := hkp.trans (hk2.mono (by omega))
      have hstep := high_step (acc := acc) (k := k) hlt
      have HS := Lib.hid hstep
      clear hstep
      by_cases h9 : k = 9
      · have h9' : 9 ≤ k := by omega
        clear h9
        go_wp2_with fail
        refine (new_err _ (by decide) (by decide) N _).mono ?_
        rintro e w3 ⟨ev, rfl, hev, hb3⟩
        have hb30 : w3.heap[w.heap.size]? = some (.cells #[.int .u8 0, .int .u8 0, .int .u64 0] 89 (0, 0)) := (hb3.block _ (by simp [World.setCell]; omega)).trans (by rw [Below.heap_setCell _ _ _ _ (by simp), Below.heap_setCell _ _ _ _ (by simp)]; exact HB20.out)
        have hkk3 : Keep w.heap.size R w w3 := ((hkk2.setCell (Or.inl (by simp)) _).setCell (Or.inl (by simp)) _).trans (Keep.ofBelow (hb3.mono (by simp [World.setCell]; omega)))
        have e0 : w3.cell? ⟨w.heap.size, 0, none⟩ = some (.int .u8 0) := blockCell hb30 0
        have e1 : w3.cell? ⟨w.heap.size, 1, none⟩ = some (.int .u8 0) := blockCell hb30 1
        have e2 : w3.cell? ⟨w.heap.size, 2, none⟩ = some (.int .u64 0) := blockCell hb30 2
        have p0 := blockFrozen hb30 0
        have p1 := blockFrozen hb30 1
        have p2 := blockFrozen hb30 2
        have HB30 := Lib.hid hb30
        clear hb30
        go_wp2
        have K := three_set HB30.out (.int .u8 0) (.int .u8 0) (.int .u64 0)
        have k0 := blockCell K 0
        have k1 := blockCell K 1
        have k2 := blockCell K 2
        refine bodyPost_ret (v := .tuple #[noTag, .int .i64 ((k : Int) + 1 + 1), ev]) (by simp [results, Tryz.results65, go_sem, k0, k1, k2, noTag]) rfl ?_
        exact ident_fail N R A l i w w3 ev _ hkk3 (hev.mono (by simp [World.setCell]; omega)) (by omega) (by rw [ident_drop hi h31, HH.out, HS.out]; simp [h9'])
      · have hk8 : k ≤ 8 := by omega
        clear h9
        have hO := or_step (v := (l[i + 1 + k]).toNat) hacc hk8
        have hacc1 := acc_step (v := (l[i + 1 + k]).toNat) hacc
        have HA1 := Lib.hid hacc1
        have HA0 := Lib.hid hacc
        clear hacc hacc1
        by_cases h0 : k = 0 ∧ (l[i + 1 + k]).toNat % 128 = 0
        · have hacc0 : acc = 0 := by have := HA0.out; rw [h0.1] at this; omega
          have hT : ((acc : Int) * 128 + ((l[i + 1 + k]).toNat : Int) % 128 == 0) = true := by rw [beq_iff_eq]; omega
          have hk0 : k ≤ 0 := by omega
          have H0 := Lib.hid h0
          clear h0 hacc0
          go_wp2_with fail
          refine (new_err _ (by decide) (by decide) N _).mono ?_
          rintro e w3 ⟨ev, rfl, hev, hb3⟩
          have hb30 : w3.heap[w.heap.size]? = some (.cells #[.int .u8 0, .int .u8 0, .int .u64 0] 89 (0, 0)) := (hb3.block _ (by simp [World.setCell]; omega)).trans (by rw [Below.heap_setCell _ _ _ _ (by simp), Below.heap_setCell _ _ _ _ (by simp)]; exact HB20.out)
          have hkk3 : Keep w.heap.size R w w3 := ((hkk2.setCell (Or.inl (by simp)) _).setCell (Or.inl (by simp)) _).trans (Keep.ofBelow (hb3.mono (by simp [World.setCell]; omega)))
          have e0 : w3.cell? ⟨w.heap.size, 0, none⟩ = some (.int .u8 0) := blockCell hb30 0
          have e1 : w3.cell? ⟨w.heap.size, 1, none⟩ = some (.int .u8 0) := blockCell hb30 1
          have e2 : w3.cell? ⟨w.heap.size, 2, none⟩ = some (.int .u64 0) := blockCell hb30 2
          have p0 := blockFrozen hb30 0
          have p1 := blockFrozen hb30 1
          have p2 := blockFrozen hb30 2
          have HB30 := Lib.hid hb30
          clear hb30
          go_wp2
          have K := three_set HB30.out (.int .u8 0) (.int .u8 0) (.int .u64 0)
          have k0 := blockCell K 0
          have k1 := blockCell K 1
          have k2 := blockCell K 2
          refine bodyPost_ret (v := .tuple #[noTag, .int .i64 2, ev]) (by simp [results, Tryz.results65, go_sem, k0, k1, k2, noTag]) rfl ?_
          exact ident_fail N R A l i w w3 ev _ hkk3 (hev.mono (by simp [World.setCell]; omega)) (by omega) (by rw [ident_drop hi h31, HH.out, HS.out, if_pos H0.out]; rfl)
        · have hT : k ≤ 0 → ((acc : Int) * 128 + ((l[i + 1 + k]).toNat : Int) % 128 == 0) = false := fun hk0 => by rw [beq_eq_false_iff_ne]; omega
          have K21 : ∀ x y : Value, ((w2.setCell ⟨w.heap.size + 1, 2, none⟩ x).setCell ⟨w.heap.size + 1, 2, none⟩ y).heap[w.heap.size + 1]? = some (.cells #[.int .u8 (((l[i]).toNat : Int) / 64 * 64), .int .u8 (((l[i]).toNat : Int) / 32 % 2 * 32), y] 89 (0, 0)) := fun x y => by
            have := blockSet (blockSet HB21.out 2 x) 2 y
            simpa using this
          have K20 : ∀ x y : Value, ((w2.setCell ⟨w.heap.size + 1, 2, none⟩ x).setCell ⟨w.heap.size + 1, 2, none⟩ y).heap[w.heap.size]? = some (.cells #[.int .u8 0, .int .u8 0, .int .u64 0] 89 (0, 0)) := fun x y => by
            rw [Below.heap_setCell _ _ _ _ (by simp), Below.heap_setCell _ _ _ _ (by simp)]; exact HB20.out
          have H21 := Lib.hid K21
          have H20 := Lib.hid K20
          clear K21 K20
          by_cases h128 : (l[i + 1 + k]).toNat < 128
          · have t128 : (((l[i + 1 + k]).toNat : Int) / 128 * 128 == 0) = true := by rw [beq_iff_eq]; omega
            have HN0 := Lib.hid h0
            clear h0
            by_cases hk0 : k ≤ 0
            all_goals
              go_wp2_with fail
              have K := three_set (H20.out (.int .u64 (IntKind.u64.wrap ((acc : Int) * 128))) (.int .u64 ((acc : Int) * 128 + ((l[i + 1 + k]).toNat : Int) % 128))) (.int .u8 (((l[i]).toNat : Int) / 64 * 64)) (.int .u8 (((l[i]).toNat : Int) / 32 % 2 * 32)) (.int .u64 ((acc : Int) * 128 + ((l[i + 1 + k]).toNat : Int) % 128))
              have k0 := blockCell K 0
              have k1 := blockCell K 1
              have k2 := blockCell K 2
              have hid : Ber.ident (l.drop i) = some ((l[i]).toNat / 64, decide ((l[i]).toNat / 32 % 2 = 1), acc * 128 + (l[i + 1 + k]).toNat % 128, l.drop (i + 1 + k + 1)) := by
                rw [ident_drop hi h31, HH.out, HS.out, if_neg HN0.out, if_neg (by omega), if_pos h128]; rfl
              have hr3 : Rd w2 R A l (i + (k + 2)) := by rw [show i + (k + 2) = i + 1 + k + 1 by omega]; exact hr2
              have hr4 := ((hr3.stays (w' := (w2.setCell ⟨w.heap.size + 1, 2, none⟩ (.int .u64 (IntKind.u64.wrap ((acc : Int) * 128)))).setCell ⟨w.heap.size + 1, 2, none⟩ (.int .u64 ((acc : Int) * 128 + ((l[i + 1 + k]).toNat : Int) % 128)))
                (by rw [Below.heap_setCell _ _ _ _ (by simp; omega), Below.heap_setCell _ _ _ _ (by simp; omega)]) (by rw [Below.heap_setCell _ _ _ _ (by simp; omega), Below.heap_setCell _ _ _ _ (by simp; omega)])).three (g := w.heap.size) (by omega) (by omega) (.int .u8 (((l[i]).toNat : Int) / 64 * 64)) (.int .u8 (((l[i]).toNat : Int) / 32 % 2 * 32)) (.int .u64 ((acc : Int) * 128 + ((l[i + 1 + k]).toNat : Int) % 128)))
              have hkk4 := three_keep ((hkk2.setCell (p := ⟨w.heap.size + 1, 2, none⟩) (Or.inl (by simp)) (.int .u64 (IntKind.u64.wrap ((acc : Int) * 128)))).setCell (p := ⟨w.heap.size + 1, 2, none⟩) (Or.inl (by simp)) (.int .u64 ((acc : Int) * 128 + ((l[i + 1 + k]).toNat : Int) % 128))) (Nat.le_refl _) (.int .u8 (((l[i]).toNat : Int) / 64 * 64)) (.int .u8 (((l[i]).toNat : Int) / 32 % 2 * 32)) (.int .u64 ((acc : Int) * 128 + ((l[i + 1 + k]).toNat : Int) % 128))
              first
                | (refine bodyPost_ret (v := .tuple #[.agg #[.int .u8 (((l[i]).toNat : Int) / 64 * 64), .int .u8 (((l[i]).toNat : Int) / 32 % 2 * 32), .int .u64 ((acc : Int) * 128 + ((l[i + 1 + k]).toNat : Int) % 128)], .int .i64 2, .nilIface]) (by simp [results, Tryz.results65, go_sem, k0, k1, k2]) rfl ?_
                   exact ⟨ident_done N _ R A l i _ _ _ k 2 (by omega) _ (by omega) hr4 hid, hkk4⟩)
                | (refine bodyPost_ret (v := .tuple #[.agg #[.int .u8 (((l[i]).toNat : Int) / 64 * 64), .int .u8 (((l[i]).toNat : Int) / 32 % 2 * 32), .int .u64 ((acc : Int) * 128 + ((l[i + 1 + k]).toNat : Int) % 128)], .int .i64 ((k : Int) + 1 + 1), .nilIface]) (by simp [results, Tryz.results65, go_sem, k0, k1, k2]) rfl ?_
                   exact ⟨ident_done N _ R A l i _ _ _ k _ (by omega) _ (by omega) hr4 hid, hkk4⟩)
          · have t128 : (((l[i + 1 + k]).toNat : Int) / 128 * 128 == 0) = false := by rw [beq_eq_false_iff_ne]; omega
            have HN0 := Lib.hid h0
            clear h0
            have hr4 := (hr2.stays (w' := (w2.setCell ⟨w.heap.size + 1, 2, none⟩ (.int .u64 (IntKind.u64.wrap ((acc : Int) * 128)))).setCell ⟨w.heap.size + 1, 2, none⟩ (.int .u64 ((acc : Int) * 128 + ((l[i + 1 + k]).toNat : Int) % 128)))
                (by rw [Below.heap_setCell _ _ _ _ (by simp; omega), Below.heap_setCell _ _ _ _ (by simp; omega)]) (by rw [Below.heap_setCell _ _ _ _ (by simp; omega), Below.heap_setCell _ _ _ _ (by simp; omega)]))
            have hkk4 := ((hkk2.setCell (p := ⟨w.heap.size + 1, 2, none⟩) (Or.inl (by simp)) (.int .u64 (IntKind.u64.wrap ((acc : Int) * 128)))).setCell (p := ⟨w.heap.size + 1, 2, none⟩) (Or.inl (by simp)) (.int .u64 ((acc : Int) * 128 + ((l[i + 1 + k]).toNat : Int) % 128)))
            have hnext : Ber.high (l.drop (i + 1)) 0 0 = Ber.high (l.drop (i + 1 + k + 1)) (acc * 128 + (l[i + 1 + k]).toNat % 128) (k + 1) := by rw [HH.out, HS.out, if_neg HN0.out, if_neg (by omega), if_neg h128]
            have HNX := Lib.hid hnext
            have HR4 := Lib.hid hr4
            have HK4 := Lib.hid hkk4
            clear hnext hr4 hkk4
            by_cases hk0 : k ≤ 0
            all_goals
              go_wp2_with fail
              go_roundw
              case rel => exact ⟨k + 1, acc * 128 + (l[i + 1 + k]).toNat % 128, by omega, HA1.out, by first | rfl | go_num, by first | rfl | go_num, HR4.out, HK4.out, by simp [World.setCell]; omega, H20.out _ _, by simpa using H21.out _ _, HNX.out⟩
              case measure => simp [intOf]; omega
end Go.Proofs.YtdfehaonngccjaaGreatDoor

/- readIdentifier, every input. -/
namespace Go.Proofs.YtdfehaonngccjaaGreatDoor
open Go Go.RowKit

theorem ident_any (N : Nat) (w : World) (R A : Nat) (l : List UInt8) (i : Nat) (h : Rd w R A l i) (hE : Env N w) (hN : N ≤ R) :
    Calls Tryz.prog 65 #[.iface 60 (.pointer (some ⟨R, 0, none⟩))] w fun e w' => IdentOut N w.heap.size R A l i e w' ∧ Keep w.heap.size R w w' := by
  have hp := h.pos
  by_cases hi : i < l.length
  · by_cases h31 : (l[i]).toNat % 32 = 31
    · exact ident_high N w R A l i h hi h31 hE hN
    · refine (ident_short w R A l i h hi h31).mono fun e w' ⟨he, hk, hr⟩ => ⟨?_, hk⟩
      unfold IdentOut
      have : Ber.ident (l.drop i) = some ((l[i]).toNat / 64, decide ((l[i]).toNat / 32 % 2 = 1), (l[i]).toNat % 32, l.drop (i + 1)) := by
        rw [List.drop_eq_getElem_cons hi]; simp [Ber.ident, h31]
      rw [this]
      exact ⟨1, by rw [he]; rfl, hr, rfl⟩
  · obtain rfl : i = l.length := by omega
    refine (ident_end N w R A l h hE).mono fun e w' ⟨ev, n, he, hev, hb⟩ => ⟨?_, Keep.ofBelow hb⟩
    unfold IdentOut
    rw [show l.drop l.length = [] by simp]
    exact ⟨ev, n, he, hev⟩
end Go.Proofs.YtdfehaonngccjaaGreatDoor

/- readHeader, every input. -/
namespace Go.Proofs.YtdfehaonngccjaaGreatDoor
open Go Go.RowKit

def three_ (w : World) (g : Nat) (a b c : Value) : World := ((w.setCell ⟨g, 0, none⟩ a).setCell ⟨g, 1, none⟩ b).setCell ⟨g, 2, none⟩ c

/-- What readHeader comes to. -/
def HeadOut (N B R A : Nat) (l : List UInt8) (i : Nat) (e : Ending) (w' : World) : Prop :=
  match Ber.header (l.drop i) with
  | none => ∃ a b ev, e = .returned (.tuple #[noTag, .int .i64 a, .int .i64 b, ev]) ∧ ErrAt N B w' ev
  | some (c, b, t, len, rest) => ∃ k : Nat, e = .returned (.tuple #[tagValue c b t, .int .i64 (lenInt len), .int .i64 k, .nilIface]) ∧ Rd w' R A l (i + k) ∧ rest = l.drop (i + k)

theorem head_fail (N R A : Nat) (l : List UInt8) (i : Nat) (w wx : World) (ev : Value) (n m : Int) (hk : Keep w.heap.size R w wx) (he : ErrAt N (w.heap.size + 2) wx ev) (hN : N ≤ w.heap.size)
    (hnone : Ber.header (l.drop i) = none) :
    HeadOut N w.heap.size R A l i (.returned (.tuple #[noTag, .int .i64 n, .int .i64 m, ev])) (((wx.setCell ⟨w.heap.size, 0, none⟩ (.int .u8 0)).setCell ⟨w.heap.size, 1, none⟩ (.int .u8 0)).setCell ⟨w.heap.size, 2, none⟩ (.int .u64 0)) ∧
      Keep w.heap.size R w (((wx.setCell ⟨w.heap.size, 0, none⟩ (.int .u8 0)).setCell ⟨w.heap.size, 1, none⟩ (.int .u8 0)).setCell ⟨w.heap.size, 2, none⟩ (.int .u64 0)) := by
  refine ⟨?_, three_keep hk (Nat.le_refl _) _ _ _⟩
  unfold HeadOut
  rw [hnone]
  exact ⟨n, m, ev, rfl, (((he.setCell (by simpa using hN) (by simp) _).setCell (by simpa using hN) (by simp) _).setCell (by simpa using hN) (by simp) _).mono (by omega)⟩

theorem tagValue_open (c : Nat) (b : Bool) (t : Nat) : ∃ x y z : Int, tagValue c b t = .agg #[.int .u8 x, .int .u8 y, .int .u64 z] ∧ (b = true → (y == 0) = false) ∧ (b = false → (y == 0) = true) :=
  ⟨_, _, _, rfl, fun h => by subst h; rfl, fun h => by subst h; rfl⟩

set_option maxHeartbeats 1000000 in
theorem head_any (N : Nat) (w : World) (R A : Nat) (l : List UInt8) (i : Nat) (h : Rd w R A l i) (hE : Env N w) (hN : N ≤ R) :
    Calls Tryz.prog 48 #[.iface 60 (.pointer (some ⟨R, 0, none⟩))] w fun e w' => HeadOut N w.heap.size R A l i e w' ∧ Keep w.heap.size R w w' := by
  have hR := h.lt
  have hlen := h.len
  go_enter Tryz.func48, Tryz.ntmps48
  go_wp2_with fail
  have hE0 := (hE.stays (w' := (w.alloc (.cells #[.int .u8 0, .int .u8 0, .int .u64 0] 89)).alloc (.cells #[.int .u8 0, .int .u8 0, .int .u64 0] 89)) (fun b hb => by rw [Below.heap_alloc _ _ _ (by simp; omega), Below.heap_alloc _ _ _ (by omega)]))
  refine (ident_any N _ R A l i ((h.alloc _).alloc _) hE0 hN).mono ?_
  rintro e w1 ⟨ho, hk⟩
  have hk0 : w1.heap[w.heap.size]? = some (.cells #[.int .u8 0, .int .u8 0, .int .u64 0] 89 (0, 0)) := (hk.block _ (by simp; omega) (by omega)).trans ((Below.heap_alloc _ _ _ (by simp)).trans (heap_alloc_new w _))
  have hk1 : w1.heap[w.heap.size + 1]? = some (.cells #[.int .u8 0, .int .u8 0, .int .u64 0] 89 (0, 0)) := (hk.block _ (by simp) (by omega)).trans (by have := heap_alloc_new (w.alloc (.cells #[.int .u8 0, .int .u8 0, .int .u64 0] 89)) (.cells #[.int .u8 0, .int .u8 0, .int .u64 0] 89); simpa using this)
  have hkk : Keep w.heap.size R w w1 := (((Keep.refl _ R w).alloc (Nat.le_refl _) _).alloc (by simp) _).trans (hk.mono (by simp; omega))
  have hsz : w.heap.size + 2 ≤ w1.heap.size := by have := hk.size; simp at this; omega
  have HE1 := Lib.hid (hE0.keep hk (by simp; omega) hN)
  clear hE0 hk
  have c0 : w1.cell? ⟨w.heap.size, 0, none⟩ = some (.int .u8 0) := blockCell hk0 0
  have c1 : w1.cell? ⟨w.heap.size, 1, none⟩ = some (.int .u8 0) := blockCell hk0 1
  have c2 : w1.cell? ⟨w.heap.size, 2, none⟩ = some (.int .u64 0) := blockCell hk0 2
  have f0 := blockFrozen hk0 0
  have f1 := blockFrozen hk0 1
  have f2 := blockFrozen hk0 2
  have d0 : w1.cell? ⟨w.heap.size + 1, 0, none⟩ = some (.int .u8 0) := blockCell hk1 0
  have d1 : w1.cell? ⟨w.heap.size + 1, 1, none⟩ = some (.int .u8 0) := blockCell hk1 1
  have d2 : w1.cell? ⟨w.heap.size + 1, 2, none⟩ = some (.int .u64 0) := blockCell hk1 2
  have g0 := blockFrozen hk1 0
  have g1 := blockFrozen hk1 1
  have g2 := blockFrozen hk1 2
  have HK0 := Lib.hid hk0
  have HK1 := Lib.hid hk1
  clear hk0 hk1
  unfold IdentOut at ho
  cases hid : Ber.ident (l.drop i) with
  | none =>
    rw [hid] at ho
    obtain ⟨ev, n, rfl, hev⟩ := ho
    obtain ⟨a, rfl⟩ := hev.iface
    have HID := Lib.hid hid
    clear hid
    unfold noTag
    go_wp2
    have K0 := three_set ((three_other (w := w1) (g := w.heap.size + 1) (k := w.heap.size) (by omega) (.int .u8 0) (.int .u8 0) (.int .u64 0)).trans HK0.out) (.int .u8 0) (.int .u8 0) (.int .u64 0)
    have k0 := blockCell K0 0
    have k1 := blockCell K0 1
    have k2 := blockCell K0 2
    refine bodyPost_ret (v := .tuple #[noTag, .int .i64 0, .int .i64 0, .iface 110 (.pointer (some a))]) (by simp [results, Tryz.results48, go_sem, k0, k1, k2, noTag]) rfl ?_
    refine head_fail N R A l i w (((w1.setCell ⟨w.heap.size + 1, 0, none⟩ (.int .u8 0)).setCell ⟨w.heap.size + 1, 1, none⟩ (.int .u8 0)).setCell ⟨w.heap.size + 1, 2, none⟩ (.int .u64 0)) _ _ _ (three_keep hkk (by omega) _ _ _) ?_ (by omega) (by simp only [Ber.header]; rw [HID.out])
    have h2 : ErrAt N (w.heap.size + 2) w1 (.iface 110 (.pointer (some a))) := hev.mono (by simp)
    exact ((h2.setCell (by simp; omega) (by simp) _).setCell (by simp; omega) (by simp) _).setCell (by simp; omega) (by simp) _
  | some r =>
    obtain ⟨c, b, t, rest⟩ := r
    rw [hid] at ho
    obtain ⟨k, rfl, hr, hrest⟩ := ho
    obtain ⟨x, y, z, htv, hy1, hy0⟩ := tagValue_open c b t
    rw [htv]
    have HTV := Lib.hid htv
    have HID := Lib.hid hid
    have HREST := Lib.hid hrest
    have hkp := hr.pos
    have hA : l ≠ [] → A < w.heap.size := fun hl => h.ltA (by cases l with | nil => exact absurd rfl hl | cons a t => simp)
    clear htv hid hrest
    go_wp2_with fail
    have hne : l ≠ [] := by
      rintro rfl
      have := HID.out
      simp [Ber.ident] at this
    have hA' := hA hne
    have hK1 := (three_other (w := three_ w1 (w.heap.size + 1) (.int .u8 x) (.int .u8 y) (.int .u64 z)) (g := w.heap.size) (k := w.heap.size + 1) (by omega) (.int .u8 x) (.int .u8 y) (.int .u64 z)).trans (three_set HK1.out (.int .u8 x) (.int .u8 y) (.int .u64 z))
    have hK0 := three_set ((three_other (w := w1) (g := w.heap.size + 1) (k := w.heap.size) (by omega) (.int .u8 x) (.int .u8 y) (.int .u64 z)).trans HK0.out) (.int .u8 x) (.int .u8 y) (.int .u64 z)
    have hr2 := (hr.three (g := w.heap.size + 1) (by omega) (by omega) (.int .u8 x) (.int .u8 y) (.int .u64 z)).three (g := w.heap.size) (by omega) (by omega) (.int .u8 x) (.int .u8 y) (.int .u64 z)
    have hkk2 := three_keep (three_keep hkk (g := w.heap.size + 1) (by omega) (.int .u8 x) (.int .u8 y) (.int .u64 z)) (g := w.heap.size) (by omega) (.int .u8 x) (.int .u8 y) (.int .u64 z)
    have hsz2 : w.heap.size + 2 ≤ (three_ (three_ w1 (w.heap.size + 1) (.int .u8 x) (.int .u8 y) (.int .u64 z)) w.heap.size (.int .u8 x) (.int .u8 y) (.int .u64 z)).heap.size := by simpa [three_, World.setCell] using hsz
    unfold three_ at hK1 hsz2
    generalize ((((((w1.setCell ⟨w.heap.size + 1, 0, none⟩ (.int .u8 x)).setCell ⟨w.heap.size + 1, 1, none⟩ (.int .u8 y)).setCell ⟨w.heap.size + 1, 2, none⟩ (.int .u64 z)).setCell ⟨w.heap.size, 0, none⟩ (.int .u8 x)).setCell ⟨w.heap.size, 1, none⟩ (.int .u8 y)).setCell ⟨w.heap.size, 2, none⟩ (.int .u64 z)) = W2 at *
    clear c0 c1 c2 f0 f1 f2 d0 d1 d2 g0 g1 g2 HK0 HK1 HE1
    have HE2 := Lib.hid (hE.keep hkk2 (by omega) hN)
    refine (len_any N W2 R A l (i + k) hr2 HE2.out hN).mono ?_
    rintro e w3 ⟨ho, hk3⟩
    have hK0' := (hk3.block _ (by omega) (by omega)).trans hK0
    have hkk3 := hkk2.trans (hk3.mono (by omega))
    have HK3sz := Lib.hid hk3.size
    have c0 : w3.cell? ⟨w.heap.size, 0, none⟩ = some (.int .u8 x) := blockCell hK0' 0
    have c1 : w3.cell? ⟨w.heap.size, 1, none⟩ = some (.int .u8 y) := blockCell hK0' 1
    have c2 : w3.cell? ⟨w.heap.size, 2, none⟩ = some (.int .u64 z) := blockCell hK0' 2
    have f0 := blockFrozen hK0' 0
    have f1 := blockFrozen hK0' 1
    have f2 := blockFrozen hK0' 2
    have HK0 := Lib.hid hK0'
    clear hK0 hK0' hK1 hk3
    unfold LenOut at ho
    cases hl : Ber.lenOf (l.drop (i + k)) with
    | none =>
      rw [hl] at ho
      obtain ⟨n, m, ev, rfl, hev⟩ := ho
      obtain ⟨a, rfl⟩ := hev.iface
      have HL := Lib.hid hl
      clear hl
      go_wp2
      have K0 := three_set HK0.out (.int .u8 0) (.int .u8 0) (.int .u64 0)
      have k0 := blockCell K0 0
      have k1 := blockCell K0 1
      have k2 := blockCell K0 2
      refine bodyPost_ret (v := .tuple #[noTag, .int .i64 0, .int .i64 k, .iface 110 (.pointer (some a))]) (by simp [results, Tryz.results48, go_sem, k0, k1, k2, noTag]) rfl ?_
      exact head_fail N R A l i w w3 _ _ _ hkk3 (hev.mono hsz2) (by omega) (by simp only [Ber.header]; rw [HID.out]; simp only []; rw [HREST.out, HL.out])
    | some r =>
      obtain ⟨len, rest2⟩ := r
      rw [hl] at ho
      obtain ⟨k', rfl, hr3, hrest2⟩ := ho
      have HL := Lib.hid hl
      have HREST2 := Lib.hid hrest2
      have hkp3 := hr3.pos
      clear hl hrest2
      have K0 := three_set HK0.out (.int .u8 x) (.int .u8 y) (.int .u64 z)
      have k0 := blockCell K0 0
      have k1 := blockCell K0 1
      have k2 := blockCell K0 2
      have hhd : Ber.header (l.drop i) = if len = none ∧ b = false then none else some (c, b, t, len, rest2) := by
        simp only [Ber.header]; rw [HID.out]; simp only []; rw [HREST.out, HL.out]
      have HHD := Lib.hid hhd
      have HD0 := Lib.hid k0
      have HD1 := Lib.hid k1
      have HD2 := Lib.hid k2
      clear hhd k0 k1 k2 K0
      have hdone : ∀ (n m : Int), n = lenInt len → m = ((k + k' : Nat) : Int) → (len = none → b = true) → HeadOut N w.heap.size R A l i (.returned (.tuple #[.agg #[.int .u8 x, .int .u8 y, .int .u64 z], .int .i64 n, .int .i64 m, .nilIface])) (three_ w3 w.heap.size (.int .u8 x) (.int .u8 y) (.int .u64 z)) := by
        rintro n m rfl rfl hlb
        unfold HeadOut
        rw [HHD.out, if_neg (by rintro ⟨e1, e2⟩; rw [hlb e1] at e2; cases e2)]
        exact ⟨k + k', by rw [HTV.out], by rw [← Nat.add_assoc]; exact hr3.three (by omega) (by omega) _ _ _, by rw [HREST2.out]; congr 1; omega⟩
      have hkk4 : Keep w.heap.size R w (three_ w3 w.heap.size (.int .u8 x) (.int .u8 y) (.int .u64 z)) := three_keep hkk3 (Nat.le_refl _) _ _ _
      have HDN := Lib.hid hdone
      clear hdone
      cases len with
      | some n =>
        have hn1 : ((n : Int) == -1) = false := by rw [beq_eq_false_iff_ne]; omega
        simp only [lenInt]
        go_wp2
        refine bodyPost_ret (v := .tuple #[.agg #[.int .u8 x, .int .u8 y, .int .u64 z], .int .i64 n, .int .i64 ((k : Int) + k'), .nilIface]) (by simp [results, Tryz.results48, go_sem, HD0.out, HD1.out, HD2.out]) rfl ?_
        exact ⟨HDN.out _ _ rfl (by omega) (by simp), hkk4⟩
      | none =>
        simp only [lenInt]
        cases b with
        | true =>
          have hy := hy1 rfl
          go_wp2
          refine bodyPost_ret (v := .tuple #[.agg #[.int .u8 x, .int .u8 y, .int .u64 z], .int .i64 (-1), .int .i64 ((k : Int) + k'), .nilIface]) (by simp [results, Tryz.results48, go_sem, HD0.out, HD1.out, HD2.out]) rfl ?_
          exact ⟨HDN.out _ _ rfl (by omega) (by simp), hkk4⟩
        | false =>
          have hy := hy0 rfl
          go_wp2_with fail
          have hsz3 : w.heap.size + 2 ≤ w3.heap.size := by have := (HK3sz).out; omega
          refine (new_err _ (by decide) (by decide) N w3).mono ?_
          rintro e w4 ⟨ev, rfl, hev, hb4⟩
          have hK4 := (hb4.block _ (by omega)).trans HK0.out
          have hkk5 := hkk3.trans (Keep.ofBelow (hb4.mono (by omega)))
          have p0 : w4.cell? ⟨w.heap.size, 0, none⟩ = some (.int .u8 x) := blockCell hK4 0
          have p1 : w4.cell? ⟨w.heap.size, 1, none⟩ = some (.int .u8 y) := blockCell hK4 1
          have p2 : w4.cell? ⟨w.heap.size, 2, none⟩ = some (.int .u64 z) := blockCell hK4 2
          have q0 := blockFrozen hK4 0
          have q1 := blockFrozen hK4 1
          have q2 := blockFrozen hK4 2
          have HK4 := Lib.hid hK4
          clear hK4
          go_wp2
          have K0 := three_set HK4.out (.int .u8 0) (.int .u8 0) (.int .u64 0)
          have k0 := blockCell K0 0
          have k1 := blockCell K0 1
          have k2 := blockCell K0 2
          refine bodyPost_ret (v := .tuple #[noTag, .int .i64 0, .int .i64 ((k : Int) + k'), ev]) (by simp [results, Tryz.results48, go_sem, k0, k1, k2, noTag]) rfl ?_
          exact head_fail N R A l i w w4 _ _ _ hkk5 (hev.mono hsz3) (by omega) (by rw [HHD.out]; simp)
end Go.Proofs.YtdfehaonngccjaaGreatDoor

/- readPacket: what is laid at a packet's start; what stands when a primitive one is read. -/
namespace Go.Proofs.YtdfehaonngccjaaGreatDoor
open Go Go.RowKit

theorem make0 (w : World) : (Instr.makeSlice 25 (.int .i64 0) (.int .i64 0)).run Tryz.prog w = .ok (.slice (some ⟨w.heap.size, 0, none⟩) 0 0) (w.alloc (.cells #[] 5)) := by kernel_rfl
theorem make2 (w : World) : (Instr.makeSlice 81 (.int .i64 0) (.int .i64 2)).run Tryz.prog w = .ok (.slice (some ⟨w.heap.size, 0, none⟩) 0 2) (w.alloc (.cells #[.pointer none, .pointer none] 53)) := by kernel_rfl

/-- The four blocks of a packet's start. -/
def startW (w : World) (x y z : Int) : World :=
  (((w.alloc (.cells #[.int .u8 x, .int .u8 y, .int .u64 z] 89)).alloc
    (.cells (PkCells x y z .nilIface (.slice none 0 0) (w.heap.size + 1 + 1) (.slice (some ⟨w.heap.size + 1 + 1 + 1, 0, none⟩) 0 2) (.string ⟨#[]⟩)) 92)).alloc
    (.cells #[.slice none 0 0, .int .i64 0, .int .i8 0] 122)).alloc (.cells #[.pointer none, .pointer none] 53)

theorem heap4 (w : World) (a b c d : Obj) (k : Nat) (hk : k < w.heap.size) : ((((w.alloc a).alloc b).alloc c).alloc d).heap[k]? = w.heap[k]? := by
  rw [Below.heap_alloc _ _ _ (by simp; omega), Below.heap_alloc _ _ _ (by simp; omega), Below.heap_alloc _ _ _ (by simp; omega), Below.heap_alloc _ _ _ hk]

theorem startW_size (w : World) (x y z : Int) : (startW w x y z).heap.size = w.heap.size + 4 := by simp [startW]
theorem startW_P (w : World) (x y z : Int) : (startW w x y z).heap[w.heap.size + 1]? = some (.cells (PkCells x y z .nilIface (.slice none 0 0) (w.heap.size + 1 + 1) (.slice (some ⟨w.heap.size + 1 + 1 + 1, 0, none⟩) 0 2) (.string ⟨#[]⟩)) 92 (0, 0)) := by
  unfold startW
  rw [Below.heap_alloc _ _ _ (by simp), Below.heap_alloc _ _ _ (by simp)]
  exact alloc2_new w _ _
theorem startW_D (w : World) (x y z : Int) : BufAt (startW w x y z) (w.heap.size + 1 + 1) none (Lib.byteCells []) := by
  refine ⟨rfl, 0, ?_⟩
  unfold startW
  rw [Below.heap_alloc _ _ _ (by simp)]
  have := alloc2_new (w.alloc (.cells #[.int .u8 x, .int .u8 y, .int .u64 z] 89)) (.cells (PkCells x y z .nilIface (.slice none 0 0) (w.heap.size + 1 + 1) (.slice (some ⟨w.heap.size + 1 + 1 + 1, 0, none⟩) 0 2) (.string ⟨#[]⟩)) 92) (.cells #[.slice none 0 0, .int .i64 0, .int .i8 0] 122)
  simpa using this
theorem startW_C (w : World) (x y z : Int) : KidRow (startW w x y z) (w.heap.size + 1 + 1 + 1) 2 [] := by
  refine ⟨#[.pointer none, .pointer none], ?_, by simp, by decide, rfl, rfl⟩
  unfold startW
  have := heap_alloc_new (((w.alloc (.cells #[.int .u8 x, .int .u8 y, .int .u64 z] 89)).alloc
    (.cells (PkCells x y z .nilIface (.slice none 0 0) (w.heap.size + 1 + 1) (.slice (some ⟨w.heap.size + 1 + 1 + 1, 0, none⟩) 0 2) (.string ⟨#[]⟩)) 92)).alloc
    (.cells #[.slice none 0 0, .int .i64 0, .int .i8 0] 122)) (.cells #[.pointer none, .pointer none] 53)
  simpa using this
theorem startW_below (w : World) (x y z : Int) : Below w.heap.size w (startW w x y z) :=
  ((((Below.refl _ w).alloc (Nat.le_refl _) _).alloc (by simp) _).alloc (by simp; omega) _).alloc (by simp; omega) _

theorem pk0 {w : World} {p D : Nat} {a0 a1 a2 : Int} {val bv kv ds : Value} {t : TypeId} {fr : Nat × Nat} (h : w.heap[p]? = some (.cells (PkCells a0 a1 a2 val bv D kv ds) t fr)) : w.cell? ⟨p, 0, none⟩ = some (.int .u8 a0) := blockCell h 0
theorem pk1 {w : World} {p D : Nat} {a0 a1 a2 : Int} {val bv kv ds : Value} {t : TypeId} {fr : Nat × Nat} (h : w.heap[p]? = some (.cells (PkCells a0 a1 a2 val bv D kv ds) t fr)) : w.cell? ⟨p, 1, none⟩ = some (.int .u8 a1) := blockCell h 1
theorem pk2 {w : World} {p D : Nat} {a0 a1 a2 : Int} {val bv kv ds : Value} {t : TypeId} {fr : Nat × Nat} (h : w.heap[p]? = some (.cells (PkCells a0 a1 a2 val bv D kv ds) t fr)) : w.cell? ⟨p, 2, none⟩ = some (.int .u64 a2) := blockCell h 2
theorem pk3 {w : World} {p D : Nat} {a0 a1 a2 : Int} {val bv kv ds : Value} {t : TypeId} {fr : Nat × Nat} (h : w.heap[p]? = some (.cells (PkCells a0 a1 a2 val bv D kv ds) t fr)) : w.cell? ⟨p, 3, none⟩ = some val := blockCell h 3
theorem pk4 {w : World} {p D : Nat} {a0 a1 a2 : Int} {val bv kv ds : Value} {t : TypeId} {fr : Nat × Nat} (h : w.heap[p]? = some (.cells (PkCells a0 a1 a2 val bv D kv ds) t fr)) : w.cell? ⟨p, 4, none⟩ = some bv := blockCell h 4
theorem pk5 {w : World} {p D : Nat} {a0 a1 a2 : Int} {val bv kv ds : Value} {t : TypeId} {fr : Nat × Nat} (h : w.heap[p]? = some (.cells (PkCells a0 a1 a2 val bv D kv ds) t fr)) : w.cell? ⟨p, 5, none⟩ = some (.pointer (some ⟨D, 0, none⟩)) := blockCell h 5
theorem pk6 {w : World} {p D : Nat} {a0 a1 a2 : Int} {val bv kv ds : Value} {t : TypeId} {fr : Nat × Nat} (h : w.heap[p]? = some (.cells (PkCells a0 a1 a2 val bv D kv ds) t fr)) : w.cell? ⟨p, 6, none⟩ = some kv := blockCell h 6

/-- A primitive packet stands. -/
theorem prim_stable {B : Nat} {w : World} {p D C cap c t : Nat} {row : Option Nat} {bv : Value} {data : List UInt8} (hc : c < 4) (ht : t < 2 ^ 64)
    (hp : w.heap[p]? = some (.cells (PkCells ((c * 64 : Nat) : Int) 0 t (valOf c false t data) bv D (.slice (some ⟨C, 0, none⟩) 0 cap) (.string ⟨#[]⟩)) 92 (0, 0)))
    (hb : BufAt w D row (Lib.byteCells data)) (hk : KidRow w C cap []) (hpB : B ≤ p) (hDB : B ≤ D) (hCB : B ≤ C) (hrB : ∀ g, row = some g → B ≤ g)
    (hbv : (c ≠ 0 ∧ bv = .slice none 0 0) ∨ c = 0 ∧ ∃ G cp, bv = .slice (some ⟨G, 0, none⟩) data.length cp ∧ B ≤ G ∧ G < w.heap.size ∧ ∀ j v, (Lib.byteCells data)[j]? = some v → w.cell? ⟨G, j, none⟩ = some v) :
    Stable B w (fun _ => False) (fun w2 => Tree w2 p (.mk c false t data [])) := by
  intro w2 h2
  have hplt := blockLt hp
  unfold Tree
  refine ⟨D, row, C, cap, bv, [], hc, ht, (h2 p hpB hplt id).trans hp, hb.kept (h2 D hDB hb.ltD id) (fun g e => h2 g (hrB g e) (by subst e; exact hb.ltG) id), hk.stays (h2 C hCB hk.lt id), ?_, fun _ => rfl, (fun h => by cases h), rfl⟩
  unfold BvAt
  rcases hbv with ⟨h0, rfl⟩ | ⟨h0, G, cp, rfl, hG, hGl, hs⟩
  · rw [if_neg (by rintro ⟨h, _⟩; exact h0 h)]
  · rw [if_pos ⟨h0, rfl⟩]
    exact ⟨G, cp, rfl, fun j v hj => (World.cell?_of_block (w := w) (h2 G hG hGl id)).trans (hs j v hj)⟩
end Go.Proofs.YtdfehaonngccjaaGreatDoor

/- What the directory's package asks of packets: children, numbers, texts. -/
namespace Go.Proofs.YtdfehaonngccjaaGreatDoor
open Go Go.RowKit

theorem ta_i (v : Value) (w : World) : (Instr.typeAssert (.iface 2 v) 20 2 true).run Tryz.prog w = .ok (.tuple #[v, .bool true]) w := by kernel_rfl
theorem ta_s (v : Value) (w : World) : (Instr.typeAssert (.iface 9 v) 20 9 true).run Tryz.prog w = .ok (.tuple #[v, .bool true]) w := by kernel_rfl
theorem ta_e (v : Value) (w : World) : (Instr.typeAssert (.iface 76 v) 58 76 true).run Tryz.prog w = .ok (.tuple #[v, .bool true]) w := by kernel_rfl

set_option maxRecDepth 100000 in
set_option maxHeartbeats 4000000 in
theorem int64_of (w : World) (q D : Nat) (a0 a1 a2 n : Int) (bv kv ds : Value) (hq : w.heap[q]? = some (.cells (PkCells a0 a1 a2 (.iface 2 (.int .i64 n)) bv D kv ds) 92 (0, 0))) :
    Calls Tryz.prog 47 #[.pointer (some ⟨q, 0, none⟩)] w fun e w' => e = .returned (.tuple #[.int .i64 n, .nilIface]) ∧ w = w' := by
  have c3 := pk3 hq
  have ta := ta_i
  clear hq
  go_enter Tryz.func47, Tryz.ntmps47
  go_wp2
  go_ret2
  exact ⟨rfl, rfl⟩

set_option maxRecDepth 100000 in
set_option maxHeartbeats 4000000 in
theorem code_of (w : World) (q D : Nat) (a0 a1 a2 n : Int) (bv kv ds : Value) (hq : w.heap[q]? = some (.cells (PkCells a0 a1 a2 (.iface 2 (.int .i64 n)) bv D kv ds) 92 (0, 0))) (h0 : 0 ≤ n) (h1 : n ≤ 127) :
    Calls Tryz.prog 37 #[.pointer (some ⟨q, 0, none⟩)] w fun e w' => e = .returned (.tuple #[.int .u16 n, .nilIface]) ∧ w = w' := by
  have hc := int64_of w q D a0 a1 a2 n bv kv ds hq
  have hm : n % 65536 = n := by omega
  have HC := Lib.hid hc
  clear hc hq
  go_enter Tryz.func37, Tryz.ntmps37
  go_wp2_with fail
  refine HC.out.mono ?_
  rintro e w' ⟨rfl, rfl⟩
  go_wp2
  go_ret2
  exact ⟨rfl, rfl⟩

set_option maxRecDepth 100000 in
set_option maxHeartbeats 4000000 in
theorem text_of (w : World) (q D : Nat) (a0 a1 a2 : Int) (s : ByteArray) (bv kv ds : Value) (hq : w.heap[q]? = some (.cells (PkCells a0 a1 a2 (.iface 9 (.string s)) bv D kv ds) 92 (0, 0))) :
    Calls Tryz.prog 38 #[.pointer (some ⟨q, 0, none⟩)] w fun e w' => e = .returned (.tuple #[.string s, .nilIface]) ∧ w = w' := by
  have c3 := pk3 hq
  have ta := ta_s
  clear hq
  go_enter Tryz.func38, Tryz.ntmps38
  go_wp2
  go_ret2
  exact ⟨rfl, rfl⟩

set_option maxRecDepth 100000 in
set_option maxHeartbeats 4000000 in
theorem shown_of (w : World) (s : ByteArray) :
    Calls Tryz.prog 39 #[.iface 9 (.string s)] w fun e w' => e = .returned (.string s) ∧ w = w' := by
  have ta := ta_s
  go_enter Tryz.func39, Tryz.ntmps39
  go_wp2
  go_ret
  exact ⟨rfl, rfl⟩

set_option maxRecDepth 100000 in
set_option maxHeartbeats 4000000 in
theorem child_of (w : World) (q D C cap n i r : Nat) (a0 a1 a2 : Int) (val bv ds : Value) (hq : w.heap[q]? = some (.cells (PkCells a0 a1 a2 val bv D (.slice (some ⟨C, 0, none⟩) n cap) ds) 92 (0, 0)))
    (hi : i < n) (hn : n ≤ 1000000) (hc : w.cell? ⟨C, i, none⟩ = some (.pointer (some ⟨r, 0, none⟩))) :
    Calls Tryz.prog 36 #[.pointer (some ⟨q, 0, none⟩), .int .i64 i] w fun e w' => e = .returned (.tuple #[.pointer (some ⟨r, 0, none⟩), .nilIface]) ∧ w = w' := by
  have c6 := pk6 hq
  have h1 : ((i : Int) < (n : Int)) = True := eq_true (by omega)
  have h2 : decide ((i : Int) ≥ (n : Int)) = false := by simp; omega
  have h3 : decide ((n : Int) ≤ (i : Int)) = false := by simp; omega
  have h4 : (0 ≤ (i : Int)) = True := eq_true (by omega)
  have h5 : decide ((i : Int) < 0) = false := by simp
  clear hq
  go_enter Tryz.func36, Tryz.ntmps36
  go_wp2
  go_ret2
  exact ⟨rfl, rfl⟩

set_option maxRecDepth 100000 in
set_option maxHeartbeats 4000000 in
theorem kids_of (w : World) (q D cap n m : Nat) (C : Option Addr) (a0 a1 a2 : Int) (val bv ds : Value) (s : ByteArray) (hq : w.heap[q]? = some (.cells (PkCells a0 a1 a2 val bv D (.slice C n cap) ds) 92 (0, 0)))
    (hm : m ≤ n) (hn : n ≤ 1000000) :
    Calls Tryz.prog 35 #[.pointer (some ⟨q, 0, none⟩), .int .i64 m, .int .i64 (-1), .string s] w fun e w' => e = .returned (.tuple #[.slice C n cap, .nilIface]) ∧ w = w' := by
  have c6 := pk6 hq
  have h2 : decide ((n : Int) < (m : Int)) = false := by simp; omega
  have h3 : decide ((m : Int) ≥ 0) = true := by simp
  clear hq
  go_enter Tryz.func35, Tryz.ntmps35
  go_wp2
  go_ret2
  exact ⟨rfl, rfl⟩
end Go.Proofs.YtdfehaonngccjaaGreatDoor

/- GetLDAPError of a message with a result. -/
namespace Go.Proofs.YtdfehaonngccjaaGreatDoor
open Go Go.RowKit

/-- A packet in block q. -/
def PkAt (w : World) (q : Nat) (a0 a1 a2 : Int) (val kids : Value) : Prop := ∃ D bv ds, w.heap[q]? = some (.cells (PkCells a0 a1 a2 val bv D kids ds) 92 (0, 0))
theorem PkAt.stays {w w' : World} {q : Nat} {a0 a1 a2 : Int} {val kids : Value} (h : PkAt w q a0 a1 a2 val kids) (k : Below w.heap.size w w') : PkAt w' q a0 a1 a2 val kids := by
  obtain ⟨D, bv, ds, h⟩ := h
  exact ⟨D, bv, ds, (k.block q (blockLt h)).trans h⟩

/-- A message with a result: the operation stands in block q1, its parts in a, b and c. -/
structure ResMsg (w : World) (q q1 a b c C1 n1 cap1 : Nat) (kind code : Int) (matched text : ByteArray) : Prop where
  top : ∃ (a0 a1 a2 : Int) (val : Value) (C cap : Nat), PkAt w q a0 a1 a2 val (.slice (some ⟨C, 0, none⟩) 2 cap) ∧ w.cell? ⟨C, 1, none⟩ = some (.pointer (some ⟨q1, 0, none⟩))
  op : PkAt w q1 64 32 kind .nilIface (.slice (some ⟨C1, 0, none⟩) n1 cap1)
  three : 3 ≤ n1
  four : n1 ≤ 4
  k0 : w.cell? ⟨C1, 0, none⟩ = some (.pointer (some ⟨a, 0, none⟩))
  k1 : w.cell? ⟨C1, 1, none⟩ = some (.pointer (some ⟨b, 0, none⟩))
  k2 : w.cell? ⟨C1, 2, none⟩ = some (.pointer (some ⟨c, 0, none⟩))
  ea : ∃ kv, PkAt w a 0 0 10 (.iface 2 (.int .i64 code)) kv
  eb : ∃ kv, PkAt w b 0 0 4 (.iface 9 (.string matched)) kv
  ec : ∃ kv, PkAt w c 0 0 4 (.iface 9 (.string text)) kv
  lo : 0 ≤ code
  hi : code ≤ 127
theorem ResMsg.stays {w w' : World} {q q1 a b c C1 n1 cap1 : Nat} {kind code : Int} {matched text : ByteArray} (h : ResMsg w q q1 a b c C1 n1 cap1 kind code matched text) (k : Below w.heap.size w w') : ResMsg w' q q1 a b c C1 n1 cap1 kind code matched text := by
  have hcell : ∀ {ad : Addr} {v : Value}, w.cell? ad = some v → w'.cell? ad = some v := fun h => (k.cell (World.block_lt_of_cell? w _ h)).trans h
  obtain ⟨⟨a0, a1, a2, val, C, cap, t1, t2⟩, h2, h3, h4, h5, h6, h7, ⟨v8, h8⟩, ⟨v9, h9⟩, ⟨v10, h10⟩, h11, h12⟩ := h
  exact ⟨⟨a0, a1, a2, val, C, cap, t1.stays k, hcell t2⟩, h2.stays k, h3, h4, hcell h5, hcell h6, hcell h7, ⟨v8, h8.stays k⟩, ⟨v9, h9.stays k⟩, ⟨v10, h10.stays k⟩, h11, h12⟩

/-- What GetLDAPError makes of it. -/
def ErrW (w : World) (q : Nat) (code : Int) (matched text : ByteArray) : World :=
  (w.alloc (.cells #[.string text] 112)).alloc (.cells #[.iface 110 (.pointer (some ⟨w.heap.size, 0, none⟩)), .int .u16 code, .string matched, .pointer (some ⟨q, 0, none⟩)] 80)

set_option maxRecDepth 100000 in
set_option maxHeartbeats 8000000 in
theorem ldapErr_zero (w : World) (q q1 a b c C1 n1 cap1 : Nat) (kind code : Int) (matched text : ByteArray) (h : ResMsg w q q1 a b c C1 n1 cap1 kind code matched text) (h0 : code = 0) :
    Calls Tryz.prog 21 #[.pointer (some ⟨q, 0, none⟩)] w fun e w' => e = .returned .nilIface ∧ w = w' := by
  subst h0
  obtain ⟨⟨a0, a1, a2, val, C, cap, ⟨D0, bv0, ds0, t1⟩, t2⟩, ⟨D1, bv1, ds1, hop⟩, h3, h4, k0, k1, k2, ⟨kva, Da, bva, dsa, ea⟩, ⟨kvb, Db, bvb, dsb, eb⟩, ⟨kvc, Dc, bvc, dsc, ec⟩, lo, hi⟩ := h
  have hkid := fun s => kids_of w q D0 cap 2 2 (some ⟨C, 0, none⟩) a0 a1 a2 val bv0 ds0 s t1 (by omega) (by omega)
  have hch := child_of w q D0 C cap 2 1 q1 a0 a1 a2 val bv0 ds0 t1 (by omega) (by omega) t2
  have hkid1 := fun s => kids_of w q1 D1 cap1 n1 3 (some ⟨C1, 0, none⟩) 64 32 kind .nilIface bv1 ds1 s hop h3 (by omega)
  have hch0 := child_of w q1 D1 C1 cap1 n1 0 a 64 32 kind .nilIface bv1 ds1 hop (by omega) (by omega) k0
  have hcode := code_of w a Da 0 0 10 0 bva kva dsa ea lo hi
  have o0 := pk0 hop
  have o1 := pk1 hop
  have x2 := pk2 ea
  have HKID := Lib.hid hkid
  have HCH := Lib.hid hch
  have HKID1 := Lib.hid hkid1
  have HCH0 := Lib.hid hch0
  have HCODE := Lib.hid hcode
  clear hkid hch hkid1 hch0 hcode t1 t2 hop k0 k1 k2 ea eb ec lo hi h3 h4
  go_enter Tryz.func21, Tryz.ntmps21
  go_wp2_with fail
  refine (HKID.out _).mono ?_
  rintro e w' ⟨rfl, rfl⟩
  go_wp2_with fail
  refine HCH.out.mono ?_
  rintro e w' ⟨rfl, rfl⟩
  go_wp2_with fail
  refine (HKID1.out _).mono ?_
  rintro e w' ⟨rfl, rfl⟩
  go_wp2_with fail
  refine HCH0.out.mono ?_
  rintro e w' ⟨rfl, rfl⟩
  go_wp2_with fail
  refine HCODE.out.mono ?_
  rintro e w' ⟨rfl, rfl⟩
  go_wp2
  go_ret
  exact ⟨rfl, rfl⟩

set_option maxRecDepth 100000 in
set_option maxHeartbeats 8000000 in
theorem ldapErr_some (w : World) (q q1 a b c C1 n1 cap1 : Nat) (kind code : Int) (matched text : ByteArray) (h : ResMsg w q q1 a b c C1 n1 cap1 kind code matched text) (h0 : code ≠ 0) :
    Calls Tryz.prog 21 #[.pointer (some ⟨q, 0, none⟩)] w fun e w' => e = .returned (.iface 76 (.pointer (some ⟨w.heap.size + 1, 0, none⟩))) ∧ ErrW w q code matched text = w' := by
  obtain ⟨⟨a0, a1, a2, val, C, cap, ⟨D0, bv0, ds0, t1⟩, t2⟩, ⟨D1, bv1, ds1, hop⟩, h3, h4, k0, k1, k2, ⟨kva, Da, bva, dsa, ea⟩, ⟨kvb, Db, bvb, dsb, eb⟩, ⟨kvc, Dc, bvc, dsc, ec⟩, lo, hi⟩ := h
  have hkid := fun s => kids_of w q D0 cap 2 2 (some ⟨C, 0, none⟩) a0 a1 a2 val bv0 ds0 s t1 (by omega) (by omega)
  have hch := child_of w q D0 C cap 2 1 q1 a0 a1 a2 val bv0 ds0 t1 (by omega) (by omega) t2
  have hkid1 := fun s => kids_of w q1 D1 cap1 n1 3 (some ⟨C1, 0, none⟩) 64 32 kind .nilIface bv1 ds1 s hop h3 (by omega)
  have hch0 := child_of w q1 D1 C1 cap1 n1 0 a 64 32 kind .nilIface bv1 ds1 hop (by omega) (by omega) k0
  have hch1 := child_of w q1 D1 C1 cap1 n1 1 b 64 32 kind .nilIface bv1 ds1 hop (by omega) (by omega) k1
  have hch2 := child_of w q1 D1 C1 cap1 n1 2 c 64 32 kind .nilIface bv1 ds1 hop (by omega) (by omega) k2
  have hcode := code_of w a Da 0 0 10 code bva kva dsa ea lo hi
  have htext := text_of w b Db 0 0 4 matched bvb kvb dsb eb
  have hshow := shown_of w text
  have o0 := pk0 hop
  have o1 := pk1 hop
  have x2 := pk2 ea
  have y2 := pk2 eb
  have z2 := pk2 ec
  have z3 := pk3 ec
  have hcz : (code == 0) = false := by rw [beq_eq_false_iff_ne]; exact h0
  have HKID := Lib.hid hkid
  have HCH := Lib.hid hch
  have HKID1 := Lib.hid hkid1
  have HCH0 := Lib.hid hch0
  have HCH1 := Lib.hid hch1
  have HCH2 := Lib.hid hch2
  have HCODE := Lib.hid hcode
  have HTEXT := Lib.hid htext
  have HSHOW := Lib.hid hshow
  clear hkid hch hkid1 hch0 hch1 hch2 hcode htext hshow t1 t2 hop k0 k1 k2 ea eb ec lo hi h3 h4 h0
  go_enter Tryz.func21, Tryz.ntmps21
  go_wp2_with fail
  refine (HKID.out _).mono ?_
  rintro e w' ⟨rfl, rfl⟩
  go_wp2_with fail
  refine HCH.out.mono ?_
  rintro e w' ⟨rfl, rfl⟩
  go_wp2_with fail
  refine (HKID1.out _).mono ?_
  rintro e w' ⟨rfl, rfl⟩
  go_wp2_with fail
  refine HCH0.out.mono ?_
  rintro e w' ⟨rfl, rfl⟩
  go_wp2_with fail
  refine HCODE.out.mono ?_
  rintro e w' ⟨rfl, rfl⟩
  go_wp2_with fail
  refine HCH1.out.mono ?_
  rintro e w' ⟨rfl, rfl⟩
  go_wp2_with fail
  refine HCH2.out.mono ?_
  rintro e w' ⟨rfl, rfl⟩
  go_wp2_with fail
  refine HTEXT.out.mono ?_
  rintro e w' ⟨rfl, rfl⟩
  go_wp2_with fail
  refine HSHOW.out.mono ?_
  rintro e w' ⟨rfl, rfl⟩
  go_wp2_with fail
  refine (new_any _ _).mono ?_
  rintro e w' ⟨rfl, rfl⟩
  go_wp2
  go_ret
  exact ⟨rfl, rfl⟩
end Go.Proofs.YtdfehaonngccjaaGreatDoor

/- bytes.NewReader over a string's bytes, what is left of it, and the text of an error. -/
namespace Go.Proofs.YtdfehaonngccjaaGreatDoor
open Go Go.RowKit

theorem bytesWorld_below (B : Nat) (w : World) (e : TypeId) (s : ByteArray) (hB : B ≤ w.heap.size) : Below B w (Lib.bytesWorld w e s) :=
  ⟨rfl, rfl, rfl, by rw [Lib.bytesWorld_size]; omega, fun k hk => Lib.bytesWorld_at_old w e s k (by omega)⟩

theorem newReader_any (w : World) (p : Option Addr) (n c : Nat) :
    Calls Tryz.prog 22 #[.slice p n c] w fun e w' => e = .returned (.pointer (some ⟨w.heap.size, 0, none⟩)) ∧ w.alloc (.cells #[.slice p n c, .int .i64 0, .int .i64 (-1)] 99) = w' := by
  go_enter Tryz.func22, Tryz.ntmps22
  go_wp2
  go_ret
  exact ⟨rfl, rfl⟩

theorem rd_new (w : World) (s : ByteArray) (hl : s.size < 1000000000) :
    Rd ((Lib.bytesWorld w 5 s).alloc (.cells #[.slice (some ⟨w.heap.size, 0, none⟩) s.size (grownCap w s.size 0 5), .int .i64 0, .int .i64 (-1)] 99)) (w.heap.size + 1) w.heap.size s.data.toList 0 := by
  refine ⟨⟨grownCap w s.size 0 5, -1, ?_, ?_⟩, ?_, by omega, Nat.zero_le _, by simpa using hl⟩
  · have := grownCap_ge w s.size 0 5
    simpa using this
  · have := heap_alloc_new (Lib.bytesWorld w 5 s) (.cells #[.slice (some ⟨w.heap.size, 0, none⟩) s.size (grownCap w s.size 0 5), .int .i64 0, .int .i64 (-1)] 99)
    rw [Lib.bytesWorld_size] at this
    simpa using this
  · intro j v hv
    have hj : j < s.size := by
      have := (List.getElem?_eq_some_iff.1 hv).1
      simpa [Lib.byteCells] using this
    refine cell_alloc ?_ _
    rw [Lib.bytesWorld_cell w 5 s j hj]
    simp only [Lib.byteCells] at hv
    rw [List.getElem?_map, List.getElem?_eq_getElem (by simpa using hj)] at hv
    simp only [Option.map_some] at hv
    rw [← hv]
    simp [List.getD, hj]

theorem reader_len (w : World) (R A : Nat) (l : List UInt8) (i : Nat) (h : Rd w R A l i) :
    Calls Tryz.prog 25 #[.pointer (some ⟨R, 0, none⟩)] w fun e w' => e = .returned (.int .i64 ((l.length - i : Nat) : Int)) ∧ Same w w' := by
  obtain ⟨cap, pr, hcap, hb⟩ := h.blk
  have hlen := h.len
  have hpos := h.pos
  have c0 : w.cell? ⟨R, 0, none⟩ = some (.slice (some ⟨A, 0, none⟩) l.length cap) := blockCell hb 0
  have c1 : w.cell? ⟨R, 1, none⟩ = some (.int .i64 i) := blockCell hb 1
  clear hb h
  by_cases hi : i = l.length
  · have t1 : decide ((i : Int) ≥ (l.length : Int)) = true := by simp; omega
    go_enter Tryz.func25, Tryz.ntmps25
    go_wp2
    go_quiet (fail)
    go_wp2
    go_ret
    refine ⟨?_, (Same.refl w).drewN _⟩
    rw [hi, Nat.sub_self]; rfl
  · have t1 : decide ((i : Int) ≥ (l.length : Int)) = false := by simp; omega
    have e1 : ((l.length - i : Nat) : Int) = (l.length : Int) - (i : Int) := by omega
    have E1 := Lib.hid e1
    clear e1
    go_enter Tryz.func25, Tryz.ntmps25
    go_wp2
    go_quiet (fail)
    go_wp2
    go_quiet (fail)
    go_wp2
    go_ret
    exact ⟨by rw [E1.out]; rfl, ((Same.refl w).drewN _).drewN _⟩

theorem errText_any (w : World) (a : Addr) (s : ByteArray) (h : w.cell? a = some (.string s)) :
    Calls Tryz.prog 130 #[.pointer (some a)] w fun e w' => e = .returned (.string s) ∧ w = w' := by
  go_enter Tryz.func130, Tryz.ntmps130
  go_wp2
  go_ret
  exact ⟨rfl, rfl⟩
theorem nil_ahead_err (a : Addr) (w : World) : (nilAhead 319 110 (.pointer (some a)) "Error").run Tryz.prog w = .ok (some false) w := by kernel_rfl
theorem method_err (a : Addr) (w : World) : (method 319 110 (.pointer (some a)) "Error").run Tryz.prog w = .ok (130, .pointer (some a)) w := by kernel_rfl
end Go.Proofs.YtdfehaonngccjaaGreatDoor

