/- strconv.AppendInt of a small number into a row that has room: that row alone is turned. -/
import Derived.Test.YtjmahgefijncaaaGreatFmtShelfC
import Derived.Test.YtjmahgefijncaaaGreatFmtJ1
import Derived.Test.YtjmahgefijncaaaGreatFmtJ3
import Derived.Lib.AppendStr
import Derived.Lib.ItoaMem
import Derived.Lib.ItoaLen
import Derived.Lib.AppendIntMem
import Derived.Test.YtjmahgefijncaaaGreatFmtJ11
import Derived.Maps.AppendAt
import Derived.Deep.LoopGhost
set_option linter.unusedVariables false
set_option linter.unusedSimpArgs false
namespace Go.Proofs.YtjmahgefijncaaaGreatFmt
open Go Go.RowKit

/-- Block G is a row of 19 places. -/
def Buf19 (w : World) (G : Nat) : Prop := ∃ cur : Array Value, w.heap[G]? = some (.cells cur 5 (0, 0)) ∧ cur.size = 19
theorem Buf19.lt {w : World} {G : Nat} (h : Buf19 w G) : G < w.heap.size := by obtain ⟨c, h, _⟩ := h; exact blockLt h
theorem Buf19.stays {w w' : World} {G : Nat} (h : Buf19 w G) (k : w'.heap[G]? = w.heap[G]?) : Buf19 w' G := by obtain ⟨c, h, h2⟩ := h; exact ⟨c, k.trans h, h2⟩
/-- The first n places of G hold xs. -/
def At19 (w : World) (G : Nat) (xs : List Value) : Prop := Buf19 w G ∧ (∀ u ∈ xs, u.oneCell' = true) ∧ ∀ j u, xs[j]? = some u → w.cell? ⟨G, j, none⟩ = some u

theorem setRow_at {w : World} {G : Nat} {cur : Array Value} (h : w.heap[G]? = some (.cells cur 5 (0, 0))) (hc : cur.size = 19) (xs : List Value) (hx : xs.length ≤ 19) (h1 : ∀ u ∈ xs, u.oneCell' = true) :
    At19 (w.setRow G (cur.toList.take 0 ++ xs ++ cur.toList.drop (0 + xs.length)).toArray) G xs := by
  have hb : (w.setRow G (cur.toList.take 0 ++ xs ++ cur.toList.drop (0 + xs.length)).toArray).heap[G]? = some (.cells (cur.toList.take 0 ++ xs ++ cur.toList.drop (0 + xs.length)).toArray 5 (0, 0)) := by
    unfold World.setRow
    simp [Array.getElem?_modify, h]
  refine ⟨⟨_, hb, by simp [hc]; omega⟩, h1, fun j u hj => ?_⟩
  rw [blockCell hb j]
  have hl : j < xs.length := (List.getElem?_eq_some_iff.1 hj).1
  simp [List.getElem?_append_left hl, hj]
/-- An append whose run is known. -/
theorem wpList_append_runs {P : Program} {w : World} {ops : Array Oper} {rest : List Oper} {o : Oper} {a : Act} {Q : Exit → Act → World → Prop} (hgd : o.guard = none) (sl x : Operand) (t u : TypeId)
    (ho : o.op = .call { callee := .builtin .append, args := #[sl, x], argTypes := #[t, u] }) (v xv : Value) (hs : a.eval sl = v) (hx : a.eval x = xv) {v' : Value} {w' : World}
    (hr : (Builtin.append_ #[t, u] o.type #[v, xv]).run P w = .ok v' w') (h : wpList P ops Q rest (a.put o.dst v') w') : wpList P ops Q (o :: rest) a w := by
  refine wpList_plain hgd fun K hK => ?_
  unfold Oper.wp execOp
  simp only [ho, resolve, invoke, builtin, Sem.run_bind, Sem.run_pure, Result.andThen_ok, List.map_toArray, List.map_cons, List.map_nil, hs, hx, hr]
  exact hK _ _ h

/-- What AppendUint, AppendInt come to: a row at G of 1 to 10 places, and nothing else turned. -/
def ApiOut (w : World) (G : Nat) (e : Ending) (w' : World) : Prop :=
  ∃ bl : List UInt8, 1 ≤ bl.length ∧ bl.length ≤ 10 ∧ e = .returned (.slice (some ⟨G, 0, none⟩) bl.length 19) ∧ At19 w' G (Lib.byteCells bl) ∧ Only (fun k => k = G) w w'

theorem setRow_only (w : World) (G : Nat) (cs : Array Value) : Only (fun k => k = G) w (w.setRow G cs) := by
  refine ⟨rfl, rfl, rfl, by unfold World.setRow; simp, fun k hk hn => ?_⟩
  unfold World.setRow
  simp only [Array.getElem?_modify]
  rw [if_neg (fun h => hn h.symm)]

set_option maxRecDepth 100000 in
set_option maxHeartbeats 4000000 in
theorem uint_small (w : World) (G u : Nat) (hG : Buf19 w G) (hu : u < 100) :
    Calls Tryz.prog 157 #[.slice (some ⟨G, 0, none⟩) 0 19, .int .u64 (u : Int), .int .i64 10] w fun e w' => ApiOut w G e w' := by
  obtain ⟨cur, hg, hc⟩ := hG
  obtain ⟨i0, hi, hz0, hz1, hz2⟩ := info_byte
  have hl := Lib.decDigits_length u
  have hp := Lib.nDigits_pos u
  have hn : Lib.nDigits u ≤ 2 := by
    by_cases h : u < 10
    · rw [Lib.nDigits_small h]; omega
    · rw [Lib.nDigits_big h, Lib.nDigits_small (by omega)]; omega
  have hs : (⟨(Lib.decDigits u).toArray⟩ : ByteArray).size = (Lib.decDigits u).length := by simp [ByteArray.size]
  have hrun := fun ty => Lib.run_append_room_string (P := Tryz.prog) w 51 9 ty 5 i0 Tryz.underlying51 Tryz.underlying9 hi hz1 G 0 19 cur hg ⟨(Lib.decDigits u).toArray⟩ (by rw [hs]; omega) (by rw [hs]; omega)
  have hxl := Lib.strCells_length (⟨(Lib.decDigits u).toArray⟩ : ByteArray)
  have hat := setRow_at hg hc (Lib.strCells ⟨(Lib.decDigits u).toArray⟩) (by rw [hxl, hs]; omega) (Lib.strCells_oneCell _)
  have honly := setRow_only w G (cur.toList.take 0 ++ Lib.strCells ⟨(Lib.decDigits u).toArray⟩ ++ cur.toList.drop (0 + (Lib.strCells ⟨(Lib.decDigits u).toArray⟩).length)).toArray
  rw [hxl] at hat honly
  have HR := Lib.hid hrun
  have HE : Hid (ApiOut w G (.returned (.slice (some ⟨G, 0, none⟩) (⟨(Lib.decDigits u).toArray⟩ : ByteArray).size 19)) (w.setRow G (cur.toList.take 0 ++ Lib.strCells ⟨(Lib.decDigits u).toArray⟩ ++ cur.toList.drop (0 + (⟨(Lib.decDigits u).toArray⟩ : ByteArray).size)).toArray)) :=
    Lib.hid ⟨Lib.decDigits u, by omega, by omega, by rw [hs], by
      have e : Lib.strCells (⟨(Lib.decDigits u).toArray⟩ : ByteArray) = Lib.byteCells (Lib.decDigits u) := by simp [Lib.strCells, Lib.byteCells]
      rw [e] at hat ⊢; exact hat, honly⟩
  have HS := Lib.hid (fun w2 => Tryz.internal_strconv_small u hu w2)
  clear hrun hat honly hg hxl hs hl
  generalize (⟨(Lib.decDigits u).toArray⟩ : ByteArray) = sx at *
  generalize w.setRow G (cur.toList.take 0 ++ Lib.strCells sx ++ cur.toList.drop (0 + sx.size)).toArray = W at *
  have t1 : decide ((u : Int) < 100) = true := by simp; omega
  go_enter Tryz.func157, Tryz.ntmps157
  go_wp2_with fail
  refine (HS.out _).mono ?_
  rintro e w1 ⟨rfl, rfl⟩
  go_wp2_with (at_builtin; refine wpList_append_runs rfl _ _ 51 9 rfl _ _ rfl rfl (HR.out _) ?_)
  go_wp2_with fail
  go_ret
  exact HE.out

theorem putRow_old (w : World) (H : Nat) (d : Array UInt8) (k : Nat) (h : k ≠ H) : (Go.Sort.putRow (fun (b : UInt8) => Value.int .u8 (b.toNat : Int)) w H 0 d).heap[k]? = w.heap[k]? := by
  unfold Go.Sort.putRow Go.Sort.mapBlock
  simp only [Array.getElem?_modify]
  rw [if_neg (fun e => h e.symm)]
theorem putRow_new (w : World) (H : Nat) (d : Array UInt8) {cs : Array Value} {t : TypeId} {fr : Nat × Nat} (h : w.heap[H]? = some (.cells cs t fr)) : (Go.Sort.putRow (fun (b : UInt8) => Value.int .u8 (b.toNat : Int)) w H 0 d).heap[H]? = some (.cells (Go.Sort.putCells (fun (b : UInt8) => Value.int .u8 (b.toNat : Int)) 0 d cs) t fr) := by
  unfold Go.Sort.putRow Go.Sort.mapBlock
  simp only [Array.getElem?_modify, if_true, h, Option.map_some, Go.Sort.onCells]

/-- What the digits' row holds. -/
theorem digits_cells (w : World) (H : Nat) (dk : Array UInt8) {cs : Array Value} {t : TypeId} {fr : Nat × Nat} (h : w.heap[H]? = some (.cells cs t fr)) (hs : dk.size ≤ cs.size) (j : Nat) (u : Value) (hj : (dk.toList.map fun b => Value.int .u8 (b.toNat : Int))[j]? = some u) :
    (Go.Sort.putRow (fun (b : UInt8) => Value.int .u8 (b.toNat : Int)) w H 0 dk).cell? ⟨H, j, none⟩ = some u := by
  rw [blockCell (putRow_new w H dk h) j]
  simp only [List.getElem?_map, Option.map_eq_some_iff] at hj
  obtain ⟨b, hb, rfl⟩ := hj
  have hjl : j < dk.size := by have := (List.getElem?_eq_some_iff.1 hb).1; simpa using this
  unfold Go.Sort.putCells
  rw [Array.getElem?_mapIdx, Array.getElem?_eq_getElem (show j < cs.size by omega)]
  simp only [Option.map_some, Nat.zero_le, Nat.zero_add, hjl, and_self, if_true, Nat.sub_zero]
  congr 2
  rw [Array.getElem?_toList, Array.getElem?_eq_getElem hjl] at hb
  rw [getElem!_pos dk j hjl, Option.some.inj hb]

theorem nDigits_le : ∀ (k u : Nat), u < 10 ^ (k + 1) → Lib.nDigits u ≤ k + 1
  | 0, u, h => by rw [Lib.nDigits_small (by omega)]; omega
  | k + 1, u, h => by
    by_cases hu : u < 10
    · rw [Lib.nDigits_small hu]; omega
    · rw [Lib.nDigits_big hu]
      have := nDigits_le k (u / 10) (by rw [Nat.div_lt_iff_lt_mul (by decide)]; rw [Nat.pow_succ] at h; exact h)
      omega

def zeros24 : Array Value := #[.int .u8 0, .int .u8 0, .int .u8 0, .int .u8 0, .int .u8 0, .int .u8 0, .int .u8 0, .int .u8 0, .int .u8 0, .int .u8 0, .int .u8 0, .int .u8 0, .int .u8 0, .int .u8 0, .int .u8 0, .int .u8 0, .int .u8 0, .int .u8 0, .int .u8 0, .int .u8 0, .int .u8 0, .int .u8 0, .int .u8 0, .int .u8 0]
theorem zeros24_at (j : Nat) (h : j < 24) : zeros24[j]? = some (.int .u8 0) := by
  have e : zeros24 = Array.replicate 24 (.int .u8 0) := rfl
  rw [e, Array.getElem?_replicate, if_pos h]

set_option maxRecDepth 100000 in
set_option maxHeartbeats 8000000 in
theorem uint_big (w : World) (G u : Nat) (hG : Buf19 w G) (hu : 100 ≤ u) (hu2 : u ≤ 2147483647) (htab : Lib.TabBelow Tryz.prog w.heap.size w "internal/strconv.uint64pow10" .u64 Lib.pow10Tab) :
    Calls Tryz.prog 157 #[.slice (some ⟨G, 0, none⟩) 0 19, .int .u64 (u : Int), .int .i64 10] w fun e w' => ApiOut w G e w' := by
  have hGlt := hG.lt
  obtain ⟨i0, hi, hz0, hz1, hz2⟩ := info_byte
  have HN := Lib.hid (fun w2 h => Tryz.internal_strconv_numDigits u (by omega) (by omega) w2 h)
  have HT := Lib.hid htab
  have hn1 := Lib.nDigits_pos u
  have hn10 := nDigits_le 9 u (by omega)
  obtain ⟨d, hd⟩ : ∃ d : Array UInt8, d = Array.replicate (Lib.nDigits u) 0 := ⟨_, rfl⟩
  have hds : d.size = Lib.nDigits u := by rw [hd]; simp
  have hFb := fun (H cap : Nat) (w2 : World) h => Tryz.internal_strconv_formatBase10 H 0 cap u d w2 h (by rw [hds]; exact Lib.lt_pow_nDigits u) (by omega) (by rw [hds]; have := Lib.nDigits_le20 u (by omega); omega)
  rw [hds] at hFb
  have HF := Lib.hid hFb
  have HD := Lib.hid hd
  clear htab hd hFb
  generalize Lib.nDigits u = n at *
  have t1 : decide ((u : Int) < 100) = false := by simp; omega
  have n0 : (0 : Int) ≤ (n : Int) := by omega
  have n24 : (n : Int) ≤ 24 := by omega
  have hn24 : n ≤ 24 := by omega
  go_enter Tryz.func157, Tryz.ntmps157
  go_wp2_with fail
  refine (HN.out _ (HT.out _ ((Below.refl _ w).alloc (Nat.le_refl _) _))).mono ?_
  rintro e w1 ⟨rfl, hw1⟩
  have hH : w1.heap[w.heap.size]? = some (.cells zeros24 238 (0, 0)) := by rw [hw1]; exact heap_alloc_new w (.cells zeros24 238)
  have ho1 : Only (fun k => k = G) w w1 := by rw [hw1]; exact (Only.refl _ w).alloc _
  have HH := Lib.hid hH
  have HO := Lib.hid ho1
  have HGK : Hid (w1.heap[G]? = w.heap[G]?) := Lib.hid (by rw [hw1]; exact Below.heap_alloc _ _ _ hGlt)
  have hold : Go.Sort.Holds (fun (b : UInt8) => Value.int .u8 (b.toNat : Int)) w1 w.heap.size 0 d := fun j hj => by
    rw [Nat.zero_add]
    refine ⟨(blockCell hH j).trans ?_, blockFrozen hH j⟩
    rw [zeros24_at j (by omega), getElem!_pos d j hj]
    have : d[j] = 0 := by have hd := HD.out; subst hd; simp
    rw [this]; rfl
  have HLD := Lib.hid hold
  clear hw1 hH ho1 hold
  go_wp2_with fail
  refine (HF.out _ _ _ HLD.out).mono ?_
  rintro e w2 ⟨rfl, m, v', dk, rfl, hinv⟩
  have hdk : dk.size = n := hinv.1
  have hGb : ((Go.Sort.putRow (fun (b : UInt8) => Value.int .u8 (b.toNat : Int)) w1 w.heap.size 0 dk).drewN m).heap[G]? = w.heap[G]? := (putRow_old w1 _ dk G (by omega)).trans (HGK.out)
  obtain ⟨cur, hg, hc⟩ := hG
  have hg2 := hGb.trans hg
  have hsz : zeros24.size = 24 := rfl
  have hcl : ∀ j u, (dk.toList.map fun b => Value.int .u8 (b.toNat : Int))[j]? = some u → ((Go.Sort.putRow (fun (b : UInt8) => Value.int .u8 (b.toNat : Int)) w1 w.heap.size 0 dk).drewN m).cell? ((⟨w.heap.size, 0, none⟩ : Addr).add j) = some u := fun j u hj => by
    rw [Lib.addr_add]
    rw [Nat.zero_add]
    exact digits_cells w1 w.heap.size dk HH.out (by rw [hsz]; omega) j u hj
  have hone : ∀ u ∈ (dk.toList.map fun b => Value.int .u8 (b.toNat : Int)), u.oneCell' = true := fun u hu => by
    obtain ⟨b, _, rfl⟩ := List.mem_map.1 hu
    rfl
  have hlen : (dk.toList.map fun b => Value.int .u8 (b.toNat : Int)).length = n := by simp [hdk]
  have honly : Only (fun k => k = G) w ((Go.Sort.putRow (fun (b : UInt8) => Value.int .u8 (b.toNat : Int)) w1 w.heap.size 0 dk).drewN m) := by
    have ho := HO.out
    exact ⟨ho.os, ho.tape, ho.output, by
      show w.heap.size ≤ (Go.Sort.putRow (fun (b : UInt8) => Value.int .u8 (b.toNat : Int)) w1 w.heap.size 0 dk).heap.size
      unfold Go.Sort.putRow Go.Sort.mapBlock
      simp only [Array.size_modify]
      exact ho.size, fun k hk hn => (putRow_old w1 _ dk k (by omega)).trans (ho.block k hk hn)⟩
  generalize hX : (dk.toList.map fun b => Value.int .u8 (b.toNat : Int)) = xs at *
  generalize (Go.Sort.putRow (fun (b : UInt8) => Value.int .u8 (b.toNat : Int)) w1 w.heap.size 0 dk).drewN m = w3 at *
  have hrun := fun ty => run_append_room (P := Tryz.prog) (w := w3) 51 ty 5 i0 Tryz.underlying51 hi G 0 19 cur hg2 ⟨w.heap.size, 0, none⟩ n 24 xs (by rw [hlen, hz1]; omega) hcl hone (by omega) (by rw [hlen, hc]; omega)
  simp only [hz1, Nat.zero_mul, Nat.zero_add, List.take_zero, List.nil_append] at hrun
  have hat := setRow_at hg2 hc xs (by omega) hone
  have ho2 := honly.trans (setRow_only w3 G (cur.toList.take 0 ++ xs ++ cur.toList.drop (0 + xs.length)).toArray)
  have HR := Lib.hid hrun
  have HE : Hid (ApiOut w G (.returned (.slice (some ⟨G, 0, none⟩) n 19)) (w3.setRow G (cur.toList.take 0 ++ xs ++ cur.toList.drop (0 + xs.length)).toArray)) :=
    Lib.hid ⟨dk.toList, by rw [Array.length_toList, hdk]; exact hn1, by rw [Array.length_toList, hdk]; exact hn10, by rw [Array.length_toList, hdk], by
      have e : Lib.byteCells dk.toList = xs := hX
      rw [e]; exact hat, ho2⟩
  simp only [Nat.zero_add, List.take_zero, List.nil_append] at HE
  clear hrun hat ho2 honly hcl hone hg2 hg hGb HH HLD HO hinv hdk hlen hX hc hsz
  generalize w3.setRow G (xs ++ cur.toList.drop xs.length).toArray = W at *
  go_wp2_with (at_builtin; refine wpList_append_runs rfl _ _ 51 51 rfl _ _ rfl rfl (HR.out _) ?_)
  go_wp2_with fail
  go_ret
  exact HE.out

theorem uint_any (w : World) (G u : Nat) (hG : Buf19 w G) (hu2 : u ≤ 2147483647) (htab : Lib.TabBelow Tryz.prog w.heap.size w "internal/strconv.uint64pow10" .u64 Lib.pow10Tab) :
    Calls Tryz.prog 157 #[.slice (some ⟨G, 0, none⟩) 0 19, .int .u64 (u : Int), .int .i64 10] w fun e w' => ApiOut w G e w' := by
  by_cases h : u < 100
  · exact uint_small w G u hG h
  · exact uint_big w G u hG (by omega) hu2 htab

theorem ApiOut.form {w w' : World} {G : Nat} {e : Ending} (h : ApiOut w G e w') : ∃ k, e = .returned (.slice (some ⟨G, 0, none⟩) k 19) := by obtain ⟨xs, _, _, h, _⟩ := h; exact ⟨_, h⟩

set_option maxRecDepth 100000 in
set_option maxHeartbeats 4000000 in
theorem int_any (w : World) (G u : Nat) (hG : Buf19 w G) (hu2 : u ≤ 2147483647) (htab : Lib.TabBelow Tryz.prog w.heap.size w "internal/strconv.uint64pow10" .u64 Lib.pow10Tab) :
    Calls Tryz.prog 151 #[.slice (some ⟨G, 0, none⟩) 0 19, .int .i64 (u : Int), .int .i64 10] w fun e w' => ApiOut w G e w' := by
  have H := Lib.hid (uint_any w G u hG hu2 htab)
  have t1 : decide ((u : Int) < 0) = false := by simp
  have u0 : (0 : Int) ≤ (u : Int) := by omega
  have u1 : (u : Int) ≤ 2147483647 := by omega
  clear htab hG
  go_enter Tryz.func151, Tryz.ntmps151
  go_wp2_with fail
  refine H.out.mono ?_
  rintro e w1 ho
  obtain ⟨k, rfl⟩ := ho.form
  have HO := Lib.hid ho
  clear ho
  go_wp2_with fail
  go_ret
  exact HO.out

set_option maxRecDepth 100000 in
set_option maxHeartbeats 4000000 in
theorem append_int (w : World) (G u : Nat) (hG : Buf19 w G) (hu2 : u ≤ 2147483647) (htab : Lib.TabBelow Tryz.prog w.heap.size w "internal/strconv.uint64pow10" .u64 Lib.pow10Tab) :
    Calls Tryz.prog 142 #[.slice (some ⟨G, 0, none⟩) 0 19, .int .i64 (u : Int), .int .i64 10] w fun e w' => ApiOut w G e w' := by
  have H := Lib.hid (int_any w G u hG hu2 htab)
  clear htab hG
  go_enter Tryz.func142, Tryz.ntmps142
  go_wp2_with fail
  refine H.out.mono ?_
  rintro e w1 ho
  obtain ⟨k, rfl⟩ := ho.form
  have HO := Lib.hid ho
  clear ho
  go_wp2_with fail
  go_ret
  exact HO.out
end Go.Proofs.YtjmahgefijncaaaGreatFmt

/- parseBase128Int: it ends, with a number of at most 31 bits or an error. -/
namespace Go.Proofs.YtjmahgefijncaaaGreatFmt
open Go Go.RowKit

theorem wraps_i63 (n : Int) (h₀ : 0 ≤ n) (h₁ : n < 2 ^ 63) : IntKind.i64.wrap n = n := by rw [IntKind.wrap_i64]; omega
theorem or_i7 {x y : Nat} (hx : x < 2 ^ 40) (hy : y < 128) : bits .or .i64 ((x : Int) * 128) (y : Int) = (x : Int) * 128 + y := by
  have := bits_join .i64 63 (by decide) wraps_i63 7 ((x : Int) * 128) (y : Int) (by omega) (by omega) (by omega) (by omega) (by omega) (by omega)
  simpa using this
theorem and127b {x : Nat} (h : x < 256) : bits .and .u8 (x : Int) 127 = ((x % 128 : Nat) : Int) := by
  have := bits_mask .u8 8 (by decide) wraps_u8 7 (by decide) (x : Int) (by omega) (by omega)
  simpa using this
theorem and128b {x : Nat} (h : x < 256) : bits .and .u8 (x : Int) 128 = ((x / 128 * 128 : Nat) : Int) := by
  have e := bits_nat .u8 8 (by decide) wraps_u8 x 128 (by omega) (by omega)
  have k : ∀ y, y < 256 → y &&& 128 = y / 128 * 128 := by decide +kernel
  rw [← k x h]; exact e.1

/-- The round's head: k bytes are read from place o on. -/
def P128Inv (l : List UInt8) (o : Nat) (w : World) (t4 t5 t6 t7 t8 : Value) (wr : World) : Prop :=
  ∃ k acc : Nat, t4 = .int .i64 0 ∧ t6 = .nilIface ∧ o + k ≤ l.length ∧ k ≤ 5 ∧ acc < 2 ^ (7 * k) ∧ t5 = .int .i64 ((o + k : Nat) : Int) ∧ t7 = .int .i64 acc ∧ t8 = .int .i64 k ∧ w = wr

/-- What it comes to. -/
def P128Out (l : List UInt8) (o : Nat) (w : World) (e : Ending) (w' : World) : Prop :=
  ((∃ v o' : Nat, v ≤ 2147483647 ∧ o < o' ∧ o' ≤ l.length ∧ e = .returned (.tuple #[.int .i64 v, .int .i64 o', .nilIface])) ∨
    ∃ x y a, e = .returned (.tuple #[.int .i64 x, .int .i64 y, .iface 144 (.pointer (some a))])) ∧ Below w.heap.size w w'

set_option maxHeartbeats 4000000 in
theorem p128_any (w : World) (G c : Nat) (l : List UInt8) (hl : l.length < 1000000) (o : Nat) (ho : o ≤ l.length) (hsrc : ∀ j v, (Lib.byteCells l)[j]? = some v → w.cell? ⟨G, j, none⟩ = some v) :
    Calls Tryz.prog 139 #[.slice (some ⟨G, 0, none⟩) l.length c, .int .i64 o] w fun e w' => P128Out l o w e w' := by
  have HS := Lib.hid hsrc
  clear hsrc
  go_enter Tryz.func139, Tryz.ntmps139
  go_wp2_with fail
  go_loopw [4, 5, 6, 7, 8] (fun t4 t5 t6 t7 t8 wr => P128Inv l o w t4 t5 t6 t7 t8 wr) (fun _ t5 _ _ _ _ => l.length - (intOf t5).toNat)
  case atStart => exact ⟨0, 0, rfl, rfl, by omega, by omega, by decide, rfl, rfl, rfl, rfl⟩
  case round =>
    obtain ⟨k, acc, rfl, rfl, hk, hk5, hacc, rfl, rfl, rfl, rfl⟩ := hrel
    have h35 : acc < 2 ^ 35 := Nat.lt_of_lt_of_le hacc (Nat.pow_le_pow_right (by decide) (by omega))
    have hstep : acc * 128 < 2 ^ (7 * (k + 1)) := by
      have : 2 ^ (7 * (k + 1)) = 2 ^ (7 * k) * 128 := by rw [Nat.mul_add, Nat.pow_add]
      omega
    have hstep2 : ∀ v, v < 128 → acc * 128 + v < 2 ^ (7 * (k + 1)) := by
      intro v hv
      have : 2 ^ (7 * (k + 1)) = 2 ^ (7 * k) * 128 := by rw [Nat.mul_add, Nat.pow_add]
      omega
    have HST := Lib.hid hstep2
    clear hstep hstep2 hacc
    by_cases hend : o + k = l.length
    · have t1 : decide (((o + k : Nat) : Int) < (l.length : Int)) = false := by simp; omega
      have hk0 : 0 ≤ k := Nat.zero_le _
      go_wp2_with fail
      refine (new_any _ _).mono ?_
      rintro e w1 ⟨rfl, rfl⟩
      go_wp2
      go_ret3
      exact ⟨Or.inr ⟨_, _, _, rfl⟩, (Below.refl _ _).alloc (Nat.le_refl _) _⟩
    · have hlt : o + k < l.length := by omega
      have t1 : decide (((o + k : Nat) : Int) < (l.length : Int)) = true := by simp; omega
      have hv256 : (l[o + k]).toNat < 256 := (l[o + k]).toNat_lt
      have hc : w.cell? ⟨G, o + k, none⟩ = some (.int .u8 (l[o + k]).toNat) := HS.out (o + k) _ (by simp [Lib.byteCells, List.getElem?_eq_getElem hlt])
      generalize (l[o + k]).toNat = b at hv256 hc
      by_cases h5 : k = 5
      · subst h5
        go_wp2_with fail
        refine (new_any _ _).mono ?_
        rintro e w1 ⟨rfl, rfl⟩
        go_wp2
        go_ret3
        exact ⟨Or.inr ⟨_, _, _, rfl⟩, (Below.refl _ _).alloc (Nat.le_refl _) _⟩
      · have t5 : ((k : Int) == 5) = false := by rw [beq_eq_false_iff_ne]; omega
        have hor : bits .or .i64 ((acc : Int) * 128) ((b : Int) % 128) = (acc : Int) * 128 + (b : Int) % 128 := by
          have := or_i7 (x := acc) (y := b % 128) (by omega) (by omega)
          rw [show ((b % 128 : Nat) : Int) = (b : Int) % 128 by omega] at this; exact this
        have ha7 : bits .and .u8 (b : Int) 127 = (b : Int) % 128 := by rw [and127b hv256]; omega
        have ha8 : bits .and .u8 (b : Int) 128 = (b : Int) / 128 * 128 := by rw [and128b hv256]; omega
        by_cases hbad : k = 0 ∧ b = 128
        · obtain ⟨rfl, rfl⟩ := hbad
          rw [Nat.add_zero] at hc
          go_wp2_with fail
          refine (new_any _ _).mono ?_
          rintro e w1 ⟨rfl, rfl⟩
          go_wp2
          go_ret3
          exact ⟨Or.inr ⟨_, _, _, rfl⟩, (Below.refl _ _).alloc (Nat.le_refl _) _⟩
        · have hb0 : (k ≠ 0 ∧ ((k : Int) == 0) = false) ∨ (k = 0 ∧ ((b : Int) == 128) = false) := by
            by_cases hk0 : k = 0
            · exact Or.inr ⟨hk0, by rw [beq_eq_false_iff_ne]; omega⟩
            · exact Or.inl ⟨hk0, by rw [beq_eq_false_iff_ne]; omega⟩
          by_cases h128 : b < 128
          · have hz : ((b : Int) / 128 * 128 == 0) = true := by simp; omega
            by_cases hbig : acc * 128 + b % 128 ≤ 2147483647
            · have t9 : decide ((acc : Int) * 128 + (b : Int) % 128 > 2147483647) = false := by simp; omega
              rcases hb0 with ⟨-, hb0⟩ | ⟨rfl, hb0⟩
              all_goals
                try rw [Nat.add_zero] at hc
                go_wp2_with fail
                go_ret3
                first
                  | exact ⟨Or.inl ⟨acc * 128 + b % 128, o + k + 1, hbig, by omega, by omega, by go_num⟩, Below.refl _ _⟩
                  | exact ⟨Or.inl ⟨acc * 128 + b % 128, o + 1, hbig, by omega, by omega, by go_num⟩, Below.refl _ _⟩
            · have t9 : decide ((acc : Int) * 128 + (b : Int) % 128 > 2147483647) = true := by simp; omega
              rcases hb0 with ⟨-, hb0⟩ | ⟨rfl, hb0⟩
              all_goals
                try rw [Nat.add_zero] at hc
                go_wp2_with fail
                refine (new_any _ _).mono ?_
                rintro e w1 ⟨rfl, rfl⟩
                go_wp2
                go_ret3
                exact ⟨Or.inr ⟨_, _, _, rfl⟩, (Below.refl _ _).alloc (Nat.le_refl _) _⟩
          · have hz : ((b : Int) / 128 * 128 == 0) = false := by rw [beq_eq_false_iff_ne]; omega
            have hs2 := HST.out (b % 128) (by omega)
            have HS2 := Lib.hid hs2
            clear hs2
            rcases hb0 with ⟨-, hb0⟩ | ⟨rfl, hb0⟩
            all_goals
              try rw [Nat.add_zero] at hc
              go_wp2_with fail
              refine ⟨⟨_ + 1, acc * 128 + b % 128, rfl, rfl, ?_, ?_, HS2.out, by go_num, by go_num, by go_num, rfl⟩, ?_⟩
              all_goals first | omega | (simp [intOf]; omega)
end Go.Proofs.YtjmahgefijncaaaGreatFmt

/- parseRelativeObjectIdentifier: it ends, with numbers of at most 31 bits or an error. -/
namespace Go.Proofs.YtjmahgefijncaaaGreatFmt
open Go Go.RowKit

/-- A row of n whole numbers. -/
def IntRow (w : World) (S n : Nat) : Prop := ∃ cs : Array Value, w.heap[S]? = some (.cells cs 3 (0, 0)) ∧ cs.size = n ∧ ∀ j, j < n → ∃ v : Int, 0 ≤ v ∧ v ≤ 2147483647 ∧ cs[j]? = some (.int .i64 v)
theorem IntRow.stays {w w' : World} {S n : Nat} (h : IntRow w S n) (k : w'.heap[S]? = w.heap[S]?) : IntRow w' S n := by
  obtain ⟨cs, h1, h2⟩ := h
  exact ⟨cs, k.trans h1, h2⟩
theorem IntRow.lt {w : World} {S n : Nat} (h : IntRow w S n) : S < w.heap.size := by obtain ⟨cs, h1, _⟩ := h; exact blockLt h1
theorem IntRow.cell {w : World} {S n j : Nat} (h : IntRow w S n) (hj : j < n) : ∃ v : Int, 0 ≤ v ∧ v ≤ 2147483647 ∧ w.cell? ⟨S, j, none⟩ = some (.int .i64 v) := by
  obtain ⟨cs, h1, h2, h3⟩ := h
  obtain ⟨v, hv, hv2, hc⟩ := h3 j hj
  exact ⟨v, hv, hv2, (blockCell h1 j).trans hc⟩
theorem IntRow.free {w : World} {S n : Nat} (h : IntRow w S n) (j : Nat) : w.frozen? ⟨S, j, none⟩ = false := by
  obtain ⟨cs, h1, _⟩ := h
  exact blockFrozen h1 j
theorem IntRow.set {w : World} {S n : Nat} (h : IntRow w S n) (k : Nat) (hk : k < n) (v : Int) (h0 : 0 ≤ v) (h1 : v ≤ 2147483647) : IntRow (w.setCell ⟨S, k, none⟩ (.int .i64 v)) S n := by
  obtain ⟨cs, e1, e2, e3⟩ := h
  refine ⟨_, blockSet e1 k (.int .i64 v), by simpa using e2, fun j hj => ?_⟩
  by_cases hjk : j = k
  · subst hjk
    exact ⟨v, h0, h1, by simp [e2, hk]⟩
  · obtain ⟨u, g0, g1, g2⟩ := e3 j hj
    exact ⟨u, g0, g1, by simp [Ne.symm hjk, g2]⟩

theorem info_int : ∃ i0 : TypeInfo, Tryz.prog.info? 3 = some i0 ∧ i0.zero = some (.int .i64 0) ∧ i0.size = 1 ∧ i0.bytes = 8 :=
  info_parts (show (Tryz.prog.info? 3).map (fun i => (i.zero, i.size, i.bytes)) = some (some (.int .i64 0), 1, 8) by kernel_rfl)

/-- A new row of n numbers. -/
theorem make_ints (w : World) (n : Nat) (hn : n < 2000000) : ∃ M : Array Value, (Instr.makeSlice 201 (.int .i64 (n : Int)) (.int .i64 (n : Int))).run Tryz.prog w = .ok (.slice (some ⟨w.heap.size, 0, none⟩) n n) (w.alloc (.cells M 3)) ∧ IntRow (w.alloc (.cells M 3)) w.heap.size n := by
  obtain ⟨i0, hi, hz0, hz1, hz2⟩ := info_int
  have h := run_makeSlice w 201 3 i0 (.int .i64 0) Tryz.underlying201 hi hz0 .i64 .i64 (n : Int) n (by omega) (by omega) (by rw [hz1]; omega) (by rw [hz2]; omega) (by omega)
  refine ⟨madeCells (Value.int .i64 0).cells (Int.toNat n * i0.size), by simpa using h, _, heap_alloc_new w _, by rw [size_madeCells, hz1]; simp, fun j hj => ⟨0, by omega, by omega, ?_⟩⟩
  have hcs : (Value.int .i64 0).cells = #[.int .i64 0] := rfl
  rw [hcs, hz1, Int.toNat_natCast, Nat.mul_one]
  unfold madeCells
  simp [hj, Nat.mod_one]

/-- What it comes to. -/
def OidOut (w : World) (e : Ending) (w' : World) : Prop :=
  ((∃ S k n c : Nat, k ≤ n ∧ n < 2000000 ∧ w.heap.size ≤ S ∧ IntRow w' S n ∧ e = .returned (.tuple #[.slice (some ⟨S, 0, none⟩) k c, .nilIface])) ∨
    ∃ x a, e = .returned (.tuple #[x, .iface 144 (.pointer (some a))])) ∧ Below w.heap.size w w'

def RelInv (l : List UInt8) (w : World) (S : Nat) (t3 t4 t5 t6 : Value) (wr : World) : Prop :=
  ∃ (k o : Nat) (v : Int), t3 = .nilIface ∧ t4 = .int .i64 v ∧ t5 = .int .i64 o ∧ t6 = .int .i64 k ∧ k ≤ o ∧ o ≤ l.length ∧ IntRow wr S (l.length + 1) ∧ Below w.heap.size w wr

set_option maxRecDepth 100000 in
set_option maxHeartbeats 4000000 in
theorem rel_any (w : World) (G c : Nat) (l : List UInt8) (hl : l.length < 1000000) (hG : G < w.heap.size) (hsrc : ∀ j v, (Lib.byteCells l)[j]? = some v → w.cell? ⟨G, j, none⟩ = some v) :
    Calls Tryz.prog 129 #[.slice (some ⟨G, 0, none⟩) l.length c] w fun e w' => OidOut w e w' := by
  have HS := Lib.hid hsrc
  clear hsrc
  by_cases hz : l.length = 0
  · have t1 : ((l.length : Int) == 0) = true := by rw [hz]; rfl
    go_enter Tryz.func129, Tryz.ntmps129
    go_wp2_with fail
    refine (new_any _ _).mono ?_
    rintro e w1 ⟨rfl, rfl⟩
    go_wp2
    go_ret2
    exact ⟨Or.inr ⟨_, _, rfl⟩, (Below.refl _ _).alloc (Nat.le_refl _) _⟩
  · have t1 : ((l.length : Int) == 0) = false := by rw [beq_eq_false_iff_ne]; omega
    go_enter Tryz.func129, Tryz.ntmps129
    obtain ⟨M, hmk, hrow⟩ := make_ints w (l.length + 1) (by omega)
    rw [show (((l.length + 1 : Nat)) : Int) = (l.length : Int) + 1 by omega] at hmk
    have hb0 : Below w.heap.size w (w.alloc (.cells M 3)) := (Below.refl _ w).alloc (Nat.le_refl _) _
    have HROW := Lib.hid hrow
    have HB0 := Lib.hid hb0
    clear hrow hb0
    go_wp2_with fail
    go_loopw [3, 4, 5, 6] (fun t3 t4 t5 t6 wr => RelInv l w w.heap.size t3 t4 t5 t6 wr) (fun _ _ t5 _ _ => l.length - (intOf t5).toNat)
    case atStart => exact ⟨0, 0, 0, rfl, rfl, rfl, rfl, Nat.le_refl _, Nat.zero_le _, HROW.out, HB0.out⟩
    case round =>
      obtain ⟨k, o, v, rfl, rfl, rfl, rfl, hko, hol, hR, hB⟩ := hrel
      have HR := Lib.hid hR
      have HB := Lib.hid hB
      by_cases hend : o = l.length
      · have t2 : decide ((o : Int) < (l.length : Int)) = false := by simp; omega
        clear hR hB
        go_wp2_with fail
        go_ret2
        exact ⟨Or.inl ⟨w.heap.size, k, l.length + 1, _, by omega, by omega, Nat.le_refl _, HR.out, rfl⟩, HB.out⟩
      · have t2 : decide ((o : Int) < (l.length : Int)) = true := by simp; omega
        have hc := p128_any wr G c l hl o hol (fun j v h => (World.cell?_of_block (w := w) (hB.block G hG)).trans (HS.out j v h))
        have HC := Lib.hid hc
        clear hR hB hc
        go_wp2_with fail
        refine HC.out.mono ?_
        rintro e w1 ⟨⟨v, o', hv, ho1, ho2, rfl⟩ | ⟨x, y, a, rfl⟩, hb⟩
        · have hR1 := HR.out.stays (hb.block _ HR.out.lt)
          have hB1 := HB.out.trans (hb.mono HB.out.size)
          obtain ⟨u, -, -, hcell⟩ := hR1.cell (j := k) (by omega)
          have hfree := hR1.free k
          have HR1 := Lib.hid hR1
          have HB1 := Lib.hid hB1
          clear hR1 hB1 hb
          go_wp2_with fail
          refine ⟨⟨k + 1, o', v, rfl, rfl, rfl, by go_num, by omega, ho2, HR1.out.set k (by omega) v (by omega) (by omega), HB1.out.setCell (Nat.le_refl _) _⟩, by simp [intOf]; omega⟩
        · have hB1 := HB.out.trans (hb.mono HB.out.size)
          have HB1 := Lib.hid hB1
          clear hB1 hb
          go_wp2_with fail
          go_ret2
          exact ⟨Or.inr ⟨_, _, rfl⟩, HB1.out⟩
end Go.Proofs.YtjmahgefijncaaaGreatFmt

/- OIDToString: it ends. -/
namespace Go.Proofs.YtjmahgefijncaaaGreatFmt
open Go Go.RowKit

/-- A builder that has been written, whose row is not block G. -/
def BldG (B b G : Nat) (l : List Value) (w : World) : Prop :=
  B ≤ b ∧ b ≠ G ∧ ∃ v, w.heap[b]? = some (.cells #[.pointer (some ⟨b, 0, none⟩), v] 130 (0, 0)) ∧ w.ownsRow B 5 1 v l.length l ∧ v.ownBlock ≠ some b ∧ v.ownBlock ≠ some G
theorem BldG.lt {B b G : Nat} {l : List Value} {w : World} (h : BldG B b G l w) : b < w.heap.size := by obtain ⟨_, _, v, h, _⟩ := h; exact blockLt h
theorem BldG.bld {B b G : Nat} {l : List Value} {w : World} (h : BldG B b G l w) : Bld B b l w := by
  obtain ⟨h1, _, v, h2, h3, h4, _⟩ := h
  exact Or.inr ⟨h1, v, h2, h3, h4⟩
theorem BldG.only {B b G : Nat} {l : List Value} {w w' : World} (h : BldG B b G l w) (k : Only (fun k => k = G) w w') : BldG B b G l w' := by
  obtain ⟨h1, h2, v, h3, h4, h5, h6⟩ := h
  refine ⟨h1, h2, v, (k.block b (blockLt h3) h2).trans h3, ⟨h4.1, ?_⟩, h5, h6⟩
  rcases h4.2 with h7 | ⟨g, cap, cur, rfl, e1, e2, e3⟩
  · exact Or.inl h7
  · exact Or.inr ⟨g, cap, cur, rfl, e1, (k.block g (blockLt e2) (fun e => h6 (by simp [Value.ownBlock, e]))).trans e2, e3⟩

set_option maxRecDepth 100000 in
set_option maxHeartbeats 2000000 in
theorem check_g (b : Nat) (v : Value) (w : World) (hb : w.heap[b]? = some (.cells #[.pointer (some ⟨b, 0, none⟩), v] 130 (0, 0))) :
    Calls Tryz.prog 87 #[.pointer (some ⟨b, 0, none⟩)] w fun e w' => e = .returned (.tuple #[]) ∧ w = w' := by
  obtain ⟨j, hj, hjs⟩ := info_bld
  have h0 : w.cell? ⟨b, 0, none⟩ = some (.pointer (some ⟨b, 0, none⟩)) := blockCell hb 0
  have hne := Lib.run_neq_ptr_same w ⟨b, 0, none⟩ Tryz.underlying128 hj
  go_enter Tryz.func87, Tryz.ntmps87
  go_wp2_with fail
  go_end0
  exact ⟨rfl, rfl⟩

theorem own_form {w : World} {B n : Nat} {e : TypeId} {v : Value} {xs : List Value} (h : w.ownsRow B e 1 v n xs) : ∃ o cap, v = .slice o n cap := by
  rcases h.2 with ⟨hv, h0⟩ | ⟨g, cap, cur, hv, _⟩
  · exact ⟨none, 0, by rw [hv, h0]⟩
  · exact ⟨_, _, hv⟩
theorem bldG_put {B b G : Nat} {l xs : List Value} {w w2 : World} {v v' : Value} (hB : B ≤ b) (hbG : b ≠ G) (hG : G < w.heap.size) (hbk : w.heap[b]? = some (.cells #[.pointer (some ⟨b, 0, none⟩), v] 130 (0, 0))) (hne : v.ownBlock ≠ some b) (hnG : v.ownBlock ≠ some G)
    (hown' : w2.ownsRow B 5 1 v' (l.length + xs.length) (l ++ xs)) (hg : w.grownBy w2 v.ownBlock) (hat : v'.ownBlock = v.ownBlock ∨ v'.ownBlock = some w.heap.size) :
    BldG B b G (l ++ xs) (w2.setCell ⟨b, 1, none⟩ v') ∧ (w2.setCell ⟨b, 1, none⟩ v').heap[G]? = w.heap[G]? := by
  have hlt := blockLt hbk
  have hb2 : w2.heap[b]? = some (.cells #[.pointer (some ⟨b, 0, none⟩), v] 130 (0, 0)) := (hg.block b hlt (fun e => hne e.symm)).trans hbk
  have hn1 : v'.ownBlock ≠ some b := by
    rcases hat with h | h
    · rw [h]; exact hne
    · rw [h]; intro e; have := Option.some.inj e; omega
  have hn2 : v'.ownBlock ≠ some G := by
    rcases hat with h | h
    · rw [h]; exact hnG
    · rw [h]; intro e; have := Option.some.inj e; omega
  refine ⟨⟨hB, hbG, v', by simpa using blockSet hb2 1 v', ⟨by rw [List.length_append, hown'.1.symm]; simp, ?_⟩, hn1, hn2⟩, ?_⟩
  · rcases hown'.2 with ⟨h1, h2⟩ | ⟨g, cap, cur, rfl, e1, e2, e3⟩
    · exact Or.inl ⟨h1, by rw [List.length_append]; exact h2⟩
    · refine Or.inr ⟨g, cap, cur, by rw [List.length_append], e1, ?_, by rw [List.length_append]; exact e3⟩
      rw [Below.heap_setCell _ _ _ _ (fun e => hn1 (by simp only [Value.ownBlock]; rw [e]))]
      exact e2
  · rw [Below.heap_setCell _ _ _ _ (fun e => hbG e.symm)]
    exact hg.block G hG (fun e => hnG e.symm)

set_option maxRecDepth 100000 in
set_option maxHeartbeats 4000000 in
theorem byte_g (B b G : Nat) (l : List Value) (c : Int) (w : World) (h : BldG B b G l w) (hG : G < w.heap.size) (hlen : l.length < 1000000000) (hBw : B ≤ w.heap.size) :
    Calls Tryz.prog 77 #[.pointer (some ⟨b, 0, none⟩), .int .u8 c] w fun e w' => e = .returned .nilIface ∧ BldG B b G (l ++ [.int .u8 c]) w' ∧ w'.heap[G]? = w.heap[G]? ∧ Below B w w' := by
  obtain ⟨i0, hi, hz0, hz1, hz2⟩ := info_byte
  obtain ⟨hB, hbG, v, hbk, hown, hne, hnG⟩ := h
  have HC := Lib.hid (check_g b v w hbk)
  have hlt := blockLt hbk
  have c0 : w.cell? ⟨b, 0, none⟩ = some (.pointer (some ⟨b, 0, none⟩)) := blockCell hbk 0
  have c1 : w.cell? ⟨b, 1, none⟩ = some v := blockCell hbk 1
  have HK := Lib.hid hbk
  clear hbk
  go_enter Tryz.func77, Tryz.ntmps77
  go_wp2_with fail
  refine HC.out.mono ?_
  rintro e w1 ⟨rfl, rfl⟩
  go_wp2_with (at_builtin; refine wpList_append_own_at (w.alloc (.cells #[.int .u8 c] 5)) rfl _ _ 51 rfl B 5 i0 (.int .u8 0) 1 1 Tryz.underlying51 hi hz0 hz1 hz2 rfl (by decide) _ _ _ rfl (hown.alloc _) ⟨w.heap.size, 0, none⟩ 1 1 [.int .u8 c] rfl rfl ?c1 ?c2 ?c3 ?c4 ?c5 ?_)
  case c1 =>
    intro j u hj
    match j, hj with
    | 0, hj => simp at hj; subst hj; simp [Addr.add]
  case c2 => intro u hu; simp at hu; subst hu; rfl
  case c3 => unfold maxLen; omega
  case c4 => omega
  case c5 => simp; omega
  intro v' w2 hown' hgrow _ hat
  have hbka : (w.alloc (.cells #[.int .u8 c] 5)).heap[b]? = some (.cells #[.pointer (some ⟨b, 0, none⟩), v] 130 (0, 0)) := (Below.heap_alloc _ _ _ hlt).trans HK.out
  have hb2 : w2.heap[b]? = some (.cells #[.pointer (some ⟨b, 0, none⟩), v] 130 (0, 0)) :=
    (hgrow.block b (by simp; omega) (fun e => hne e.symm)).trans hbka
  have d0 : w2.cell? ⟨b, 0, none⟩ = some (.pointer (some ⟨b, 0, none⟩)) := blockCell hb2 0
  have d1 : w2.cell? ⟨b, 1, none⟩ = some v := blockCell hb2 1
  have f1 : w2.frozen? ⟨b, 1, none⟩ = false := blockFrozen hb2 1
  obtain ⟨hE1, hE2⟩ := bldG_put (w := w.alloc (.cells #[.int .u8 c] 5)) (xs := [.int .u8 c]) hB hbG (by simp; omega) hbka hne hnG hown' hgrow (by simpa using hat)
  have hbel : Below B w (w2.setCell ⟨b, 1, none⟩ v') := (((Below.refl B w).alloc hBw _).grown hgrow (by simp; omega) (fun k hk => (hown.lt k hk).1)).setCell (p := ⟨b, 1, none⟩) hB _
  obtain ⟨o, cap, rfl⟩ := own_form hown'
  have HE := Lib.hid (And.intro hE1 (And.intro (hE2.trans (Below.heap_alloc _ _ _ hG)) hbel))
  clear hE1 hE2 hbel hb2 hgrow hown' hown hbka hat
  go_wp2_with fail
  go_ret
  exact ⟨rfl, HE.out⟩

set_option maxRecDepth 100000 in
set_option maxHeartbeats 4000000 in
theorem write_g (B b G : Nat) (l : List Value) (xs : List Value) (hx0 : 1 ≤ xs.length) (hx1 : xs.length ≤ 10) (w : World) (h : BldG B b G l w) (hA : At19 w G xs) (hlen : l.length < 1000000000) (hBw : B ≤ w.heap.size) :
    Calls Tryz.prog 141 #[.pointer (some ⟨b, 0, none⟩), .slice (some ⟨G, 0, none⟩) xs.length 19] w fun e w' => (∃ n, e = .returned (.tuple #[.int .i64 n, .nilIface])) ∧ BldG B b G (l ++ xs) w' ∧ w'.heap[G]? = w.heap[G]? ∧ Below B w w' := by
  obtain ⟨i0, hi, hz0, hz1, hz2⟩ := info_byte
  obtain ⟨hB, hbG, v, hbk, hown, hne, hnG⟩ := h
  have hG := hA.1.lt
  have HC := Lib.hid (check_g b v w hbk)
  have hlt := blockLt hbk
  have c0 : w.cell? ⟨b, 0, none⟩ = some (.pointer (some ⟨b, 0, none⟩)) := blockCell hbk 0
  have c1 : w.cell? ⟨b, 1, none⟩ = some v := blockCell hbk 1
  have HK := Lib.hid hbk
  clear hbk
  go_enter Tryz.func141, Tryz.ntmps141
  go_wp2_with fail
  refine HC.out.mono ?_
  rintro e w1 ⟨rfl, rfl⟩
  go_wp2_with (at_builtin; refine wpList_append_own_at w rfl _ _ 51 rfl B 5 i0 (.int .u8 0) 1 1 Tryz.underlying51 hi hz0 hz1 hz2 rfl (by decide) _ _ _ rfl hown ⟨G, 0, none⟩ xs.length 19 xs rfl (Nat.mul_one _).symm ?c1 hA.2.1 ?c3 ?c4 hBw ?_)
  case c1 =>
    intro j u hj
    rw [Lib.addr_add, Nat.zero_add]
    exact hA.2.2 j u hj
  case c3 => unfold maxLen; omega
  case c4 => omega
  intro v' w2 hown' hgrow _ hat
  have hb2 : w2.heap[b]? = some (.cells #[.pointer (some ⟨b, 0, none⟩), v] 130 (0, 0)) :=
    (hgrow.block b hlt (fun e => hne e.symm)).trans HK.out
  have d0 : w2.cell? ⟨b, 0, none⟩ = some (.pointer (some ⟨b, 0, none⟩)) := blockCell hb2 0
  have d1 : w2.cell? ⟨b, 1, none⟩ = some v := blockCell hb2 1
  have f1 : w2.frozen? ⟨b, 1, none⟩ = false := blockFrozen hb2 1
  obtain ⟨hE1, hE2⟩ := bldG_put hB hbG hG HK.out hne hnG hown' hgrow hat
  have hbel : Below B w (w2.setCell ⟨b, 1, none⟩ v') := ((Below.refl B w).grown hgrow hBw (fun k hk => (hown.lt k hk).1)).setCell (p := ⟨b, 1, none⟩) hB _
  obtain ⟨o, cap, rfl⟩ := own_form hown'
  have HE := Lib.hid (And.intro hE1 (And.intro hE2 hbel))
  clear hE1 hE2 hbel hb2 hgrow hown' hown hat hA
  go_wp2_with fail
  go_ret2
  exact ⟨⟨_, rfl⟩, HE.out⟩

/-- What OIDToString comes to. -/
def StrOut (w : World) (e : Ending) (w' : World) : Prop := (∃ s : ByteArray, e = .returned (.string s)) ∧ Below w.heap.size w w'

set_option maxRecDepth 100000 in
set_option maxHeartbeats 8000000 in
theorem oid_str (w : World) (S n : Nat) (c : Nat) (hS : IntRow w S n) (k : Nat) (hk : k ≤ n) (hn : n < 2000000) (htab : Lib.TabBelow Tryz.prog w.heap.size w "internal/strconv.uint64pow10" .u64 Lib.pow10Tab) :
    Calls Tryz.prog 127 #[.slice (some ⟨S, 0, none⟩) k c] w fun e w' => StrOut w e w' := by
  have hSlt := hS.lt
  have HT := Lib.hid htab
  have HS := Lib.hid hS
  have hmk : ∀ w2 : World, ∃ M : Array Value, M.size = 19 ∧ (Instr.makeSlice 51 (.int .i64 0) (.int .i64 19)).run Tryz.prog w2 = .ok (.slice (some ⟨w2.heap.size, 0, none⟩) 0 19) (w2.alloc (.cells M 5)) := fun w2 => ⟨#[.int .u8 0, .int .u8 0, .int .u8 0, .int .u8 0, .int .u8 0, .int .u8 0, .int .u8 0, .int .u8 0, .int .u8 0, .int .u8 0, .int .u8 0, .int .u8 0, .int .u8 0, .int .u8 0, .int .u8 0, .int .u8 0, .int .u8 0, .int .u8 0, .int .u8 0], rfl, by kernel_rfl⟩
  have HMK := Lib.hid hmk
  clear htab hS hmk
  go_enter Tryz.func127, Tryz.ntmps127
  go_wp2_with fail
  refine (Tryz.Builder_Grow_fresh w.heap.size w.heap.size 32 _ (Nat.le_refl _) (heap_alloc_new w _) (by simp) (by omega)).mono ?_
  rintro e w1 ⟨rfl, hbl, hb1⟩
  obtain ⟨M, hM, hmk⟩ := HMK.out w1
  have hbw1 : Below w.heap.size w w1 := ((Below.refl _ w).alloc (Nat.le_refl _) _).trans hb1
  obtain ⟨hB, v, hbk, hown, hne⟩ := hbl
  have hblt := blockLt hbk
  have hnG : v.ownBlock ≠ some w1.heap.size := fun e => by have := (hown.lt _ e).2; omega
  have hg0 : BldG w.heap.size w.heap.size w1.heap.size [] (w1.alloc (.cells M 5)) := ⟨Nat.le_refl _, by omega, v, (Below.heap_alloc _ _ _ hblt).trans hbk, hown.alloc _, hne, hnG⟩
  have hbuf : Buf19 (w1.alloc (.cells M 5)) w1.heap.size := ⟨M, heap_alloc_new w1 _, hM⟩
  have hbw2 : Below w.heap.size w (w1.alloc (.cells M 5)) := hbw1.alloc hbw1.size _
  have HG0 := Lib.hid hg0
  have HBUF := Lib.hid hbuf
  have HB2 := Lib.hid hbw2
  have hGw : w.heap.size < w1.heap.size := hblt
  have hs0 : w1.heap.size < (w1.alloc (.cells M 5)).heap.size := by simp
  clear hg0 hbuf hbw2 hbk hown hne hnG hb1 hbw1 hB hblt
  go_wp2_with fail
  clear hmk
  generalize hGd : w1.heap.size = G at *
  generalize hbd : w.heap.size = b at *
  clear hGd
  generalize w1.alloc (.cells M 5) = W at *
  go_loopw [11] (fun t11 wr => ∃ (i : Nat) (acc : List UInt8), t11 = .int .i64 i ∧ i ≤ k ∧ acc.length ≤ 11 * i ∧ Hid (BldG b b G (Lib.byteCells acc) wr ∧ Buf19 wr G ∧ Below b w wr)) (fun t11 _ => k - (intOf t11).toNat)
  case atStart => exact ⟨0, [], rfl, Nat.zero_le _, Nat.zero_le _, Lib.hid ⟨HG0.out, HBUF.out, HB2.out⟩⟩
  case round =>
    clear HG0 HBUF HB2 hs0
    obtain ⟨i, acc, rfl, hi, hacc, HI⟩ := hrel
    have hbz : b ≤ wr.heap.size := by have := HI.out.2.2.size; omega
    have hal : (Lib.byteCells acc).length = acc.length := Lib.byteCells_length acc
    by_cases hend : i = k
    · have t1 : decide ((i : Int) < (k : Int)) = false := by simp; omega
      have HST := Lib.hid (Tryz.Builder_String_any b b acc wr HI.out.1.bld hbz)
      go_wp2_with fail
      refine HST.out.mono ?_
      rintro e w2 ⟨rfl, hb2⟩
      have HBB := Lib.hid (HI.out.2.2.trans (hb2.mono (Nat.le_refl _)))
      clear hb2
      go_wp2_with fail
      go_ret
      exact ⟨⟨_, rfl⟩, by rw [hbd]; exact HBB.out⟩
    · have hlt : i < k := by omega
      have t1 : decide ((i : Int) < (k : Int)) = true := by simp; omega
      obtain ⟨v, v0, v1, hv⟩ := HS.out.cell (show i < n by omega)
      obtain ⟨u, rfl⟩ : ∃ u : Nat, v = (u : Int) := ⟨v.toNat, by omega⟩
      have hu : u ≤ 2147483647 := by omega
      have kv : wr.cell? ⟨S, i, none⟩ = some (.int .i64 (u : Int)) := (HI.out.2.2.cell (p := ⟨S, i, none⟩) (by show S < b; omega)).trans hv
      have HN := Lib.hid (fun (acc2 : List UInt8) (w2 : World) (h1 : BldG b b G (Lib.byteCells acc2) w2) (h2 : Buf19 w2 G) (h3 : Below b w w2) (hl2 : acc2.length < 100000000) => (append_int w2 G u h2 hu (fun w' hb' => HT.out w' (h3.trans (hb'.mono (by have := h3.size; omega))))).mono fun e w3 ho => show ∃ (bl : List UInt8), 1 ≤ bl.length ∧ bl.length ≤ 10 ∧ e = .returned (.slice (some ⟨G, 0, none⟩) bl.length 19) ∧ At19 w3 G (Lib.byteCells bl) ∧ BldG b b G (Lib.byteCells acc2) w3 ∧ Below b w w3 from by
        obtain ⟨bl, e1, e2, e3, e4, e5⟩ := ho
        exact ⟨bl, e1, e2, e3, e4, h1.only e5, h3.trans ⟨e5.os, e5.tape, e5.output, e5.size, fun q hq => e5.block q (by have := h3.size; omega) (by omega)⟩⟩)
      have i0 : (0 : Int) ≤ (i : Int) := by omega
      have i1 : (i : Int) < (k : Int) := by omega
      have hgz := HI.out.2.1.lt
      by_cases hz : i = 0
      · have t2 : ¬ 0 < i := by omega
        have HC := Lib.hid (HN.out acc wr HI.out.1 HI.out.2.1 HI.out.2.2 (by omega))
        clear hv v0 v1 hz hend
        go_wp2_with fail
        refine HC.out.mono ?_
        rintro e w2 ⟨bl, hb1, hb10, rfl, hat, hbg, hbel⟩
        have HW := Lib.hid (write_g b b G (Lib.byteCells acc) (Lib.byteCells bl) (by rw [Lib.byteCells_length]; omega) (by rw [Lib.byteCells_length]; omega) w2 hbg hat (by omega) (by have := hbel.size; omega))
        rw [Lib.byteCells_length] at HW
        have HX := Lib.hid (And.intro hat.1 hbel)
        clear hat hbg hbel HC
        go_wp2_with fail
        refine HW.out.mono ?_
        rintro e w3 ⟨⟨m, rfl⟩, hbg3, hG3, hbel3⟩
        have HN3 : Hid (BldG b b G (Lib.byteCells (acc ++ bl)) w3 ∧ Buf19 w3 G ∧ Below b w w3) := Lib.hid ⟨by rw [Lib.byteCells_append]; exact hbg3, HX.out.1.stays hG3, HX.out.2.trans hbel3⟩
        clear hbg3 hG3 hbel3 HW
        go_wp2_with fail
        exact ⟨⟨i + 1, acc ++ bl, by go_num, by omega, by rw [List.length_append]; omega, HN3⟩, by simp [intOf]; omega⟩
      · have t2 : 0 < i := by omega
        have HBY := Lib.hid (byte_g b b G (Lib.byteCells acc) 46 wr HI.out.1 hgz (by omega) hbz)
        clear hv v0 v1 hz hend
        go_wp2_with fail
        refine HBY.out.mono ?_
        rintro e w4 ⟨rfl, hbg4, hG4, hbel4⟩
        have hbl4 := HI.out.2.2.trans hbel4
        have HC := Lib.hid (HN.out (acc ++ [46]) w4 (by rw [Lib.byteCells_append]; exact hbg4) (HI.out.2.1.stays hG4) hbl4 (by rw [List.length_append]; simp; omega))
        clear hbg4 hG4 hbel4 hbl4 HBY
        go_wp2_with fail
        refine HC.out.mono ?_
        rintro e w2 ⟨bl, hb1, hb10, rfl, hat, hbg, hbel⟩
        have HW := Lib.hid (write_g b b G (Lib.byteCells (acc ++ [46])) (Lib.byteCells bl) (by rw [Lib.byteCells_length]; omega) (by rw [Lib.byteCells_length]; omega) w2 hbg hat (by rw [Lib.byteCells_length, List.length_append]; simp; omega) (by have := hbel.size; omega))
        rw [Lib.byteCells_length] at HW
        have HX := Lib.hid (And.intro hat.1 hbel)
        clear hat hbg hbel HC
        go_wp2_with fail
        refine HW.out.mono ?_
        rintro e w3 ⟨⟨m, rfl⟩, hbg3, hG3, hbel3⟩
        have HN3 : Hid (BldG b b G (Lib.byteCells (acc ++ [46] ++ bl)) w3 ∧ Buf19 w3 G ∧ Below b w w3) := Lib.hid ⟨by rw [Lib.byteCells_append (acc ++ [46])]; exact hbg3, HX.out.1.stays hG3, HX.out.2.trans hbel3⟩
        clear hbg3 hG3 hbel3 HW
        go_wp2_with fail
        exact ⟨⟨i + 1, acc ++ [46] ++ bl, by go_num, by omega, by rw [List.length_append, List.length_append]; simp; omega, HN3⟩, by simp [intOf]; omega⟩
end Go.Proofs.YtjmahgefijncaaaGreatFmt

/- parseObjectIdentifier: it ends, with numbers of at most 31 bits or an error. -/
namespace Go.Proofs.YtjmahgefijncaaaGreatFmt
open Go Go.RowKit

def OidInv (l : List UInt8) (w : World) (S : Nat) (t3 t4 t5 t6 : Value) (wr : World) : Prop :=
  ∃ (k o : Nat) (v : Int), t3 = .nilIface ∧ t4 = .int .i64 v ∧ t5 = .int .i64 o ∧ t6 = .int .i64 ((k + 1 : Nat) : Int) ∧ 1 ≤ k ∧ k ≤ o ∧ o ≤ l.length ∧ IntRow wr S (l.length + 1) ∧ Below w.heap.size w wr

theorem small_quo (v : Nat) (h : v < 80) : (v : Int).tdiv 40 = ((v / 40 : Nat) : Int) ∧ (v : Int).tmod 40 = ((v % 40 : Nat) : Int) := by
  constructor
  · rw [Int.tdiv_eq_ediv_of_nonneg (by omega)]; omega
  · rw [Int.tmod_eq_emod_of_nonneg (by omega)]; omega

set_option maxRecDepth 100000 in
set_option maxHeartbeats 8000000 in
theorem oid_any (w : World) (G c : Nat) (l : List UInt8) (hl : l.length < 1000000) (hG : G < w.heap.size) (hsrc : ∀ j v, (Lib.byteCells l)[j]? = some v → w.cell? ⟨G, j, none⟩ = some v) :
    Calls Tryz.prog 126 #[.slice (some ⟨G, 0, none⟩) l.length c] w fun e w' => OidOut w e w' := by
  have HS := Lib.hid hsrc
  clear hsrc
  by_cases hz : l.length = 0
  · have t1 : ((l.length : Int) == 0) = true := by rw [hz]; rfl
    go_enter Tryz.func126, Tryz.ntmps126
    go_wp2_with fail
    refine (new_any _ _).mono ?_
    rintro e w1 ⟨rfl, rfl⟩
    go_wp2
    go_ret2
    exact ⟨Or.inr ⟨_, _, rfl⟩, (Below.refl _ _).alloc (Nat.le_refl _) _⟩
  · have t1 : ((l.length : Int) == 0) = false := by rw [beq_eq_false_iff_ne]; omega
    go_enter Tryz.func126, Tryz.ntmps126
    obtain ⟨M, hmk, hrow⟩ := make_ints w (l.length + 1) (by omega)
    rw [show (((l.length + 1 : Nat)) : Int) = (l.length : Int) + 1 by omega] at hmk
    have hb0 : Below w.heap.size w (w.alloc (.cells M 3)) := (Below.refl _ w).alloc (Nat.le_refl _) _
    have hc0 := p128_any (w.alloc (.cells M 3)) G c l hl 0 (Nat.zero_le _) (fun j v h => (World.cell?_of_block (w := w) (hb0.block G hG)).trans (HS.out j v h))
    have HROW := Lib.hid hrow
    have HB0 := Lib.hid hb0
    have HC0 := Lib.hid hc0
    clear hrow hb0 hc0
    go_wp2_with fail
    refine HC0.out.mono ?_
    rintro e w1 ⟨⟨v, o, hv, ho1, ho2, rfl⟩ | ⟨x, y, a, rfl⟩, hb⟩
    · have hR1 := HROW.out.stays (hb.block _ HROW.out.lt)
      have hB1 := HB0.out.trans (hb.mono HB0.out.size)
      have hmid : ∀ a b : Int, 0 ≤ a → a ≤ 2147483647 → 0 ≤ b → b ≤ 2147483647 → IntRow ((w1.setCell ⟨w.heap.size, 0, none⟩ (.int .i64 a)).setCell ⟨w.heap.size, 1, none⟩ (.int .i64 b)) w.heap.size (l.length + 1) ∧ Below w.heap.size w ((w1.setCell ⟨w.heap.size, 0, none⟩ (.int .i64 a)).setCell ⟨w.heap.size, 1, none⟩ (.int .i64 b)) :=
        fun a b h1 h2 h3 h4 => ⟨(hR1.set 0 (by omega) a h1 h2).set 1 (by omega) b h3 h4, (hB1.setCell (Nat.le_refl _) _).setCell (Nat.le_refl _) _⟩
      obtain ⟨u0, -, -, hcell0⟩ := hR1.cell (j := 0) (by omega)
      obtain ⟨u1, -, -, hcell1⟩ := hR1.cell (j := 1) (by omega)
      have hfree0 := hR1.free 0
      have hfree1 := hR1.free 1
      have HMID := Lib.hid hmid
      have hl1 : 1 ≤ l.length := by omega
      clear hR1 hB1 hb hmid
      have hround : ∀ wr, IntRow wr w.heap.size (l.length + 1) ∧ Below w.heap.size w wr → OidInv l w w.heap.size .nilIface (.int .i64 v) (.int .i64 o) (.int .i64 2) wr := fun wr ⟨h1, h2⟩ => ⟨1, o, v, rfl, rfl, rfl, rfl, by omega, by omega, ho2, h1, h2⟩
      have HRO := Lib.hid hround
      clear hround
      by_cases h80 : v < 80
      · obtain ⟨hq, hm⟩ := small_quo v h80
        have t80 : decide ((v : Int) < 80) = true := by simp; omega
        go_wp2_with fail
        go_loopw [3, 4, 5, 6] (fun t3 t4 t5 t6 wr => OidInv l w w.heap.size t3 t4 t5 t6 wr) (fun _ _ t5 _ _ => l.length - (intOf t5).toNat)
        case atStart => exact HRO.out _ (HMID.out _ _ (by omega) (by omega) (by omega) (by omega))
        case round =>
          obtain ⟨k, o, v, rfl, rfl, rfl, rfl, hk1, hko, hol, hR, hB⟩ := hrel
          have HR := Lib.hid hR
          have HB := Lib.hid hB
          by_cases hend : o = l.length
          · have t2 : decide ((o : Int) < (l.length : Int)) = false := by simp; omega
            clear hR hB
            go_wp2_with fail
            go_ret2
            exact ⟨Or.inl ⟨w.heap.size, k + 1, l.length + 1, _, by omega, by omega, Nat.le_refl _, HR.out, rfl⟩, HB.out⟩
          · have t2 : decide ((o : Int) < (l.length : Int)) = true := by simp; omega
            have hc := p128_any wr G c l hl o hol (fun j v h => (World.cell?_of_block (w := w) (hB.block G hG)).trans (HS.out j v h))
            have HC := Lib.hid hc
            clear hR hB hc
            go_wp2_with fail
            refine HC.out.mono ?_
            rintro e w1 ⟨⟨v, o', hv, ho1, ho2, rfl⟩ | ⟨x, y, a, rfl⟩, hb⟩
            · have hR1 := HR.out.stays (hb.block _ HR.out.lt)
              have hB1 := HB.out.trans (hb.mono HB.out.size)
              obtain ⟨u, -, -, hcell⟩ := hR1.cell (j := k + 1) (by omega)
              have hfree := hR1.free (k + 1)
              have HR1 := Lib.hid hR1
              have HB1 := Lib.hid hB1
              clear hR1 hB1 hb
              go_wp2_with fail
              refine ⟨⟨k + 1, o', v, rfl, rfl, rfl, by go_num, by omega, by omega, ho2, HR1.out.set (k + 1) (by omega) v (by omega) (by omega), HB1.out.setCell (Nat.le_refl _) _⟩, by simp [intOf]; omega⟩
            · have hB1 := HB.out.trans (hb.mono HB.out.size)
              have HB1 := Lib.hid hB1
              clear hB1 hb
              go_wp2_with fail
              go_ret2
              exact ⟨Or.inr ⟨_, _, rfl⟩, HB1.out⟩
      · have t80 : decide ((v : Int) < 80) = false := by simp; omega
        go_wp2_with fail
        go_loopw [3, 4, 5, 6] (fun t3 t4 t5 t6 wr => OidInv l w w.heap.size t3 t4 t5 t6 wr) (fun _ _ t5 _ _ => l.length - (intOf t5).toNat)
        case atStart => exact HRO.out _ (HMID.out _ _ (by omega) (by omega) (by omega) (by omega))
        case round =>
          obtain ⟨k, o, v, rfl, rfl, rfl, rfl, hk1, hko, hol, hR, hB⟩ := hrel
          have HR := Lib.hid hR
          have HB := Lib.hid hB
          by_cases hend : o = l.length
          · have t2 : decide ((o : Int) < (l.length : Int)) = false := by simp; omega
            clear hR hB
            go_wp2_with fail
            go_ret2
            exact ⟨Or.inl ⟨w.heap.size, k + 1, l.length + 1, _, by omega, by omega, Nat.le_refl _, HR.out, rfl⟩, HB.out⟩
          · have t2 : decide ((o : Int) < (l.length : Int)) = true := by simp; omega
            have hc := p128_any wr G c l hl o hol (fun j v h => (World.cell?_of_block (w := w) (hB.block G hG)).trans (HS.out j v h))
            have HC := Lib.hid hc
            clear hR hB hc
            go_wp2_with fail
            refine HC.out.mono ?_
            rintro e w1 ⟨⟨v, o', hv, ho1, ho2, rfl⟩ | ⟨x, y, a, rfl⟩, hb⟩
            · have hR1 := HR.out.stays (hb.block _ HR.out.lt)
              have hB1 := HB.out.trans (hb.mono HB.out.size)
              obtain ⟨u, -, -, hcell⟩ := hR1.cell (j := k + 1) (by omega)
              have hfree := hR1.free (k + 1)
              have HR1 := Lib.hid hR1
              have HB1 := Lib.hid hB1
              clear hR1 hB1 hb
              go_wp2_with fail
              refine ⟨⟨k + 1, o', v, rfl, rfl, rfl, by go_num, by omega, by omega, ho2, HR1.out.set (k + 1) (by omega) v (by omega) (by omega), HB1.out.setCell (Nat.le_refl _) _⟩, by simp [intOf]; omega⟩
            · have hB1 := HB.out.trans (hb.mono HB.out.size)
              have HB1 := Lib.hid hB1
              clear hB1 hb
              go_wp2_with fail
              go_ret2
              exact ⟨Or.inr ⟨_, _, rfl⟩, HB1.out⟩
    · have hB1 := HB0.out.trans (hb.mono HB0.out.size)
      have HB1 := Lib.hid hB1
      clear hB1 hb
      go_wp2_with fail
      go_ret2
      exact ⟨Or.inr ⟨_, _, rfl⟩, HB1.out⟩
end Go.Proofs.YtjmahgefijncaaaGreatFmt

