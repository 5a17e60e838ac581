/- Texts of UTF-8, in plain Lean. -/
import Derived.Test.YtjmahgefijncaaaGreatFmtQ1
import Derived.Test.YtjmahgefijncaaaGreatFmtQ9
import Derived.Test.YtjmahgefijncaaaGreatFmtQ2
set_option linter.unusedVariables false
set_option linter.unusedSimpArgs false
namespace Go.Proofs.YtjmahgefijncaaaGreatFmt
open Go

/-- The bytes of runes. -/
def encs (rs : List Nat) : List UInt8 := (rs.map fun r : Nat => Lib.encodeRune (r : Int)).flatten
def OkRune (r : Nat) : Prop := r < 55296 ∨ (57344 ≤ r ∧ r ≤ 1114111)
def Utf (l : List UInt8) : Prop := ∃ rs, (∀ r ∈ rs, OkRune r) ∧ l = encs rs

@[simp] theorem encs_nil : encs [] = [] := rfl
@[simp] theorem encs_cons (r : Nat) (rs : List Nat) : encs (r :: rs) = Lib.encodeRune (r : Int) ++ encs rs := rfl
@[simp] theorem encs_append (a b : List Nat) : encs (a ++ b) = encs a ++ encs b := by simp [encs]

theorem u8_eq {x : UInt8} {n : Nat} (h : n = x.toNat) : n.toUInt8 = x := by
  subst h; simp

theorem enc_one {r : Nat} (h : r < 128) : Lib.encodeRune (r : Int) = [r.toUInt8] := by
  rw [Lib.encodeRune, Lib.encodeRuneZ_one (by omega) (by omega)]; simp
theorem enc_two {r : Nat} (h : 128 ≤ r) (h1 : r < 2048) : Lib.encodeRune (r : Int) = [(192 + r / 64).toUInt8, (128 + r % 64).toUInt8] := by
  rw [Lib.encodeRune, Lib.encodeRuneZ_two (by omega) (by omega)]
  simp only [List.map_cons, List.map_nil]
  have e1 : (192 + (r : Int) / 64).toNat = 192 + r / 64 := by omega
  have e2 : (128 + (r : Int) % 64).toNat = 128 + r % 64 := by omega
  rw [e1, e2]
theorem enc_three {r : Nat} (h : 2048 ≤ r) (h1 : r < 65536) (hv : OkRune r) : Lib.encodeRune (r : Int) = [(224 + r / 4096).toUInt8, (128 + r / 64 % 64).toUInt8, (128 + r % 64).toUInt8] := by
  unfold OkRune at hv
  rw [Lib.encodeRune, Lib.encodeRuneZ_three (by omega)]
  simp only [List.map_cons, List.map_nil]
  have e1 : (224 + (r : Int) / 4096).toNat = 224 + r / 4096 := by omega
  have e2 : (128 + (r : Int) / 64 % 64).toNat = 128 + r / 64 % 64 := by omega
  have e3 : (128 + (r : Int) % 64).toNat = 128 + r % 64 := by omega
  rw [e1, e2, e3]
theorem enc_four {r : Nat} (h : 65536 ≤ r) (hv : OkRune r) : Lib.encodeRune (r : Int) = [(240 + r / 262144).toUInt8, (128 + r / 4096 % 64).toUInt8, (128 + r / 64 % 64).toUInt8, (128 + r % 64).toUInt8] := by
  unfold OkRune at hv
  rw [Lib.encodeRune, Lib.encodeRuneZ_four (by omega) (by omega)]
  simp only [List.map_cons, List.map_nil]
  have e1 : (240 + (r : Int) / 262144).toNat = 240 + r / 262144 := by omega
  have e2 : (128 + (r : Int) / 4096 % 64).toNat = 128 + r / 4096 % 64 := by omega
  have e3 : (128 + (r : Int) / 64 % 64).toNat = 128 + r / 64 % 64 := by omega
  have e4 : (128 + (r : Int) % 64).toNat = 128 + r % 64 := by omega
  rw [e1, e2, e3, e4]

/-- From bytes to the rune. -/
theorem of_two (c d : UInt8) (h : 194 ≤ c.toNat) (h1 : c.toNat ≤ 223) (hd : d.toNat / 64 = 2) :
    Lib.encodeRune ((c.toNat % 32 * 64 + d.toNat % 64 : Nat) : Int) = [c, d] := by
  rw [enc_two (by omega) (by omega)]
  rw [u8_eq (x := c) (by omega), u8_eq (x := d) (by omega)]
theorem of_three (c d e : UInt8) (h : 224 ≤ c.toNat) (h1 : c.toNat ≤ 239) (hd : d.toNat / 64 = 2) (he : e.toNat / 64 = 2)
    (hv : OkRune (c.toNat % 16 * 4096 + d.toNat % 64 * 64 + e.toNat % 64)) (hl : 2048 ≤ c.toNat % 16 * 4096 + d.toNat % 64 * 64 + e.toNat % 64) :
    Lib.encodeRune ((c.toNat % 16 * 4096 + d.toNat % 64 * 64 + e.toNat % 64 : Nat) : Int) = [c, d, e] := by
  rw [enc_three hl (by omega) hv]
  rw [u8_eq (x := c) (by omega), u8_eq (x := d) (by omega), u8_eq (x := e) (by omega)]
theorem of_four (c d e g : UInt8) (h : 240 ≤ c.toNat) (h1 : c.toNat ≤ 244) (hd : d.toNat / 64 = 2) (he : e.toNat / 64 = 2) (hg : g.toNat / 64 = 2)
    (hv : OkRune (c.toNat % 8 * 262144 + d.toNat % 64 * 4096 + e.toNat % 64 * 64 + g.toNat % 64)) (hl : 65536 ≤ c.toNat % 8 * 262144 + d.toNat % 64 * 4096 + e.toNat % 64 * 64 + g.toNat % 64) :
    Lib.encodeRune ((c.toNat % 8 * 262144 + d.toNat % 64 * 4096 + e.toNat % 64 * 64 + g.toNat % 64 : Nat) : Int) = [c, d, e, g] := by
  rw [enc_four hl hv]
  rw [u8_eq (x := c) (by omega), u8_eq (x := d) (by omega), u8_eq (x := e) (by omega), u8_eq (x := g) (by omega)]

theorem bs_getD (l : List UInt8) (i : Nat) : (Nm.bs l).get! i = (l[i]?).getD 0 := by
  show (l.toArray)[i]! = _
  simp [getElem!_def]
  cases l[i]? <;> rfl

theorem enc_len (r : Int) : 1 ≤ (Lib.encodeRune r).length ∧ (Lib.encodeRune r).length ≤ 4 := by
  have := Lib.encodeRuneZ_length r
  simpa [Lib.encodeRune] using this

theorem dec_two (s : ByteArray) (i x y : Nat) (h0 : (s.get! i).toNat = 192 + x) (h1 : (s.get! (i + 1)).toNat = 128 + y) (hx : x < 32) (hy : y < 64) (hs : i + 1 < s.size) (hl : 128 ≤ x * 64 + y) :
    Utf8.decode s i = (x * 64 + y, 2) := by
  simp only [Utf8.decode, Nat.add_zero, h0, h1]
  have c1 : (192 + x) / 32 = 6 := by omega
  have c2 : (128 + y) / 64 = 2 := by omega
  have c3 : (192 + x) % 32 = x := by omega
  have c4 : (128 + y) % 64 = y := by omega
  rw [if_neg (by omega), if_pos (by simp [c1, c2, hs]), c3, c4, if_pos (by omega)]

theorem dec_three (s : ByteArray) (i x y z : Nat) (h0 : (s.get! i).toNat = 224 + x) (h1 : (s.get! (i + 1)).toNat = 128 + y) (h2 : (s.get! (i + 2)).toNat = 128 + z) (hx : x < 16) (hy : y < 64) (hz : z < 64) (hs : i + 2 < s.size)
    (hl : 2048 ≤ x * 4096 + y * 64 + z) (hv : Utf8.valid ((x * 4096 + y * 64 + z : Nat) : Int) = true) :
    Utf8.decode s i = (x * 4096 + y * 64 + z, 3) := by
  simp only [Utf8.decode, Nat.add_zero, h0, h1, h2]
  have c0 : (224 + x) / 32 ≠ 6 := by omega
  have c1 : (224 + x) / 16 = 14 := by omega
  have c2 : (128 + y) / 64 = 2 := by omega
  have c3 : (224 + x) % 16 = x := by omega
  have c4 : (128 + y) % 64 = y := by omega
  have c5 : (128 + z) / 64 = 2 := by omega
  have c6 : (128 + z) % 64 = z := by omega
  have hs1 : i + 1 < s.size := by omega
  rw [if_neg (by omega), if_neg (by simp [c0]), if_pos (by simp [c1, c2, c5, hs, hs1]), c3, c4, c6, if_pos (by rw [hv]; simp [hl])]

theorem dec_four (s : ByteArray) (i x y z u : Nat) (h0 : (s.get! i).toNat = 240 + x) (h1 : (s.get! (i + 1)).toNat = 128 + y) (h2 : (s.get! (i + 2)).toNat = 128 + z) (h3 : (s.get! (i + 3)).toNat = 128 + u) (hx : x < 8) (hy : y < 64) (hz : z < 64) (hu : u < 64) (hs : i + 3 < s.size)
    (hl : 65536 ≤ x * 262144 + y * 4096 + z * 64 + u) (hv : Utf8.valid ((x * 262144 + y * 4096 + z * 64 + u : Nat) : Int) = true) :
    Utf8.decode s i = (x * 262144 + y * 4096 + z * 64 + u, 4) := by
  simp only [Utf8.decode, Nat.add_zero, h0, h1, h2, h3]
  have c0 : (240 + x) / 32 ≠ 6 := by omega
  have c9 : (240 + x) / 16 ≠ 14 := by omega
  have c1 : (240 + x) / 8 = 30 := by omega
  have c2 : (128 + y) / 64 = 2 := by omega
  have c3 : (240 + x) % 8 = x := by omega
  have c4 : (128 + y) % 64 = y := by omega
  have c5 : (128 + z) / 64 = 2 := by omega
  have c6 : (128 + z) % 64 = z := by omega
  have c7 : (128 + u) / 64 = 2 := by omega
  have c8 : (128 + u) % 64 = u := by omega
  have hs1 : i + 1 < s.size := by omega
  have hs2 : i + 2 < s.size := by omega
  rw [if_neg (by omega), if_neg (by simp [c0]), if_neg (by simp [c9]), if_pos (by simp [c1, c2, c5, c7, hs, hs1, hs2]), c3, c4, c6, c8, if_pos (by rw [hv]; simp [hl])]

theorem toNat_u8 {n : Nat} (h : n < 256) : n.toUInt8.toNat = n := by
  show n % 256 = n
  omega

/-- Behind any text, a rune's bytes are read as the rune. -/
theorem decode_enc (pre rest : List UInt8) (r : Nat) (hv : OkRune r) :
    Utf8.decode (Nm.bs (pre ++ (Lib.encodeRune (r : Int) ++ rest))) pre.length = (r, (Lib.encodeRune (r : Int)).length) := by
  have hsz : (Nm.bs (pre ++ (Lib.encodeRune (r : Int) ++ rest))).size = pre.length + ((Lib.encodeRune (r : Int)).length + rest.length) := by
    show (List.toArray _).size = _
    simp
  have g : ∀ k, (Nm.bs (pre ++ (Lib.encodeRune (r : Int) ++ rest))).get! (pre.length + k) = ((Lib.encodeRune (r : Int) ++ rest)[k]?).getD 0 := by
    intro k; rw [bs_getD, List.getElem?_append_right (by omega)]; simp
  have g0 := g 0
  simp only [Nat.add_zero] at g0
  have hv' := hv
  unfold OkRune at hv'
  have hV : Utf8.valid (r : Int) = true := by simp [Utf8.valid]; omega
  rcases Nat.lt_or_ge r 128 with h | h
  · rw [enc_one h] at *
    simp only [Utf8.decode, Nat.add_zero, g0]
    simp [Nat.mod_eq_of_lt (show r < 256 by omega), h]
  rcases Nat.lt_or_ge r 2048 with h1 | h1
  · have g1 := g 1
    rw [enc_two h h1] at *
    have k0 := congrArg UInt8.toNat g0
    have k1 := congrArg UInt8.toNat g1
    have e := dec_two (Nm.bs (pre ++ ([(192 + r / 64).toUInt8, (128 + r % 64).toUInt8] ++ rest))) pre.length (r / 64) (r % 64) (k0.trans (toNat_u8 (by omega))) (k1.trans (toNat_u8 (by omega))) (by omega) (by omega) (by rw [hsz]; simp; omega) (by omega)
    rw [e]
    have : r / 64 * 64 + r % 64 = r := by omega
    rw [this]; rfl
  rcases Nat.lt_or_ge r 65536 with h2 | h2
  · have g1 := g 1
    have g2 := g 2
    rw [enc_three h1 h2 hv] at *
    have k0 := congrArg UInt8.toNat g0
    have k1 := congrArg UInt8.toNat g1
    have k2 := congrArg UInt8.toNat g2
    have this : r / 4096 * 4096 + r / 64 % 64 * 64 + r % 64 = r := by omega
    have e := dec_three (Nm.bs (pre ++ ([(224 + r / 4096).toUInt8, (128 + r / 64 % 64).toUInt8, (128 + r % 64).toUInt8] ++ rest))) pre.length (r / 4096) (r / 64 % 64) (r % 64)
      (k0.trans (toNat_u8 (by omega))) (k1.trans (toNat_u8 (by omega))) (k2.trans (toNat_u8 (by omega))) (by omega) (by omega) (by omega) (by rw [hsz]; simp; omega) (by omega) (by rw [this]; exact hV)
    rw [e, this]; rfl
  · have g1 := g 1
    have g2 := g 2
    have g3 := g 3
    rw [enc_four h2 hv] at *
    have k0 := congrArg UInt8.toNat g0
    have k1 := congrArg UInt8.toNat g1
    have k2 := congrArg UInt8.toNat g2
    have k3 := congrArg UInt8.toNat g3
    have this : r / 262144 * 262144 + r / 4096 % 64 * 4096 + r / 64 % 64 * 64 + r % 64 = r := by omega
    have e := dec_four (Nm.bs (pre ++ ([(240 + r / 262144).toUInt8, (128 + r / 4096 % 64).toUInt8, (128 + r / 64 % 64).toUInt8, (128 + r % 64).toUInt8] ++ rest))) pre.length (r / 262144) (r / 4096 % 64) (r / 64 % 64) (r % 64)
      (k0.trans (toNat_u8 (by omega))) (k1.trans (toNat_u8 (by omega))) (k2.trans (toNat_u8 (by omega))) (k3.trans (toNat_u8 (by omega))) (by omega) (by omega) (by omega) (by omega) (by rw [hsz]; simp; omega) (by omega) (by rw [this]; exact hV)
    rw [e, this]; rfl

/-- The runes of runes' bytes are the runes. -/
theorem runes_encs : ∀ (rs : List Nat) (pre : List UInt8) (f : Nat), (∀ r ∈ rs, OkRune r) → rs.length ≤ f → Nm.runes (Nm.bs (pre ++ encs rs)) f pre.length = rs
  | [], pre, f, _, _ => by
    cases f with
    | zero => rfl
    | succ f =>
      have : (Nm.bs pre).size = pre.length := rfl
      simp [Nm.runes, this]
  | r :: rs, pre, 0, _, h => by simp at h
  | r :: rs, pre, f + 1, hv, h => by
    have hd := decode_enc pre (encs rs) r (hv r (List.mem_cons_self ..))
    have hlen := enc_len (r : Int)
    have hsz : (Nm.bs (pre ++ encs (r :: rs))).size = pre.length + ((Lib.encodeRune (r : Int)).length + (encs rs).length) := by
      show (List.toArray _).size = _
      simp
    have ih := runes_encs rs (pre ++ Lib.encodeRune (r : Int)) f (fun x hx => hv x (List.mem_cons_of_mem _ hx)) (by simpa using h)
    rw [encs_cons] at hsz ⊢
    rw [Nm.runes, hsz, if_pos (by omega), hd]
    simp only [List.append_assoc, List.length_append] at ih
    rw [ih]

theorem encs_len_ge : ∀ rs : List Nat, rs.length ≤ (encs rs).length
  | [] => by simp
  | r :: rs => by
    have := encs_len_ge rs
    have := enc_len (r : Int)
    simp; omega

theorem runes_of_encs (rs : List Nat) (hv : ∀ r ∈ rs, OkRune r) : Nm.runes (Nm.bs (encs rs)) (encs rs).length 0 = rs := by
  simpa using runes_encs rs [] _ hv (encs_len_ge rs)
end Go.Proofs.YtjmahgefijncaaaGreatFmt

/- Lists of texts and attributes in memory; entryAlike, entrySame, zzFits21. -/
namespace Go.Proofs.YtjmahgefijncaaaGreatFmt
open Go Go.RowKit

/-- A bool is told; true says P. -/
def BoolRes (P : Prop) (e : Ending) : Prop := ∃ r, e = .returned (.bool r) ∧ (r = true → P)
/-- The slice v holds texts. -/
def StrsIn (w : World) (v : Value) (l : List (List UInt8)) : Prop :=
  ∃ o cap, v = .slice o l.length cap ∧ ∀ (j : Nat) (s : List UInt8), l[j]? = some s → ∃ b off, o = some ⟨b, off, none⟩ ∧ w.cell? ⟨b, off + j, none⟩ = some (.string (Nm.bs s))
theorem StrsIn.stays {w w' : World} {v : Value} {l : List (List UInt8)} (h : StrsIn w v l) (k : Below w.heap.size w w') : StrsIn w' v l := by
  obtain ⟨o, c, hv, h1⟩ := h
  refine ⟨o, c, hv, fun j p hj => ?_⟩
  obtain ⟨b, off, e, c0⟩ := h1 j p hj
  exact ⟨b, off, e, (k.cell (World.block_lt_of_cell? w ⟨b, off + j, none⟩ c0)).trans c0⟩
/-- An attribute: its type, its values. -/
abbrev Attr := List UInt8 × List (List UInt8)
/-- The slice v holds attributes. -/
def AttrsIn (w : World) (v : Value) (l : List Attr) : Prop :=
  ∃ o cap, v = .slice o l.length cap ∧ ∀ (j : Nat) (a : Attr), l[j]? = some a → ∃ b off u, o = some ⟨b, off, none⟩ ∧ w.cell? ⟨b, off + j * 2, none⟩ = some (.string (Nm.bs a.1)) ∧ w.cell? ⟨b, off + j * 2 + 1, none⟩ = some u ∧ StrsIn w u a.2
theorem AttrsIn.stays {w w' : World} {v : Value} {l : List Attr} (h : AttrsIn w v l) (k : Below w.heap.size w w') : AttrsIn w' v l := by
  obtain ⟨o, c, hv, h1⟩ := h
  refine ⟨o, c, hv, fun j p hj => ?_⟩
  obtain ⟨b, off, u, e, c0, c1, c2⟩ := h1 j p hj
  exact ⟨b, off, u, e, (k.cell (World.block_lt_of_cell? w ⟨b, off + j * 2, none⟩ c0)).trans c0, (k.cell (World.block_lt_of_cell? w ⟨b, off + j * 2 + 1, none⟩ c1)).trans c1, c2.stays k⟩

theorem bs_toList (l : List UInt8) : (Nm.bs l).toList = l := by
  exact ByteArray.toList_mk l

set_option maxRecDepth 100000 in
set_option maxHeartbeats 4000000 in
theorem alike_any (a b : List UInt8) (ha : a.length < 4000000000) (hb : b.length < 4000000000) (w : World) :
    Calls Tryz.prog 18 #[.string (Nm.bs a), .string (Nm.bs b)] w fun e w' => e = .returned (.bool (foldSame a b)) ∧ Below w.heap.size w w' := by
  have HA := Lib.hid (nameLower_any a ha w)
  have HB := Lib.hid (fun w => nameLower_any b hb w)
  by_cases h : low a = low b
  · have hr : foldSame a b = true := by simp [foldSame, h]
    rw [hr]
    rw [h] at HA
    clear hr
    go_enter Tryz.func18, Tryz.ntmps18
    clear h
    go_wp2_with fail
    refine HA.out.mono ?_
    rintro e w1 ⟨rfl, hb1⟩
    have HB1 := Lib.hid hb1
    have hsz := hb1.size
    clear hb1
    go_wp2_with fail
    refine (HB.out w1).mono ?_
    rintro e w2 ⟨rfl, hb2⟩
    have HB2 := Lib.hid (HB1.out.trans (hb2.mono hsz))
    clear hb2
    go_wp2_with fail
    go_ret
    exact ⟨rfl, HB2.out⟩
  · have hr : foldSame a b = false := by simp [foldSame, h]
    rw [hr]
    clear hr
    have hne : ((Nm.bs (low a)).toList == (Nm.bs (low b)).toList) = false := by
      rw [bs_toList, bs_toList, beq_eq_false_iff_ne]; exact h
    generalize Nm.bs (low a) = sa at *
    generalize Nm.bs (low b) = sb at *
    go_enter Tryz.func18, Tryz.ntmps18
    go_wp2_with fail
    refine HA.out.mono ?_
    rintro e w1 ⟨rfl, hb1⟩
    have HB1 := Lib.hid hb1
    have hsz := hb1.size
    clear hb1
    go_wp2_with fail
    refine (HB.out w1).mono ?_
    rintro e w2 ⟨rfl, hb2⟩
    have HB2 := Lib.hid (HB1.out.trans (hb2.mono hsz))
    clear hb2
    go_wp2_with fail
    go_ret
    exact ⟨rfl, HB2.out⟩

set_option maxRecDepth 100000 in
set_option maxHeartbeats 4000000 in
theorem entry_same (va vb : Value) (l : List (List UInt8)) (hl : l.length < 4000000000) (w : World) (hA : StrsIn w va l) (hB : StrsIn w vb l) :
    Calls Tryz.prog 19 #[va, vb] w fun e w' => e = .returned (.bool true) ∧ Below w.heap.size w w' := by
  obtain ⟨oa, ca, rfl, hrA⟩ := hA
  obtain ⟨ob, cb, rfl, hrB⟩ := hB
  have HA := Lib.hid hrA
  have HB := Lib.hid hrB
  clear hrA hrB
  have t0 : ((l.length : Int) != (l.length : Int)) = false := by simp
  go_enter Tryz.func19, Tryz.ntmps19
  go_wp2_with fail
  go_loopw [13] (fun t13 wr => ∃ (i : Nat), t13 = .int .i64 i ∧ i ≤ l.length ∧ Hid (Below w.heap.size w wr)) (fun t13 _ => l.length - (intOf t13).toNat)
  case atStart => exact ⟨0, rfl, Nat.zero_le _, Lib.hid (Below.refl _ _)⟩
  case round =>
    obtain ⟨i, rfl, hi, HL⟩ := hrel
    by_cases hend : i = l.length
    · subst hend
      have t1 : decide ((l.length : Int) < (l.length : Int)) = false := by simp
      go_wp2_with fail
      go_ret
      exact ⟨rfl, HL.out⟩
    · have hlt : i < l.length := by omega
      have t1 : decide ((i : Int) < (l.length : Int)) = true := by simp; omega
      obtain ⟨s, hp⟩ : ∃ s, l[i]? = some s := ⟨_, List.getElem?_eq_getElem hlt⟩
      obtain ⟨ga, offa, rfl, cra⟩ := HA.out i s hp
      obtain ⟨gb, offb, rfl, crb⟩ := HB.out i s hp
      have i0 : (0 : Int) ≤ (i : Int) := by omega
      have i1 : (i : Int) < (l.length : Int) := by omega
      have ka : wr.cell? ⟨ga, offa + i, none⟩ = some (.string (Nm.bs s)) := (HL.out.cell (World.block_lt_of_cell? w ⟨ga, offa + i, none⟩ cra)).trans cra
      have kb : wr.cell? ⟨gb, offb + i, none⟩ = some (.string (Nm.bs s)) := (HL.out.cell (World.block_lt_of_cell? w ⟨gb, offb + i, none⟩ crb)).trans crb
      clear cra crb hp hend
      go_wp2_with fail
      go_quiet (fail)
      go_wp2_with fail
      exact ⟨⟨i + 1, by go_num, by omega, Lib.hid ⟨HL.out.os, HL.out.tape, HL.out.output, HL.out.size, HL.out.block⟩⟩, by simp [intOf]; omega⟩

set_option maxRecDepth 100000 in
set_option maxHeartbeats 4000000 in
theorem fits2_any (va : Value) (l : List (List UInt8)) (hl : l.length ≤ 9223372036854775807) (w : World) (hA : StrsIn w va l) :
    Calls Tryz.prog 22 #[va] w fun e w' => BoolRes (l.length ≤ 2147483647 ∧ ∀ s ∈ l, s.length ≤ 2147483647) e ∧ Below w.heap.size w w' := by
  obtain ⟨oa, ca, rfl, hrA⟩ := hA
  have HA := Lib.hid hrA
  clear hrA
  by_cases hbig : l.length ≤ 2147483647
  · have t0 : decide ((l.length : Int) > 2147483647) = false := by simp; omega
    go_enter Tryz.func22, Tryz.ntmps22
    go_wp2_with fail
    go_loopw [10] (fun t10 wr => ∃ (i : Nat), t10 = .int .i64 i ∧ i ≤ l.length ∧ Hid (Below w.heap.size w wr ∧ ∀ s ∈ l.take i, s.length ≤ 2147483647)) (fun t10 _ => l.length - (intOf t10).toNat)
    case atStart => exact ⟨0, rfl, Nat.zero_le _, Lib.hid ⟨Below.refl _ _, by simp⟩⟩
    case round =>
      obtain ⟨i, rfl, hi, HL⟩ := hrel
      by_cases hend : i = l.length
      · subst hend
        have t1 : decide ((l.length : Int) < (l.length : Int)) = false := by simp
        go_wp2_with fail
        go_ret
        exact ⟨⟨_, rfl, fun _ => ⟨hbig, by have := HL.out.2; rw [List.take_length] at this; exact this⟩⟩, HL.out.1⟩
      · have hlt : i < l.length := by omega
        have t1 : decide ((i : Int) < (l.length : Int)) = true := by simp; omega
        obtain ⟨s, hp⟩ : ∃ s, l[i]? = some s := ⟨_, List.getElem?_eq_getElem hlt⟩
        obtain ⟨ga, offa, rfl, cra⟩ := HA.out i s hp
        have ka : wr.cell? ⟨ga, offa + i, none⟩ = some (.string (Nm.bs s)) := (HL.out.1.cell (World.block_lt_of_cell? w ⟨ga, offa + i, none⟩ cra)).trans cra
        have hss := bs_size s
        have hts := take_snoc hp
        have HTS := Lib.hid hts
        clear cra hp hend hts
        by_cases hs : s.length ≤ 2147483647
        · have t2 : decide ((s.length : Int) > 2147483647) = false := by simp; omega
          go_wp2_with fail
          exact ⟨⟨i + 1, by go_num, by omega, Lib.hid ⟨HL.out.1, by
            rw [HTS.out]
            intro x hx
            rcases List.mem_append.1 hx with hx | hx
            · exact HL.out.2 x hx
            · simp only [List.mem_singleton] at hx; rw [hx]; exact hs⟩⟩, by simp [intOf]; omega⟩
        · have t2 : decide ((s.length : Int) > 2147483647) = true := by simp; omega
          go_wp2_with fail
          go_ret
          exact ⟨⟨_, rfl, fun h => by simp at h⟩, HL.out.1⟩
  · have t0 : decide ((l.length : Int) > 2147483647) = true := by simp; omega
    go_enter Tryz.func22, Tryz.ntmps22
    go_wp2_with fail
    go_ret
    exact ⟨⟨_, rfl, fun h => by simp at h⟩, Below.refl _ _⟩
end Go.Proofs.YtjmahgefijncaaaGreatFmt

