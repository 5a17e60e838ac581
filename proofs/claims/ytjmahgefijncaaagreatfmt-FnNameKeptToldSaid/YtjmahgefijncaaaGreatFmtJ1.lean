/- What ParseDN makes of bytes, as plain functions; no program in sight. -/
import Derived.Lib.RuneBytes
import GoSem.Core.Utf8
import Derived.WalkKit
import Derived.Handy
import Derived.Lib.BufferKept
import Derived.Lib.Hide
import Derived.Laws.CopyOwn
import Derived.Test.YtjmahgefijncaaaGreatFmtProg
import Derived.Deep.QuietTactic
import Derived.BigQuiet
import Derived.RegionTactic
import Derived.Deep.RegionLaw
import Derived.Outline
import Derived.Deep.RegionWith
import Derived.Lib.OthersKept
import Derived.Maps.AppendAt
set_option linter.unusedVariables false
set_option linter.unusedSimpArgs false
namespace Go.Proofs.YtjmahgefijncaaaGreatFmt.Nm
open Go

def bs (l : List UInt8) : ByteArray := ⟨l.toArray⟩

def trimL (l : List UInt8) : List UInt8 := l.dropWhile (· == 32)
/-- Where the blanks at the end of the first n bytes begin. -/
def upTo (l : List UInt8) : Nat → Nat
  | 0 => 0
  | n + 1 => if l[n]? = some 32 then upTo l n else n + 1
def trimR (l : List UInt8) : List UInt8 := l.take (upTo l l.length)
/-- How many backslashes stand at the end of the first n bytes. -/
def slashesTo (l : List UInt8) : Nat → Nat
  | 0 => 0
  | n + 1 => if l[n]? = some 92 then slashesTo l n + 1 else 0
def slashes (l : List UInt8) : Nat := slashesTo l l.length
def strip (l : List UInt8) : List UInt8 :=
  if trimR (trimL l) ≠ [] ∧ l.getLast? = some 32 ∧ slashes (trimR (trimL l)) % 2 = 1 then trimR (trimL l) ++ [32] else trimR (trimL l)

/-- The runes of a text from place pos on. -/
def runes (s : ByteArray) : Nat → Nat → List Nat
  | 0, _ => []
  | f + 1, pos => if pos < s.size then (Utf8.decode s pos).1 :: runes s f (pos + (Utf8.decode s pos).2) else []

def special (c : Nat) : Bool := c == 32 || c == 34 || c == 35 || c == 43 || c == 44 || c == 59 || c == 60 || c == 61 || c == 62 || c == 92
def refused (c : Nat) : Bool := c == 34 || c == 59 || c == 60 || c == 62 || c == 0
def hexDigit (c : Nat) : Option Nat :=
  if 48 ≤ c ∧ c ≤ 57 then some (c - 48) else if 97 ≤ c ∧ c ≤ 102 then some (c - 87) else if 65 ≤ c ∧ c ≤ 70 then some (c - 55) else none

/-- What the escapes of runes say. -/
def unescape : List Nat → Option (List UInt8)
  | [] => some []
  | c :: r =>
    if c = 92 then
      match r with
      | [] => none
      | d :: r1 =>
        if special d then (unescape r1).map (Lib.encodeRune d ++ ·)
        else match r1 with
          | [] => none
          | e :: r2 =>
            match hexDigit d, hexDigit e with
            | some x, some y => (unescape r2).map (UInt8.ofNat (x * 16 + y) :: ·)
            | _, _ => none
    else if refused c then none else (unescape r).map (Lib.encodeRune c ++ ·)

def decode (l : List UInt8) : Option (List UInt8) := unescape (runes (bs (strip l)) (strip l).length 0)

/-- An attribute: its type, its value. -/
abbrev Part := List UInt8 × List UInt8
/-- A name: its relative names. -/
abbrev Name := List (List Part)

/-- The loop of ParseDN: the bytes to come, those since the last start, whether a backslash stands ahead, the type that was read, the relative name and the name so far. val: what a value's text says. -/
def parse (val : List UInt8 → Option (List UInt8)) : List UInt8 → List UInt8 → Bool → List UInt8 → List Part → Name → Option Name
  | [], seg, _, ty, rdn, dn => if ty = [] then none else (val seg).map fun v => dn ++ [rdn ++ [(ty, v)]]
  | c :: r, seg, esc, ty, rdn, dn =>
    if esc then parse val r (seg ++ [c]) false ty rdn dn
    else if c = 92 then parse val r (seg ++ [c]) true ty rdn dn
    else if c = 61 ∧ ty = [] then
      match decode seg with
      | none => none
      | some t => parse val r [] false t rdn dn
    else if c = 44 ∨ c = 43 ∨ c = 59 then
      if ty = [] then none
      else match val seg with
        | none => none
        | some v => if c = 43 then parse val r [] false [] (rdn ++ [(ty, v)]) dn else parse val r [] false [] [] (dn ++ [rdn ++ [(ty, v)]])
    else parse val r (seg ++ [c]) false ty rdn dn

def blank (l : List UInt8) : Bool := l.all fun c => c == 32 || (9 ≤ c && c ≤ 13)
def parseDN (val : List UInt8 → Option (List UInt8)) (l : List UInt8) : Option Name := if blank l then some [] else parse val l [] false [] [] []

end Go.Proofs.YtjmahgefijncaaaGreatFmt.Nm

/- Texts of UTF-8, in plain Lean. -/
namespace Go.Proofs.YtjmahgefijncaaaGreatFmt
open Go

/-- The bytes of runes. -/
def encs (rs : List Nat) : List UInt8 := (rs.map fun r : Nat => Lib.encodeRune (r : Int)).flatten
def OkRune (r : Nat) : Prop := r < 55296 ∨ (57344 ≤ r ∧ r ≤ 1114111)
def Utf (l : List UInt8) : Prop := ∃ rs, (∀ r ∈ rs, OkRune r) ∧ l = encs rs

@[simp] theorem encs_nil : encs [] = [] := rfl
@[simp] theorem encs_cons (r : Nat) (rs : List Nat) : encs (r :: rs) = Lib.encodeRune (r : Int) ++ encs rs := rfl
@[simp] theorem encs_append (a b : List Nat) : encs (a ++ b) = encs a ++ encs b := by simp [encs]

theorem u8_eq {x : UInt8} {n : Nat} (h : n = x.toNat) : n.toUInt8 = x := by
  subst h; simp

theorem enc_one {r : Nat} (h : r < 128) : Lib.encodeRune (r : Int) = [r.toUInt8] := by
  rw [Lib.encodeRune, Lib.encodeRuneZ_one (by omega) (by omega)]; simp
theorem enc_two {r : Nat} (h : 128 ≤ r) (h1 : r < 2048) : Lib.encodeRune (r : Int) = [(192 + r / 64).toUInt8, (128 + r % 64).toUInt8] := by
  rw [Lib.encodeRune, Lib.encodeRuneZ_two (by omega) (by omega)]
  simp only [List.map_cons, List.map_nil]
  have e1 : (192 + (r : Int) / 64).toNat = 192 + r / 64 := by omega
  have e2 : (128 + (r : Int) % 64).toNat = 128 + r % 64 := by omega
  rw [e1, e2]
theorem enc_three {r : Nat} (h : 2048 ≤ r) (h1 : r < 65536) (hv : OkRune r) : Lib.encodeRune (r : Int) = [(224 + r / 4096).toUInt8, (128 + r / 64 % 64).toUInt8, (128 + r % 64).toUInt8] := by
  unfold OkRune at hv
  rw [Lib.encodeRune, Lib.encodeRuneZ_three (by omega)]
  simp only [List.map_cons, List.map_nil]
  have e1 : (224 + (r : Int) / 4096).toNat = 224 + r / 4096 := by omega
  have e2 : (128 + (r : Int) / 64 % 64).toNat = 128 + r / 64 % 64 := by omega
  have e3 : (128 + (r : Int) % 64).toNat = 128 + r % 64 := by omega
  rw [e1, e2, e3]
theorem enc_four {r : Nat} (h : 65536 ≤ r) (hv : OkRune r) : Lib.encodeRune (r : Int) = [(240 + r / 262144).toUInt8, (128 + r / 4096 % 64).toUInt8, (128 + r / 64 % 64).toUInt8, (128 + r % 64).toUInt8] := by
  unfold OkRune at hv
  rw [Lib.encodeRune, Lib.encodeRuneZ_four (by omega) (by omega)]
  simp only [List.map_cons, List.map_nil]
  have e1 : (240 + (r : Int) / 262144).toNat = 240 + r / 262144 := by omega
  have e2 : (128 + (r : Int) / 4096 % 64).toNat = 128 + r / 4096 % 64 := by omega
  have e3 : (128 + (r : Int) / 64 % 64).toNat = 128 + r / 64 % 64 := by omega
  have e4 : (128 + (r : Int) % 64).toNat = 128 + r % 64 := by omega
  rw [e1, e2, e3, e4]

/-- From bytes to the rune. -/
theorem of_two (c d : UInt8) (h : 194 ≤ c.toNat) (h1 : c.toNat ≤ 223) (hd : d.toNat / 64 = 2) :
    Lib.encodeRune ((c.toNat % 32 * 64 + d.toNat % 64 : Nat) : Int) = [c, d] := by
  rw [enc_two (by omega) (by omega)]
  rw [u8_eq (x := c) (by omega), u8_eq (x := d) (by omega)]
theorem of_three (c d e : UInt8) (h : 224 ≤ c.toNat) (h1 : c.toNat ≤ 239) (hd : d.toNat / 64 = 2) (he : e.toNat / 64 = 2)
    (hv : OkRune (c.toNat % 16 * 4096 + d.toNat % 64 * 64 + e.toNat % 64)) (hl : 2048 ≤ c.toNat % 16 * 4096 + d.toNat % 64 * 64 + e.toNat % 64) :
    Lib.encodeRune ((c.toNat % 16 * 4096 + d.toNat % 64 * 64 + e.toNat % 64 : Nat) : Int) = [c, d, e] := by
  rw [enc_three hl (by omega) hv]
  rw [u8_eq (x := c) (by omega), u8_eq (x := d) (by omega), u8_eq (x := e) (by omega)]
theorem of_four (c d e g : UInt8) (h : 240 ≤ c.toNat) (h1 : c.toNat ≤ 244) (hd : d.toNat / 64 = 2) (he : e.toNat / 64 = 2) (hg : g.toNat / 64 = 2)
    (hv : OkRune (c.toNat % 8 * 262144 + d.toNat % 64 * 4096 + e.toNat % 64 * 64 + g.toNat % 64)) (hl : 65536 ≤ c.toNat % 8 * 262144 + d.toNat % 64 * 4096 + e.toNat % 64 * 64 + g.toNat % 64) :
    Lib.encodeRune ((c.toNat % 8 * 262144 + d.toNat % 64 * 4096 + e.toNat % 64 * 64 + g.toNat % 64 : Nat) : Int) = [c, d, e, g] := by
  rw [enc_four hl hv]
  rw [u8_eq (x := c) (by omega), u8_eq (x := d) (by omega), u8_eq (x := e) (by omega), u8_eq (x := g) (by omega)]

theorem bs_getD (l : List UInt8) (i : Nat) : (Nm.bs l).get! i = (l[i]?).getD 0 := by
  show (l.toArray)[i]! = _
  simp [getElem!_def]
  cases l[i]? <;> rfl

theorem enc_len (r : Int) : 1 ≤ (Lib.encodeRune r).length ∧ (Lib.encodeRune r).length ≤ 4 := by
  have := Lib.encodeRuneZ_length r
  simpa [Lib.encodeRune] using this

theorem dec_two (s : ByteArray) (i x y : Nat) (h0 : (s.get! i).toNat = 192 + x) (h1 : (s.get! (i + 1)).toNat = 128 + y) (hx : x < 32) (hy : y < 64) (hs : i + 1 < s.size) (hl : 128 ≤ x * 64 + y) :
    Utf8.decode s i = (x * 64 + y, 2) := by
  simp only [Utf8.decode, Nat.add_zero, h0, h1]
  have c1 : (192 + x) / 32 = 6 := by omega
  have c2 : (128 + y) / 64 = 2 := by omega
  have c3 : (192 + x) % 32 = x := by omega
  have c4 : (128 + y) % 64 = y := by omega
  rw [if_neg (by omega), if_pos (by simp [c1, c2, hs]), c3, c4, if_pos (by omega)]

theorem dec_three (s : ByteArray) (i x y z : Nat) (h0 : (s.get! i).toNat = 224 + x) (h1 : (s.get! (i + 1)).toNat = 128 + y) (h2 : (s.get! (i + 2)).toNat = 128 + z) (hx : x < 16) (hy : y < 64) (hz : z < 64) (hs : i + 2 < s.size)
    (hl : 2048 ≤ x * 4096 + y * 64 + z) (hv : Utf8.valid ((x * 4096 + y * 64 + z : Nat) : Int) = true) :
    Utf8.decode s i = (x * 4096 + y * 64 + z, 3) := by
  simp only [Utf8.decode, Nat.add_zero, h0, h1, h2]
  have c0 : (224 + x) / 32 ≠ 6 := by omega
  have c1 : (224 + x) / 16 = 14 := by omega
  have c2 : (128 + y) / 64 = 2 := by omega
  have c3 : (224 + x) % 16 = x := by omega
  have c4 : (128 + y) % 64 = y := by omega
  have c5 : (128 + z) / 64 = 2 := by omega
  have c6 : (128 + z) % 64 = z := by omega
  have hs1 : i + 1 < s.size := by omega
  rw [if_neg (by omega), if_neg (by simp [c0]), if_pos (by simp [c1, c2, c5, hs, hs1]), c3, c4, c6, if_pos (by rw [hv]; simp [hl])]

theorem dec_four (s : ByteArray) (i x y z u : Nat) (h0 : (s.get! i).toNat = 240 + x) (h1 : (s.get! (i + 1)).toNat = 128 + y) (h2 : (s.get! (i + 2)).toNat = 128 + z) (h3 : (s.get! (i + 3)).toNat = 128 + u) (hx : x < 8) (hy : y < 64) (hz : z < 64) (hu : u < 64) (hs : i + 3 < s.size)
    (hl : 65536 ≤ x * 262144 + y * 4096 + z * 64 + u) (hv : Utf8.valid ((x * 262144 + y * 4096 + z * 64 + u : Nat) : Int) = true) :
    Utf8.decode s i = (x * 262144 + y * 4096 + z * 64 + u, 4) := by
  simp only [Utf8.decode, Nat.add_zero, h0, h1, h2, h3]
  have c0 : (240 + x) / 32 ≠ 6 := by omega
  have c9 : (240 + x) / 16 ≠ 14 := by omega
  have c1 : (240 + x) / 8 = 30 := by omega
  have c2 : (128 + y) / 64 = 2 := by omega
  have c3 : (240 + x) % 8 = x := by omega
  have c4 : (128 + y) % 64 = y := by omega
  have c5 : (128 + z) / 64 = 2 := by omega
  have c6 : (128 + z) % 64 = z := by omega
  have c7 : (128 + u) / 64 = 2 := by omega
  have c8 : (128 + u) % 64 = u := by omega
  have hs1 : i + 1 < s.size := by omega
  have hs2 : i + 2 < s.size := by omega
  rw [if_neg (by omega), if_neg (by simp [c0]), if_neg (by simp [c9]), if_pos (by simp [c1, c2, c5, c7, hs, hs1, hs2]), c3, c4, c6, c8, if_pos (by rw [hv]; simp [hl])]

theorem toNat_u8 {n : Nat} (h : n < 256) : n.toUInt8.toNat = n := by
  show n % 256 = n
  omega

/-- Behind any text, a rune's bytes are read as the rune. -/
theorem decode_enc (pre rest : List UInt8) (r : Nat) (hv : OkRune r) :
    Utf8.decode (Nm.bs (pre ++ (Lib.encodeRune (r : Int) ++ rest))) pre.length = (r, (Lib.encodeRune (r : Int)).length) := by
  have hsz : (Nm.bs (pre ++ (Lib.encodeRune (r : Int) ++ rest))).size = pre.length + ((Lib.encodeRune (r : Int)).length + rest.length) := by
    show (List.toArray _).size = _
    simp
  have g : ∀ k, (Nm.bs (pre ++ (Lib.encodeRune (r : Int) ++ rest))).get! (pre.length + k) = ((Lib.encodeRune (r : Int) ++ rest)[k]?).getD 0 := by
    intro k; rw [bs_getD, List.getElem?_append_right (by omega)]; simp
  have g0 := g 0
  simp only [Nat.add_zero] at g0
  have hv' := hv
  unfold OkRune at hv'
  have hV : Utf8.valid (r : Int) = true := by simp [Utf8.valid]; omega
  rcases Nat.lt_or_ge r 128 with h | h
  · rw [enc_one h] at *
    simp only [Utf8.decode, Nat.add_zero, g0]
    simp [Nat.mod_eq_of_lt (show r < 256 by omega), h]
  rcases Nat.lt_or_ge r 2048 with h1 | h1
  · have g1 := g 1
    rw [enc_two h h1] at *
    have k0 := congrArg UInt8.toNat g0
    have k1 := congrArg UInt8.toNat g1
    have e := dec_two (Nm.bs (pre ++ ([(192 + r / 64).toUInt8, (128 + r % 64).toUInt8] ++ rest))) pre.length (r / 64) (r % 64) (k0.trans (toNat_u8 (by omega))) (k1.trans (toNat_u8 (by omega))) (by omega) (by omega) (by rw [hsz]; simp; omega) (by omega)
    rw [e]
    have : r / 64 * 64 + r % 64 = r := by omega
    rw [this]; rfl
  rcases Nat.lt_or_ge r 65536 with h2 | h2
  · have g1 := g 1
    have g2 := g 2
    rw [enc_three h1 h2 hv] at *
    have k0 := congrArg UInt8.toNat g0
    have k1 := congrArg UInt8.toNat g1
    have k2 := congrArg UInt8.toNat g2
    have this : r / 4096 * 4096 + r / 64 % 64 * 64 + r % 64 = r := by omega
    have e := dec_three (Nm.bs (pre ++ ([(224 + r / 4096).toUInt8, (128 + r / 64 % 64).toUInt8, (128 + r % 64).toUInt8] ++ rest))) pre.length (r / 4096) (r / 64 % 64) (r % 64)
      (k0.trans (toNat_u8 (by omega))) (k1.trans (toNat_u8 (by omega))) (k2.trans (toNat_u8 (by omega))) (by omega) (by omega) (by omega) (by rw [hsz]; simp; omega) (by omega) (by rw [this]; exact hV)
    rw [e, this]; rfl
  · have g1 := g 1
    have g2 := g 2
    have g3 := g 3
    rw [enc_four h2 hv] at *
    have k0 := congrArg UInt8.toNat g0
    have k1 := congrArg UInt8.toNat g1
    have k2 := congrArg UInt8.toNat g2
    have k3 := congrArg UInt8.toNat g3
    have this : r / 262144 * 262144 + r / 4096 % 64 * 4096 + r / 64 % 64 * 64 + r % 64 = r := by omega
    have e := dec_four (Nm.bs (pre ++ ([(240 + r / 262144).toUInt8, (128 + r / 4096 % 64).toUInt8, (128 + r / 64 % 64).toUInt8, (128 + r % 64).toUInt8] ++ rest))) pre.length (r / 262144) (r / 4096 % 64) (r / 64 % 64) (r % 64)
      (k0.trans (toNat_u8 (by omega))) (k1.trans (toNat_u8 (by omega))) (k2.trans (toNat_u8 (by omega))) (k3.trans (toNat_u8 (by omega))) (by omega) (by omega) (by omega) (by omega) (by rw [hsz]; simp; omega) (by omega) (by rw [this]; exact hV)
    rw [e, this]; rfl

/-- The runes of runes' bytes are the runes. -/
theorem runes_encs : ∀ (rs : List Nat) (pre : List UInt8) (f : Nat), (∀ r ∈ rs, OkRune r) → rs.length ≤ f → Nm.runes (Nm.bs (pre ++ encs rs)) f pre.length = rs
  | [], pre, f, _, _ => by
    cases f with
    | zero => rfl
    | succ f =>
      have : (Nm.bs pre).size = pre.length := rfl
      simp [Nm.runes, this]
  | r :: rs, pre, 0, _, h => by simp at h
  | r :: rs, pre, f + 1, hv, h => by
    have hd := decode_enc pre (encs rs) r (hv r (List.mem_cons_self ..))
    have hlen := enc_len (r : Int)
    have hsz : (Nm.bs (pre ++ encs (r :: rs))).size = pre.length + ((Lib.encodeRune (r : Int)).length + (encs rs).length) := by
      show (List.toArray _).size = _
      simp
    have ih := runes_encs rs (pre ++ Lib.encodeRune (r : Int)) f (fun x hx => hv x (List.mem_cons_of_mem _ hx)) (by simpa using h)
    rw [encs_cons] at hsz ⊢
    rw [Nm.runes, hsz, if_pos (by omega), hd]
    simp only [List.append_assoc, List.length_append] at ih
    rw [ih]

theorem encs_len_ge : ∀ rs : List Nat, rs.length ≤ (encs rs).length
  | [] => by simp
  | r :: rs => by
    have := encs_len_ge rs
    have := enc_len (r : Int)
    simp; omega

theorem runes_of_encs (rs : List Nat) (hv : ∀ r ∈ rs, OkRune r) : Nm.runes (Nm.bs (encs rs)) (encs rs).length 0 = rs := by
  simpa using runes_encs rs [] _ hv (encs_len_ge rs)
end Go.Proofs.YtjmahgefijncaaaGreatFmt

/- The frame of a call that may write to one block of old memory: every other block below a bound stays as it was. -/
namespace Go.Proofs.YtjmahgefijncaaaGreatFmt
open Go Go.RowKit

/-- Below block number B, but for block R, the world w' is as w was; the streams are as they were; no block has gone. -/
structure Keep (B R : Nat) (w w' : World) : Prop where
  os : w'.os = w.os
  tape : w'.tape = w.tape
  output : w'.output = w.output
  size : w.heap.size ≤ w'.heap.size
  block : ∀ k, k < B → k ≠ R → w'.heap[k]? = w.heap[k]?

namespace Keep
variable {B R : Nat} {a b w w' : World}
theorem refl (B R : Nat) (w : World) : Keep B R w w := ⟨rfl, rfl, rfl, Nat.le_refl _, fun _ _ _ => rfl⟩
theorem trans (h : Keep B R a b) (k : Keep B R b w) : Keep B R a w :=
  ⟨k.os.trans h.os, k.tape.trans h.tape, k.output.trans h.output, Nat.le_trans h.size k.size, fun i hi hr => (k.block i hi hr).trans (h.block i hi hr)⟩
theorem mono (h : Keep B R w w') {B' : Nat} (hB : B' ≤ B) : Keep B' R w w' := ⟨h.os, h.tape, h.output, h.size, fun k hk => h.block k (Nat.lt_of_lt_of_le hk hB)⟩
theorem ofBelow (h : Below B w w') : Keep B R w w' := ⟨h.os, h.tape, h.output, h.size, fun k hk _ => h.block k hk⟩
theorem toBelow (h : Keep B R w w') (hR : B ≤ R) : Below B w w' := ⟨h.os, h.tape, h.output, h.size, fun k hk => h.block k hk (by omega)⟩
theorem drew (h : Keep B R a w) : Keep B R a w.drew := ⟨h.os, h.tape, h.output, h.size, h.block⟩
theorem drewN (h : Keep B R a w) (n : Nat) : Keep B R a (w.drewN n) := ⟨h.os, h.tape, h.output, h.size, h.block⟩
theorem alloc (h : Keep B R a w) (hB : B ≤ w.heap.size) (o : Obj) : Keep B R a (w.alloc o) :=
  h.trans (ofBelow ((Below.refl B w).alloc hB o))
theorem setCell (h : Keep B R a w) {p : Addr} (hp : B ≤ p.block ∨ p.block = R) (u : Value) : Keep B R a (w.setCell p u) :=
  h.trans ⟨rfl, rfl, rfl, by simp [World.setCell], fun k hk hr => Below.heap_setCell _ _ _ _ (by rcases hp with hp | hp <;> omega)⟩
theorem setRow (h : Keep B R a w) {g : Nat} (hp : B ≤ g ∨ g = R) (cs : Array Value) : Keep B R a (w.setRow g cs) :=
  h.trans ⟨rfl, rfl, rfl, by simp [World.setRow], fun k hk hr => setRow_other w g k cs (by rcases hp with hp | hp <;> omega)⟩
theorem grown {row : Option Nat} (h : Keep B R a w) (hg : w.grownBy w' row) (hB : B ≤ w.heap.size) (hr : ∀ k, row = some k → B ≤ k ∨ k = R) : Keep B R a w' :=
  h.trans ⟨hg.os, hg.tape, hg.output, hg.size, fun k hk hkr => hg.block k (by omega) (fun e => by rcases hr k e.symm with h | h <;> omega)⟩
theorem cell (h : Keep B R w w') {p : Addr} (hp : p.block < B) (hr : p.block ≠ R) : w'.cell? p = w.cell? p := World.cell?_of_block (w := w) (h.block p.block hp hr)
theorem frozen (h : Keep B R w w') {p : Addr} (hp : p.block < B) (hr : p.block ≠ R) : w'.frozen? p = w.frozen? p := World.frozen?_of_block (w := w) (h.block p.block hp hr)
end Keep

/-- The cells of a block that is known whole. -/
theorem blockCell {w : World} {g : Nat} {c : Array Value} {t : TypeId} {fr : Nat × Nat} (h : w.heap[g]? = some (.cells c t fr)) (j : Nat) : w.cell? ⟨g, j, none⟩ = c[j]? := by
  simp [World.cell?, h]
theorem blockFrozen {w : World} {g : Nat} {c : Array Value} {t : TypeId} (h : w.heap[g]? = some (.cells c t (0, 0))) (j : Nat) : w.frozen? ⟨g, j, none⟩ = false := by
  simp [World.frozen?, h]
theorem blockSet {w : World} {g : Nat} {c : Array Value} {t : TypeId} {fr : Nat × Nat} (h : w.heap[g]? = some (.cells c t fr)) (j : Nat) (v : Value) :
    (w.setCell ⟨g, j, none⟩ v).heap[g]? = some (.cells (c.setIfInBounds j v) t fr) := by
  simp [World.setCell, Array.getElem?_modify, h]
theorem three_set {w : World} {g : Nat} {x0 x1 x2 : Value} {t : TypeId} {fr : Nat × Nat} (h : w.heap[g]? = some (.cells #[x0, x1, x2] t fr)) (a b c : Value) :
    (((w.setCell ⟨g, 0, none⟩ a).setCell ⟨g, 1, none⟩ b).setCell ⟨g, 2, none⟩ c).heap[g]? = some (.cells #[a, b, c] t fr) := by
  have e := blockSet (blockSet (blockSet h 0 a) 1 b) 2 c
  simpa using e
theorem blockLt {w : World} {g : Nat} {o : Obj} (h : w.heap[g]? = some o) : g < w.heap.size := (Array.getElem?_eq_some_iff.1 h).1

/-- copy of at least one cell onto a row: the world written out. -/
theorem step_copy_set {P : Program} {ops : Array Oper} {o : Oper} {a : Act} {w : World} {K : Act → World → Prop} {Q : Exit → Act → World → Prop} {E : Prop} (hgd : o.guard = none) (d s : Operand) (dT sT : TypeId)
    (ho : o.op = .call { callee := .builtin .copy, args := #[d, s], argTypes := #[dT, sT] }) (elem : TypeId) (hu : P.underlying dT = some (.slice elem)) (hsz : (P.info? elem).map (·.size) = some 1)
    (dLen dCap sLen sCap : Nat) (g off : Nat) (ad : Addr) (hd : a.eval d = .slice (some ⟨g, off, none⟩) dLen dCap) (hs : a.eval s = .slice (some ad) sLen sCap)
    (cur : List Value) (t : TypeId) (cs : List Value) (hg : w.heap[g]? = some (.cells cur.toArray t (0, 0))) (hn : cs.length = Nat.min sLen dLen)
    (hsrc : ∀ j v, cs[j]? = some v → w.cell? (ad.add j) = some v)
    (hfit : off + cs.length ≤ cur.length) (h1 : ∀ v ∈ cs, v.oneCell' = true)
    (h : K (a.put o.dst (goInt cs.length)) (w.setRow g (splice cur off cs).toArray)) :
    if Region.wanted o (yielded ops a.tmps) = true then Oper.wp P o a w K Q else E := by
  have hw : Region.wanted o (yielded ops a.tmps) = true := by simp [Region.wanted, hgd]
  rw [if_pos hw]
  have hrun := run_copy_row (P := P) w dT sT o.type elem g off dLen dCap ad sLen sCap cur.toArray t cs hu hsz hg hn hsrc (by simpa using hfit) h1
  unfold Oper.wp
  simp [execOp, ho, resolve, invoke, builtin, hd, hs, hrun, Result.andThen]
  simp only [splice] at h
  simpa using (show Oper.upon P o a K Q (Result.ok (Next.value (goInt cs.length)) _) from h)

theorem cell_setRow {w : World} {g : Nat} (X : Array Value) {p : Addr} (h : p.block ≠ g) : (w.setRow g X).cell? p = w.cell? p :=
  World.cell?_of_block (w := w) (setRow_other w g p.block X (by omega))
theorem frozen_setRow {w : World} {g : Nat} (X : Array Value) {p : Addr} (h : p.block ≠ g) : (w.setRow g X).frozen? p = w.frozen? p :=
  World.frozen?_of_block (w := w) (setRow_other w g p.block X (by omega))

theorem cell_alloc {w : World} {p : Addr} {v : Value} (h : w.cell? p = some v) (o : Obj) : (w.alloc o).cell? p = some v :=
  (World.cell?_of_block (w := w) (Below.heap_alloc w o p.block (World.block_lt_of_cell? w p h))).trans h

/-- Two worlds alike but for the count of draws. -/
structure Same (w w' : World) : Prop where
  os : w'.os = w.os
  tape : w'.tape = w.tape
  output : w'.output = w.output
  heap : w'.heap = w.heap
theorem Same.refl (w : World) : Same w w := ⟨rfl, rfl, rfl, rfl⟩
theorem Same.trans {a b c : World} (h : Same a b) (k : Same b c) : Same a c := ⟨k.os.trans h.os, k.tape.trans h.tape, k.output.trans h.output, k.heap.trans h.heap⟩
theorem Same.drewN {a b : World} (h : Same a b) (n : Nat) : Same a (b.drewN n) := ⟨h.os, h.tape, h.output, h.heap⟩
theorem Same.drew {a b : World} (h : Same a b) : Same a b.drew := ⟨h.os, h.tape, h.output, h.heap⟩
theorem Same.keep {w w' : World} (h : Same w w') (B R : Nat) : Keep B R w w' := ⟨h.os, h.tape, h.output, by rw [h.heap]; exact Nat.le_refl _, fun k _ _ => by rw [h.heap]⟩
theorem Same.cell {w w' : World} (h : Same w w') (p : Addr) : w'.cell? p = w.cell? p := World.cell?_of_block (w := w) (by rw [h.heap])
theorem Same.frozen {w w' : World} (h : Same w w') (p : Addr) : w'.frozen? p = w.frozen? p := World.frozen?_of_block (w := w) (by rw [h.heap])
end Go.Proofs.YtjmahgefijncaaaGreatFmt

/- The trims: zzInSet, zzTrimLeft, zzTrimRight, zzTrim at a blank. -/
namespace Go.Proofs.YtjmahgefijncaaaGreatFmt
open Go Go.RowKit

theorem width_pos (s : ByteArray) (pos : Nat) (h : pos < s.size) : 1 ≤ (Utf8.decode s pos).2 := by
  by_cases ha : (s[pos]'h).toNat < 128
  · rw [decode_ascii s pos h ha]; exact Nat.le_refl _
  · exact (decode_high s pos h (by omega)).2

def sp : ByteArray := ⟨#[32]⟩

set_option maxRecDepth 100000 in
set_option maxHeartbeats 4000000 in
theorem inset_sp (c : Int) (w : World) :
    Calls Tryz.prog 133 #[.int .i32 c, .string ⟨#[32]⟩] w fun e w' => e = .returned (.bool (c == 32)) ∧ Below w.heap.size w w' := by
  go_enter Tryz.func133, Tryz.ntmps133
  go_wp2_with fail
  go_loopw [4] (fun t4 wr => t4 = .bool false ∧ ∃ pos, wr.heap[w.heap.size]? = some (.stringIter ⟨#[32]⟩ pos) ∧ Below w.heap.size w wr ∧ (pos = 0 ∨ pos = 1 ∧ (c == 32) = false)) (fun _ wr => 1 - wr.iterPos w.heap.size)
  case atStart =>
    refine ⟨rfl, 0, ?_, (Below.refl _ w).alloc (Nat.le_refl _) _, Or.inl rfl⟩
    have := World.iter_heap w ⟨#[32]⟩ 0
    simpa using this
  case round =>
    obtain ⟨rfl, pos, hit, hbw, hpos⟩ := hrel
    rcases hpos with rfl | ⟨rfl, hc⟩
    · have hnx : ∀ ty, (Instr.next (.pointer (some ⟨w.heap.size, 0, none⟩)) true ty).run Tryz.prog wr = _ := fun ty => Lib.run_next_any_at wr w.heap.size ⟨#[32]⟩ 0 ty hit (by decide)
      rw [show Utf8.decode ⟨#[32]⟩ 0 = (32, 1) by decide] at hnx
      simp only [] at hnx
      have hit2 := Lib.iterAt_heap wr w.heap.size ⟨#[32]⟩ 0 1 hit
      have hbw2 := Lib.below_iterAt hbw (k := w.heap.size) (by omega) ⟨#[32]⟩ 1
      have HB := Lib.hid hbw2
      have hcc : (c == 32) = true ∨ (c == 32) = false := by cases (c == 32) <;> simp
      rcases hcc with hc | hc
      · go_wp2_with fail
        go_ret
        exact ⟨by rw [hc]; rfl, HB.out⟩
      · have HC := Lib.hid hc
        go_wp2_with fail
        refine ⟨⟨rfl, 1, hit2, HB.out, Or.inr ⟨rfl, HC.out⟩⟩, ?_⟩
        simp only [World.iterPos, hit2, hit]; decide
    · have hnx : ∀ ty, (Instr.next (.pointer (some ⟨w.heap.size, 0, none⟩)) true ty).run Tryz.prog wr = _ := fun ty => Lib.run_next_end_at wr w.heap.size ⟨#[32]⟩ 1 ty hit (by decide)
      go_wp2_with fail
      go_ret
      exact ⟨by rw [hc]; rfl, hbw⟩

def isBlank (l : List UInt8) (k : Nat) : Prop := ∀ j, j < k → l[j]? = some 32

theorem trimL_step {l : List UInt8} {pos : Nat} (h : pos < l.length) (hb : l[pos] = 32) : Nm.trimL (l.drop pos) = Nm.trimL (l.drop (pos + 1)) := by
  rw [List.drop_eq_getElem_cons h]
  unfold Nm.trimL
  rw [List.dropWhile_cons, hb]
  simp
theorem trimL_stop {l : List UInt8} {pos : Nat} (h : pos < l.length) (hb : l[pos] ≠ 32) : Nm.trimL (l.drop pos) = l.drop pos := by
  rw [List.drop_eq_getElem_cons h]
  unfold Nm.trimL
  rw [List.dropWhile_cons]
  simp [hb]

theorem bs_size (l : List UInt8) : (Nm.bs l).size = l.length := by simp [Nm.bs, ByteArray.size]
theorem bs_get (l : List UInt8) (i : Nat) (h : i < (Nm.bs l).size) : (Nm.bs l)[i]'h = l[i]'(by rw [bs_size] at h; exact h) := by
  simp [Nm.bs]
  rfl
theorem bs_from (l : List UInt8) (k : Nat) : (Nm.bs l).extract k l.length = Nm.bs (l.drop k) := by
  apply ByteArray.ext
  rw [ByteArray.data_extract]
  show l.toArray.extract _ _ = (l.drop k).toArray
  simp [List.take_of_length_le]
theorem bs_to (l : List UInt8) (k : Nat) : (Nm.bs l).extract 0 k = Nm.bs (l.take k) := by
  apply ByteArray.ext
  rw [ByteArray.data_extract]
  show l.toArray.extract _ _ = (l.take k).toArray
  simp

set_option maxRecDepth 100000 in
set_option maxHeartbeats 4000000 in
theorem triml_sp (l : List UInt8) (w : World) :
    Calls Tryz.prog 116 #[.string (Nm.bs l), .string ⟨#[32]⟩] w fun e w' => e = .returned (.string (Nm.bs (Nm.trimL l))) ∧ Below w.heap.size w w' := by
  have hsz := bs_size l
  go_enter Tryz.func116, Tryz.ntmps116
  go_wp2_with fail
  go_loopw [] (fun wr => ∃ pos, wr.heap[w.heap.size]? = some (.stringIter (Nm.bs l) pos) ∧ Below w.heap.size w wr ∧ pos ≤ l.length ∧ Nm.trimL l = Nm.trimL (l.drop pos)) (fun wr => l.length - wr.iterPos w.heap.size)
  case atStart =>
    refine ⟨0, ?_, (Below.refl _ w).alloc (Nat.le_refl _) _, Nat.zero_le _, rfl⟩
    have := World.iter_heap w (Nm.bs l) 0
    simpa using this
  case round =>
    obtain ⟨pos, hit, hbw, hpos, htr⟩ := hrel
    by_cases hp : pos < l.length
    · have hp2 : pos < (Nm.bs l).size := by rw [hsz]; exact hp
      have hnx : ∀ ty, (Instr.next (.pointer (some ⟨w.heap.size, 0, none⟩)) true ty).run Tryz.prog wr = _ := fun ty => Lib.run_next_any_at wr w.heap.size (Nm.bs l) pos ty hit hp2
      have hget : ((Nm.bs l)[pos]'hp2).toNat = (l[pos]).toNat := by rw [bs_get]; rfl
      by_cases h32 : l[pos] = 32
      · have h32n : (l[pos]).toNat = 32 := by rw [h32]; rfl
        rw [decode_ascii (Nm.bs l) pos hp2 (by rw [hget, h32n]; decide), hget, h32n] at hnx
        have hit2 := Lib.iterAt_heap wr w.heap.size (Nm.bs l) pos (pos + 1) hit
        have hbw2 := Lib.below_iterAt hbw (k := w.heap.size) (by omega) (Nm.bs l) (pos + 1)
        have HB := Lib.hid hbw2
        have hms : l.length - (wr.iterAt w.heap.size (Nm.bs l) (pos + 1)).iterPos w.heap.size < l.length - wr.iterPos w.heap.size := by simp only [World.iterPos, hit2, hit]; omega
        have HMS := Lib.hid hms
        have HIT := Lib.hid hit2
        clear hms hit2 hit hbw hbw2
        generalize hW : wr.iterAt w.heap.size (Nm.bs l) (pos + 1) = W at *
        go_wp2_with fail
        refine (inset_sp _ _).mono ?_
        rintro e w2 ⟨rfl, hb2⟩
        have HB2 := Lib.hid (HB.out.trans (hb2.mono HB.out.size))
        have hblk : w2.heap[w.heap.size]? = W.heap[w.heap.size]? := hb2.block _ (by have := blockLt (show W.heap[w.heap.size]? = _ from HIT.out); omega)
        have HBLK := Lib.hid hblk
        clear hb2 hblk
        go_wp2_with fail
        refine ⟨⟨pos + 1, HBLK.out.trans HIT.out, HB2.out, by omega, by rw [htr, trimL_step hp h32]⟩, ?_⟩
        have := HMS.out
        simp only [World.iterPos, HBLK.out] at this ⊢
        exact this
      · have hne : ((((Utf8.decode (Nm.bs l) pos).1 : Nat) : Int) == 32) = false := by
          rw [beq_eq_false_iff_ne]
          by_cases ha : (l[pos]).toNat < 128
          · rw [decode_ascii (Nm.bs l) pos hp2 (by rw [hget]; exact ha), hget]
            intro h
            exact h32 (UInt8.toNat_inj.1 (by have : (l[pos]).toNat = 32 := by omega
                                             rw [this]; rfl))
          · have := (decode_high (Nm.bs l) pos hp2 (by rw [hget]; omega)).1
            omega
        have hbw2 := Lib.below_iterAt hbw (k := w.heap.size) (by omega) (Nm.bs l) (pos + (Utf8.decode (Nm.bs l) pos).2)
        have HB := Lib.hid hbw2
        clear hbw2 hbw hit
        generalize hW : wr.iterAt w.heap.size (Nm.bs l) (pos + (Utf8.decode (Nm.bs l) pos).2) = W at *
        generalize (Utf8.decode (Nm.bs l) pos).1 = r at *
        go_wp2_with fail
        refine (inset_sp _ _).mono ?_
        rintro e w2 ⟨rfl, hb2⟩
        have HB2 := Lib.hid (HB.out.trans (hb2.mono HB.out.size))
        clear hb2
        rw [hne]
        go_wp2_with fail
        go_ret
        exact ⟨by rw [htr, trimL_stop hp h32, ← bs_from]; rfl, HB2.out⟩
    · have hnx : ∀ ty, (Instr.next (.pointer (some ⟨w.heap.size, 0, none⟩)) true ty).run Tryz.prog wr = _ := fun ty => Lib.run_next_end_at wr w.heap.size (Nm.bs l) pos ty hit (by rw [hsz]; exact hp)
      go_wp2_with fail
      go_ret
      refine ⟨?_, hbw⟩
      rw [htr, List.drop_of_length_le (by omega)]
      rfl

theorem upTo_le (l : List UInt8) : ∀ n, Nm.upTo l n ≤ n
  | 0 => Nat.le_refl _
  | n + 1 => by
    unfold Nm.upTo
    split
    · have := upTo_le l n; omega
    · exact Nat.le_refl _

set_option maxRecDepth 100000 in
set_option maxHeartbeats 4000000 in
theorem trimr_sp (l : List UInt8) (hl : l.length < 1000000000) (w : World) :
    Calls Tryz.prog 115 #[.string (Nm.bs l), .string ⟨#[32]⟩] w fun e w' => e = .returned (.string (Nm.bs (Nm.trimR l))) ∧ Below w.heap.size w w' := by
  have hsz := bs_size l
  have hs1 : (⟨#[32]⟩ : ByteArray).size = 1 := rfl
  have hs0 : ((⟨#[32]⟩ : ByteArray)[0]'(by decide)).toNat = 32 := rfl
  go_enter Tryz.func115, Tryz.ntmps115
  go_wp2_with fail
  go_loopw [5] (fun t5 wr => ∃ n : Nat, t5 = .int .i64 n ∧ n ≤ l.length ∧ Nm.upTo l l.length = Nm.upTo l n ∧ Hid (Below w.heap.size w wr)) (fun t5 _ => (intOf t5).toNat)
  case atStart => exact ⟨l.length, rfl, Nat.le_refl _, rfl, Lib.hid (Below.refl _ _)⟩
  case round =>
    obtain ⟨n, rfl, hn, hup, HB⟩ := hrel
    cases n with
    | zero =>
      go_wp2_with fail
      go_ret
      refine ⟨?_, HB.out⟩
      unfold Nm.trimR
      rw [hup]
      rfl
    | succ n =>
      have hlt : n < l.length := by omega
      have hlt2 : n < (Nm.bs l).size := by rw [hsz]; exact hlt
      obtain ⟨b, hb, hget⟩ : ∃ b : UInt8, l[n]? = some b ∧ ((Nm.bs l)[n]'hlt2).toNat = b.toNat := ⟨_, List.getElem?_eq_getElem hlt, by rw [bs_get]⟩
      have t1 : decide (((n + 1 : Nat) : Int) > 0) = true := by simp
      by_cases h32 : b = 32
      · have hb32 : b.toNat = 32 := by rw [h32]; rfl
        rw [hb32] at hget
        go_wp2_with fail
        go_loopw [6, 7] (fun t6 t7 wr => (t6 = .bool false ∧ t7 = .int .i64 0 ∨ t6 = .bool true ∧ t7 = .int .i64 1) ∧ Hid (Below w.heap.size w wr)) (fun _ t7 _ => 1 - (intOf t7).toNat)
        case atStart => exact ⟨Or.inl ⟨rfl, rfl⟩, HB⟩
        case round =>
          clear HB
          obtain ⟨⟨rfl, rfl⟩ | ⟨rfl, rfl⟩, HB⟩ := hrel
          · go_wp2_with fail
            go_region
            go_wp2_with fail
            all_goals first
              | exact ⟨⟨Or.inr ⟨rfl, rfl⟩, Lib.hid HB.out.drew⟩, by simp [intOf]⟩
              | (exfalso; rename_i h; rw [hs0] at h; exact absurd h (by decide))
          · go_wp2_with fail
            refine ⟨⟨n, rfl, by omega, ?_, HB⟩, by simp [intOf]⟩
            rw [hup]
            show (if l[n]? = some 32 then _ else _) = _
            rw [if_pos (by rw [hb, h32])]
      · have hb32 : ¬ b.toNat = 32 := fun h => h32 (UInt8.toNat_inj.1 (by rw [h]; rfl))
        have hb33 : ((32 : Int) == (b.toNat : Int)) = false := by rw [beq_eq_false_iff_ne]; omega
        go_wp2_with fail
        go_loopw [6, 7] (fun t6 t7 wr => (t6 = .bool false ∧ t7 = .int .i64 0 ∨ t6 = .bool false ∧ t7 = .int .i64 1) ∧ Hid (Below w.heap.size w wr)) (fun _ t7 _ => 1 - (intOf t7).toNat)
        case atStart => exact ⟨Or.inl ⟨rfl, rfl⟩, HB⟩
        case round =>
          clear HB
          obtain ⟨⟨rfl, rfl⟩ | ⟨rfl, rfl⟩, HB⟩ := hrel
          · go_wp2_with fail
            go_region
            go_wp2_with fail
            all_goals first
              | (exfalso; rename_i h; rw [hs0] at h; have h' := of_decide_eq_true (show decide (((32 : Nat) : Int) = (b.toNat : Int)) = true by simpa using h); omega)
              | exact ⟨⟨Or.inr ⟨rfl, rfl⟩, Lib.hid HB.out.drew⟩, by simp [intOf]⟩
          · go_wp2_with fail
            go_ret
            refine ⟨?_, HB.out⟩
            unfold Nm.trimR
            rw [hup]
            show _ = Ending.returned (.string (Nm.bs (l.take (if l[n]? = some 32 then _ else _))))
            rw [if_neg (by rw [hb]; intro h; exact h32 (Option.some.inj h)), ← bs_to]; rfl
end Go.Proofs.YtjmahgefijncaaaGreatFmt

/- The frame of a call that may write to some blocks of old memory. -/
namespace Go.Proofs.YtjmahgefijncaaaGreatFmt
open Go Go.RowKit

/-- Old blocks stand but for those of S. -/
structure Only (S : Nat → Prop) (w w' : World) : Prop where
  os : w'.os = w.os
  tape : w'.tape = w.tape
  output : w'.output = w.output
  size : w.heap.size ≤ w'.heap.size
  block : ∀ k, k < w.heap.size → ¬ S k → w'.heap[k]? = w.heap[k]?

namespace Only
variable {S : Nat → Prop} {a w w' : World}
theorem refl (S : Nat → Prop) (w : World) : Only S w w := ⟨rfl, rfl, rfl, Nat.le_refl _, fun _ _ _ => rfl⟩
theorem trans (h : Only S a w) (k : Only S w w') : Only S a w' :=
  ⟨k.os.trans h.os, k.tape.trans h.tape, k.output.trans h.output, Nat.le_trans h.size k.size, fun i hi hs => (k.block i (Nat.lt_of_lt_of_le hi h.size) hs).trans (h.block i hi hs)⟩
theorem weaken (h : Only S w w') {T : Nat → Prop} (hT : ∀ k, k < w.heap.size → S k → T k) : Only T w w' :=
  ⟨h.os, h.tape, h.output, h.size, fun k hk hs => h.block k hk (fun e => hs (hT k hk e))⟩
theorem trans2 {T : Nat → Prop} (h : Only S a w) (k : Only T w w') (hT : ∀ i, i < a.heap.size → T i → S i) : Only S a w' :=
  ⟨k.os.trans h.os, k.tape.trans h.tape, k.output.trans h.output, Nat.le_trans h.size k.size, fun i hi hs => (k.block i (Nat.lt_of_lt_of_le hi h.size) (fun e => hs (hT i hi e))).trans (h.block i hi hs)⟩
theorem ofKeep {D : Nat} (h : Keep w.heap.size D w w') : Only (· = D) w w' := ⟨h.os, h.tape, h.output, h.size, fun k hk hr => h.block k hk hr⟩
theorem toKeep {B D : Nat} (h : Only S w w') (hS : ∀ k, S k → B ≤ k ∨ k = D) (hB : B ≤ w.heap.size) : Keep B D w w' :=
  ⟨h.os, h.tape, h.output, h.size, fun k hk hr => h.block k (by omega) (fun e => by rcases hS k e with h1 | h1 <;> omega)⟩
theorem drew (h : Only S a w) : Only S a w.drew := ⟨h.os, h.tape, h.output, h.size, h.block⟩
theorem drewN (h : Only S a w) (n : Nat) : Only S a (w.drewN n) := ⟨h.os, h.tape, h.output, h.size, h.block⟩
theorem alloc (h : Only S a w) (o : Obj) : Only S a (w.alloc o) :=
  ⟨h.os, h.tape, h.output, by have := (Below.refl w.heap.size w).alloc (Nat.le_refl _) o; exact Nat.le_trans h.size this.size, fun k hk hs => (Below.heap_alloc w o k (Nat.lt_of_lt_of_le hk h.size)).trans (h.block k hk hs)⟩
theorem setCell (h : Only S a w) {p : Addr} (hp : a.heap.size ≤ p.block ∨ S p.block) (u : Value) : Only S a (w.setCell p u) :=
  ⟨h.os, h.tape, h.output, by simp [World.setCell]; exact h.size, fun k hk hs => (Below.heap_setCell _ _ _ _ (fun e => by rcases hp with hp | hp; omega; exact hs (e ▸ hp))).trans (h.block k hk hs)⟩
theorem setRow (h : Only S a w) {g : Nat} (hp : a.heap.size ≤ g ∨ S g) (cs : Array Value) : Only S a (w.setRow g cs) :=
  ⟨h.os, h.tape, h.output, by simp [World.setRow]; exact h.size, fun k hk hs => (setRow_other w g k cs (fun e => by rcases hp with hp | hp; omega; exact hs (e ▸ hp))).trans (h.block k hk hs)⟩
theorem same {b : World} (h : Only S a w) (k : Same w b) : Only S a b := ⟨k.os.trans h.os, k.tape.trans h.tape, k.output.trans h.output, by rw [k.heap]; exact h.size, fun i hi hs => by rw [k.heap]; exact h.block i hi hs⟩
theorem ofSame (k : Same w w') : Only S w w' := (refl S w).same k
theorem cell (h : Only S w w') {p : Addr} (hp : p.block < w.heap.size) (hr : ¬ S p.block) : w'.cell? p = w.cell? p := World.cell?_of_block (w := w) (h.block p.block hp hr)
end Only
end Go.Proofs.YtjmahgefijncaaaGreatFmt

/- Names in memory: attributes, relative names, names; what stands as long as their blocks stand. -/
namespace Go.Proofs.YtjmahgefijncaaaGreatFmt
open Go Go.RowKit

theorem owns_stays {w w' : World} {B : Nat} {e : TypeId} {sz : Nat} {v : Value} {n : Nat} {xs : List Value} (h : w.ownsRow B e sz v n xs) (k : ∀ g, v.ownBlock = some g → w'.heap[g]? = w.heap[g]?) : w'.ownsRow B e sz v n xs := by
  refine ⟨h.1, h.2.imp id ?_⟩
  rintro ⟨g, cap, cur, e1, e2, e3, e4⟩
  exact ⟨g, cap, cur, e1, e2, (k g (by rw [e1]; rfl)).trans e3, e4⟩
theorem owns_lt {w : World} {B : Nat} {e : TypeId} {sz : Nat} {v : Value} {n : Nat} {xs : List Value} (h : w.ownsRow B e sz v n xs) : ∀ g, v.ownBlock = some g → g < w.heap.size := by
  rcases h.2 with ⟨hv, _⟩ | ⟨g, cap, cur, hv, _, hg, _⟩
  · intro g hg; rw [hv] at hg; simp [Value.ownBlock] at hg
  · intro k hk; rw [hv] at hk; simp only [Value.ownBlock, Option.some.injEq] at hk; subst hk; exact blockLt hg
theorem owns_form {w : World} {B : Nat} {e : TypeId} {sz : Nat} {v : Value} {n : Nat} {xs : List Value} (h : w.ownsRow B e sz v n xs) : ∃ o c, v = .slice o n c := by
  rcases h.2 with ⟨hv, h0⟩ | ⟨g, cap, cur, hv, _⟩
  · exact ⟨none, 0, by rw [hv, h0]⟩
  · exact ⟨_, _, hv⟩
theorem owns_cell {w : World} {B : Nat} {e : TypeId} {v : Value} {n : Nat} {xs : List Value} (h : w.ownsRow B e 1 v n xs) {j : Nat} {u : Value} (hj : xs[j]? = some u) : ∃ g c, v = .slice (some ⟨g, 0, none⟩) n c ∧ w.cell? ⟨g, j, none⟩ = some u := by
  have hl := h.1
  rcases h.2 with ⟨hv, h0⟩ | ⟨g, cap, cur, hv, _, hg, h2, h3, h4, h5⟩
  · rw [List.getElem?_eq_none (by omega)] at hj; cases hj
  · refine ⟨g, cap, hv, ?_⟩
    rw [blockCell hg j]
    rw [← h5] at hj
    simp only [List.getElem?_take] at hj
    split at hj
    · simpa using hj
    · cases hj

/-- The block of an attribute. -/
def PartAt (w : World) (a : Nat) (p : Nm.Part) : Prop := w.heap[a]? = some (.cells #[.string (Nm.bs p.1), .string (Nm.bs p.2)] 120 (0, 0))

/-- Pointers to attributes, all in blocks of S. -/
def PartsAt (w : World) (S : Nat → Prop) (xs : List Value) : List Nm.Part → Prop
  | [] => xs = []
  | p :: r => ∃ a vs, xs = .pointer (some ⟨a, 0, none⟩) :: vs ∧ S a ∧ PartAt w a p ∧ PartsAt w S vs r

/-- The block of a relative name. -/
def RdnAt (w : World) (S : Nat → Prop) (r : Nat) (ps : List Nm.Part) : Prop :=
  S r ∧ ∃ v xs, w.heap[r]? = some (.cells #[v] 118 (0, 0)) ∧ w.ownsRow 0 119 1 v xs.length xs ∧ (∀ k, v.ownBlock = some k → S k) ∧ PartsAt w S xs ps

/-- Pointers to relative names. -/
def RdnsAt (w : World) (S : Nat → Prop) (xs : List Value) : Nm.Name → Prop
  | [] => xs = []
  | p :: r => ∃ a vs, xs = .pointer (some ⟨a, 0, none⟩) :: vs ∧ RdnAt w S a p ∧ RdnsAt w S vs r

/-- The block of a name. -/
def DnAt (w : World) (S : Nat → Prop) (d : Nat) (n : Nm.Name) : Prop :=
  S d ∧ ∃ v xs, w.heap[d]? = some (.cells #[v] 114 (0, 0)) ∧ w.ownsRow 0 115 1 v xs.length xs ∧ (∀ k, v.ownBlock = some k → S k) ∧ RdnsAt w S xs n

section
variable {w w' : World} {S T : Nat → Prop}
theorem PartsAt.len : ∀ {ps : List Nm.Part} {xs : List Value}, PartsAt w S xs ps → xs.length = ps.length
  | [], _, h => by rw [show _ = _ from h]; rfl
  | _ :: _, _, ⟨_, _, e, _, _, h⟩ => by rw [e, List.length_cons, List.length_cons, PartsAt.len h]
theorem RdnsAt.len : ∀ {ps : Nm.Name} {xs : List Value}, RdnsAt w S xs ps → xs.length = ps.length
  | [], _, h => by rw [show _ = _ from h]; rfl
  | _ :: _, _, ⟨_, _, e, _, h⟩ => by rw [e, List.length_cons, List.length_cons, RdnsAt.len h]

theorem PartsAt.stays (k : ∀ i, S i → w'.heap[i]? = w.heap[i]?) (hT : ∀ i, S i → T i) : ∀ {ps : List Nm.Part} {xs : List Value}, PartsAt w S xs ps → PartsAt w' T xs ps
  | [], _, h => h
  | _ :: _, _, ⟨a, vs, e, ha, hp, h⟩ => ⟨a, vs, e, hT a ha, (k a ha).trans hp, PartsAt.stays k hT h⟩
theorem RdnAt.stays (k : ∀ i, S i → w'.heap[i]? = w.heap[i]?) (hT : ∀ i, S i → T i) {r : Nat} {ps : List Nm.Part} : RdnAt w S r ps → RdnAt w' T r ps
  | ⟨hr, v, xs, h1, h2, h3, h4⟩ => ⟨hT r hr, v, xs, (k r hr).trans h1, owns_stays h2 (fun g hg => k g (h3 g hg)), fun g hg => hT g (h3 g hg), h4.stays k hT⟩
theorem RdnsAt.stays (k : ∀ i, S i → w'.heap[i]? = w.heap[i]?) (hT : ∀ i, S i → T i) : ∀ {ps : Nm.Name} {xs : List Value}, RdnsAt w S xs ps → RdnsAt w' T xs ps
  | [], _, h => h
  | _ :: _, _, ⟨a, vs, e, hp, h⟩ => ⟨a, vs, e, hp.stays k hT, RdnsAt.stays k hT h⟩
theorem DnAt.stays (k : ∀ i, S i → w'.heap[i]? = w.heap[i]?) (hT : ∀ i, S i → T i) {d : Nat} {n : Nm.Name} : DnAt w S d n → DnAt w' T d n
  | ⟨hr, v, xs, h1, h2, h3, h4⟩ => ⟨hT d hr, v, xs, (k d hr).trans h1, owns_stays h2 (fun g hg => k g (h3 g hg)), fun g hg => hT g (h3 g hg), h4.stays k hT⟩

theorem PartsAt.snoc {p : Nm.Part} {a : Nat} (ha : S a) (hp : PartAt w a p) : ∀ {ps : List Nm.Part} {xs : List Value}, PartsAt w S xs ps → PartsAt w S (xs ++ [.pointer (some ⟨a, 0, none⟩)]) (ps ++ [p])
  | [], _, h => by rw [show _ = _ from h]; exact ⟨a, [], rfl, ha, hp, rfl⟩
  | _ :: _, _, ⟨b, vs, e, hb, hq, h⟩ => by rw [e]; exact ⟨b, _, rfl, hb, hq, PartsAt.snoc ha hp h⟩
theorem RdnsAt.snoc {p : List Nm.Part} {a : Nat} (hp : RdnAt w S a p) : ∀ {ps : Nm.Name} {xs : List Value}, RdnsAt w S xs ps → RdnsAt w S (xs ++ [.pointer (some ⟨a, 0, none⟩)]) (ps ++ [p])
  | [], _, h => by rw [show _ = _ from h]; exact ⟨a, [], rfl, hp, rfl⟩
  | _ :: _, _, ⟨b, vs, e, hq, h⟩ => by rw [e]; exact ⟨b, _, rfl, hq, RdnsAt.snoc hp h⟩
theorem PartsAt.nth : ∀ {ps : List Nm.Part} {xs : List Value}, PartsAt w S xs ps → ∀ {i : Nat} {p : Nm.Part}, ps[i]? = some p → ∃ a, xs[i]? = some (.pointer (some ⟨a, 0, none⟩)) ∧ S a ∧ PartAt w a p
  | [], _, _, i, p, h => by simp at h
  | _ :: _, _, ⟨a, vs, e, ha, hp, h⟩, 0, p, hi => by simp only [List.getElem?_cons_zero, Option.some.injEq] at hi; subst hi; exact ⟨a, by rw [e]; rfl, ha, hp⟩
  | _ :: _, _, ⟨a, vs, e, ha, hp, h⟩, i + 1, p, hi => by
    obtain ⟨b, h1, h2⟩ := PartsAt.nth h (i := i) (p := p) (by simpa using hi)
    exact ⟨b, by rw [e]; simpa using h1, h2⟩
theorem RdnsAt.nth : ∀ {ps : Nm.Name} {xs : List Value}, RdnsAt w S xs ps → ∀ {i : Nat} {p : List Nm.Part}, ps[i]? = some p → ∃ a, xs[i]? = some (.pointer (some ⟨a, 0, none⟩)) ∧ RdnAt w S a p
  | [], _, _, i, p, h => by simp at h
  | _ :: _, _, ⟨a, vs, e, hp, h⟩, 0, p, hi => by simp only [List.getElem?_cons_zero, Option.some.injEq] at hi; subst hi; exact ⟨a, by rw [e]; rfl, hp⟩
  | _ :: _, _, ⟨a, vs, e, hp, h⟩, i + 1, p, hi => by
    obtain ⟨b, h1, h2⟩ := RdnsAt.nth h (i := i) (p := p) (by simpa using hi)
    exact ⟨b, by rw [e]; simpa using h1, h2⟩
end
end Go.Proofs.YtjmahgefijncaaaGreatFmt

