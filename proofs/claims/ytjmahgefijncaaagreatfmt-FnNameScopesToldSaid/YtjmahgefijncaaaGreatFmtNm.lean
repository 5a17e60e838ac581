/- What ParseDN makes of bytes, as plain functions; no program in sight. -/
import Derived.Lib.RuneBytes
import GoSem.Core.Utf8
namespace Go.Proofs.YtjmahgefijncaaaGreatFmt.Nm
open Go

def bs (l : List UInt8) : ByteArray := ⟨l.toArray⟩

def trimL (l : List UInt8) : List UInt8 := l.dropWhile (· == 32)
/-- Where the blanks at the end of the first n bytes begin. -/
def upTo (l : List UInt8) : Nat → Nat
  | 0 => 0
  | n + 1 => if l[n]? = some 32 then upTo l n else n + 1
def trimR (l : List UInt8) : List UInt8 := l.take (upTo l l.length)
/-- How many backslashes stand at the end of the first n bytes. -/
def slashesTo (l : List UInt8) : Nat → Nat
  | 0 => 0
  | n + 1 => if l[n]? = some 92 then slashesTo l n + 1 else 0
def slashes (l : List UInt8) : Nat := slashesTo l l.length
def strip (l : List UInt8) : List UInt8 :=
  if trimR (trimL l) ≠ [] ∧ l.getLast? = some 32 ∧ slashes (trimR (trimL l)) % 2 = 1 then trimR (trimL l) ++ [32] else trimR (trimL l)

/-- The runes of a text from place pos on. -/
def runes (s : ByteArray) : Nat → Nat → List Nat
  | 0, _ => []
  | f + 1, pos => if pos < s.size then (Utf8.decode s pos).1 :: runes s f (pos + (Utf8.decode s pos).2) else []

def special (c : Nat) : Bool := c == 32 || c == 34 || c == 35 || c == 43 || c == 44 || c == 59 || c == 60 || c == 61 || c == 62 || c == 92
def refused (c : Nat) : Bool := c == 34 || c == 59 || c == 60 || c == 62 || c == 0
def hexDigit (c : Nat) : Option Nat :=
  if 48 ≤ c ∧ c ≤ 57 then some (c - 48) else if 97 ≤ c ∧ c ≤ 102 then some (c - 87) else if 65 ≤ c ∧ c ≤ 70 then some (c - 55) else none

/-- What the escapes of runes say. -/
def unescape : List Nat → Option (List UInt8)
  | [] => some []
  | c :: r =>
    if c = 92 then
      match r with
      | [] => none
      | d :: r1 =>
        if special d then (unescape r1).map (Lib.encodeRune d ++ ·)
        else match r1 with
          | [] => none
          | e :: r2 =>
            match hexDigit d, hexDigit e with
            | some x, some y => (unescape r2).map (UInt8.ofNat (x * 16 + y) :: ·)
            | _, _ => none
    else if refused c then none else (unescape r).map (Lib.encodeRune c ++ ·)

def decode (l : List UInt8) : Option (List UInt8) := unescape (runes (bs (strip l)) (strip l).length 0)

/-- An attribute: its type, its value. -/
abbrev Part := List UInt8 × List UInt8
/-- A name: its relative names. -/
abbrev Name := List (List Part)

/-- The loop of ParseDN: the bytes to come, those since the last start, whether a backslash stands ahead, the type that was read, the relative name and the name so far. val: what a value's text says. -/
def parse (val : List UInt8 → Option (List UInt8)) : List UInt8 → List UInt8 → Bool → List UInt8 → List Part → Name → Option Name
  | [], seg, _, ty, rdn, dn => if ty = [] then none else (val seg).map fun v => dn ++ [rdn ++ [(ty, v)]]
  | c :: r, seg, esc, ty, rdn, dn =>
    if esc then parse val r (seg ++ [c]) false ty rdn dn
    else if c = 92 then parse val r (seg ++ [c]) true ty rdn dn
    else if c = 61 ∧ ty = [] then
      match decode seg with
      | none => none
      | some t => parse val r [] false t rdn dn
    else if c = 44 ∨ c = 43 ∨ c = 59 then
      if ty = [] then none
      else match val seg with
        | none => none
        | some v => if c = 43 then parse val r [] false [] (rdn ++ [(ty, v)]) dn else parse val r [] false [] [] (dn ++ [rdn ++ [(ty, v)]])
    else parse val r (seg ++ [c]) false ty rdn dn

def blank (l : List UInt8) : Bool := l.all fun c => c == 32 || (9 ≤ c && c ≤ 13)
def parseDN (val : List UInt8 → Option (List UInt8)) (l : List UInt8) : Option Name := if blank l then some [] else parse val l [] false [] [] []

end Go.Proofs.YtjmahgefijncaaaGreatFmt.Nm
