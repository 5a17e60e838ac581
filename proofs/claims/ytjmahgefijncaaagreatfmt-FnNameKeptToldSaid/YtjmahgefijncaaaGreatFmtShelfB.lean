/-
  DERIVED: THE SHELF's CONTRACTS AT THIS DUMP, IN PLAIN WORDS (tools/lay-plain.mjs out of 'TryzShelf.lean', which tools/lay-shelf.mjs wrote): THE SAME DECLARATIONS UNDER THE SAME NAMES: 'import', 'namespace', 'open', 'def', 'theorem' AND NOTHING ELSE: no command of the shelf's: FOR A HAND-IN. Each laying: the table of numbers ('.._ren') and one theorem, a field a fact of the dump's own or the kernel's comparison; each contract: ONE APPLICATION.
-/
import Derived.Shelf.LaysM
import Derived.Shelf.Bytes.Len
import Derived.Shelf.Bytes.TryGrow
import Derived.Shelf.Bytes.GrowSliceCatch
import Derived.Shelf.Bytes.GrowSlice
import Derived.Shelf.Bytes.String
import Derived.Shelf.Bytes.Bytes
import Derived.Ground.PaProg
import Derived.Shelf.Hex.Decode
import Derived.Test.YtjmahgefijncaaaGreatFmtProg
namespace Go.Proofs
open Go.Shelf
def Tryz.laysM181_ren : Go.Shelf.Ren := ⟨fun | 181 => 100 | n => n, fun | 130 => 157 | 3 => 3 | 0 => 0 | 93 => 183 | 37 => 51 | 91 => 181 | 5 => 5 | n => n, fun | n => n⟩
theorem Tryz.laysM181 : Go.Proofs.LaysM.n181 Tryz.prog Tryz.laysM181_ren := {
  mixed := by kernel_rfl
  f181 := Tryz.func100.trans (congrArg some (by kernel_rfl))
  t0 := Tryz.underlying0
  a0 := Tryz.isAgg0
  z0 := Tryz.sizeOf0
  v0 := Tryz.zeroValue0
  t3 := Tryz.underlying3
  a3 := Tryz.isAgg3
  z3 := Tryz.sizeOf3
  v3 := Tryz.zeroValue3
  t37 := Tryz.underlying51
  a37 := Tryz.isAgg51
  z37 := Tryz.sizeOf51
  v37 := Tryz.zeroValue51
  t93 := Tryz.underlying183
  a93 := Tryz.isAgg183
  z93 := Tryz.sizeOf183
  v93 := Tryz.zeroValue183
  t130 := Tryz.underlying157
  a130 := Tryz.isAgg157
  z130 := Tryz.sizeOf157
  v130 := Tryz.zeroValue157
  t5 := Tryz.underlying5
  a5 := Tryz.isAgg5
  z5 := Tryz.sizeOf5
  v5 := Tryz.zeroValue5
  t91 := Tryz.underlying181
  a91 := Tryz.isAgg181
  z91 := Tryz.sizeOf181
  v91 := Tryz.zeroValue181
  i0 := by kernel_rfl
  i3 := by kernel_rfl
  i5 := by kernel_rfl
  i37 := by kernel_rfl
  i91 := by kernel_rfl
  i93 := by kernel_rfl
  i130 := by kernel_rfl }
open Go.RowKit in
/-- (*bytes.Buffer).Len: "Len returns the number of bytes of the unread portion of the buffer; b.Len() == len(b.Bytes()).": the world is as it was but for the count of draws (the statement has two reads: its order is drawn). (LAID: no walk: one application.) -/
theorem Tryz.Buffer_Len (B b : Nat) (bs : List Value) (w : World) (h : Lib.IsBuffer 183 5 B b bs w) :
    Calls Tryz.prog 100 #[.pointer (some ⟨b, 0, none⟩)] w fun e w' => e = .returned (.int .i64 bs.length) ∧ ∃ n, w' = w.drewN n := Any.Buffer_Len Tryz.laysM181 B b bs w h
def Tryz.laysM251_ren : Go.Shelf.Ren := ⟨fun | 251 => 137 | n => n, fun | 130 => 157 | 3 => 3 | 4 => 4 | 0 => 0 | 93 => 183 | 37 => 51 | 91 => 181 | 5 => 5 | n => n, fun | n => n⟩
theorem Tryz.laysM251 : Go.Proofs.LaysM.n251 Tryz.prog Tryz.laysM251_ren := {
  mixed := by kernel_rfl
  f251 := Tryz.func137.trans (congrArg some (by kernel_rfl))
  t0 := Tryz.underlying0
  a0 := Tryz.isAgg0
  z0 := Tryz.sizeOf0
  v0 := Tryz.zeroValue0
  t3 := Tryz.underlying3
  a3 := Tryz.isAgg3
  z3 := Tryz.sizeOf3
  v3 := Tryz.zeroValue3
  t4 := Tryz.underlying4
  a4 := Tryz.isAgg4
  z4 := Tryz.sizeOf4
  v4 := Tryz.zeroValue4
  t37 := Tryz.underlying51
  a37 := Tryz.isAgg51
  z37 := Tryz.sizeOf51
  v37 := Tryz.zeroValue51
  t93 := Tryz.underlying183
  a93 := Tryz.isAgg183
  z93 := Tryz.sizeOf183
  v93 := Tryz.zeroValue183
  t130 := Tryz.underlying157
  a130 := Tryz.isAgg157
  z130 := Tryz.sizeOf157
  v130 := Tryz.zeroValue157
  t5 := Tryz.underlying5
  a5 := Tryz.isAgg5
  z5 := Tryz.sizeOf5
  v5 := Tryz.zeroValue5
  t91 := Tryz.underlying181
  a91 := Tryz.isAgg181
  z91 := Tryz.sizeOf181
  v91 := Tryz.zeroValue181
  i0 := by kernel_rfl
  i3 := by kernel_rfl
  i4 := by kernel_rfl
  i5 := by kernel_rfl
  i37 := by kernel_rfl
  i91 := by kernel_rfl
  i93 := by kernel_rfl
  i130 := by kernel_rfl }
open Go.RowKit in
/-- (*bytes.Buffer).tryGrowByReslice: "tryGrowByReslice is an inlineable version of grow for the fast-case where the internal buffer only needs to be resliced. It returns the index where bytes should be written and whether it succeeded.": THERE IS ROOM: 'buf' is resliced to l + n. (LAID: no walk: one application.) -/
theorem Tryz.Buffer_tryGrow_room (b : Nat) (ao : Option Addr) (l cap n : Nat) (w : World) (c0 : w.cell? ⟨b, 0, none⟩ = some (.slice ao l cap)) (f0 : w.frozen? ⟨b, 0, none⟩ = false) (hlc : l ≤ cap) (hcap : cap ≤ maxLen) (hn : n ≤ cap - l) :
    Calls Tryz.prog 137 #[.pointer (some ⟨b, 0, none⟩), .int .i64 n] w fun e w' => e = .returned (.tuple #[.int .i64 l, .bool true]) ∧ w' = w.setCell ⟨b, 0, none⟩ (.slice ao (l + n) cap) := Any.Buffer_tryGrow_room Tryz.laysM251 b ao l cap n w c0 f0 hlc hcap hn
open Go.RowKit in
/-- .. THERE IS NONE: nothing turns. (LAID: no walk: one application.) -/
theorem Tryz.Buffer_tryGrow_none (b : Nat) (ao : Option Addr) (l cap n : Nat) (w : World) (c0 : w.cell? ⟨b, 0, none⟩ = some (.slice ao l cap)) (hlc : l ≤ cap) (hcap : cap ≤ maxLen) (hn : cap - l < n) :
    Calls Tryz.prog 137 #[.pointer (some ⟨b, 0, none⟩), .int .i64 n] w fun e w' => e = .returned (.tuple #[.int .i64 0, .bool false]) ∧ w' = w := Any.Buffer_tryGrow_none Tryz.laysM251 b ao l cap n w c0 hlc hcap hn
def Tryz.laysM290_ren : Go.Shelf.Ren := ⟨fun | 290 => 149 | 324 => 155 | n => n, fun | 37 => 51 | 3 => 3 | 0 => 0 | 4 => 4 | 20 => 20 | 75 => 83 | 5 => 5 | 80 => 86 | 9 => 9 | n => n, fun | 14 => 6 | n => n⟩
theorem Tryz.laysM290 : Go.Proofs.LaysM.n290 Tryz.prog Tryz.laysM290_ren := {
  mixed := by kernel_rfl
  f290 := Tryz.func149.trans (congrArg some (by kernel_rfl))
  f324 := Tryz.func155.trans (congrArg some (by kernel_rfl))
  t0 := Tryz.underlying0
  a0 := Tryz.isAgg0
  z0 := Tryz.sizeOf0
  v0 := Tryz.zeroValue0
  t3 := Tryz.underlying3
  a3 := Tryz.isAgg3
  z3 := Tryz.sizeOf3
  v3 := Tryz.zeroValue3
  t4 := Tryz.underlying4
  a4 := Tryz.isAgg4
  z4 := Tryz.sizeOf4
  v4 := Tryz.zeroValue4
  t20 := Tryz.underlying20
  a20 := Tryz.isAgg20
  z20 := Tryz.sizeOf20
  v20 := Tryz.zeroValue20
  t37 := Tryz.underlying51
  a37 := Tryz.isAgg51
  z37 := Tryz.sizeOf51
  v37 := Tryz.zeroValue51
  t75 := Tryz.underlying83
  a75 := Tryz.isAgg83
  z75 := Tryz.sizeOf83
  v75 := Tryz.zeroValue83
  g14 := by kernel_rfl
  t5 := Tryz.underlying5
  a5 := Tryz.isAgg5
  z5 := Tryz.sizeOf5
  v5 := Tryz.zeroValue5
  t9 := Tryz.underlying9
  a9 := Tryz.isAgg9
  z9 := Tryz.sizeOf9
  v9 := Tryz.zeroValue9
  t80 := Tryz.underlying86
  a80 := Tryz.isAgg86
  z80 := Tryz.sizeOf86
  v80 := Tryz.zeroValue86
  i0 := by kernel_rfl
  i3 := by kernel_rfl
  i4 := by kernel_rfl
  i5 := by kernel_rfl
  i9 := by kernel_rfl
  i20 := by kernel_rfl
  i37 := by kernel_rfl
  i75 := by kernel_rfl
  i80 := by kernel_rfl
  m14 := by kernel_rfl }
open Go.RowKit in
/-- bytes.growSlice: "growSlice grows b by n, preserving the original content of b.": OF A SLICE THAT LIES AT THE HEAD OF A ROW: a new row, number 'w.heap.size': it begins with b's l cells; its capacity has room for n more; whatever lay below is as it was. (LAID: no walk: one application.) -/
theorem Tryz.bytes_growSlice_row (g l c n : Nat) (cur : Array Value) (w : World) (hg : w.heap[g]? = some (.cells cur 5 (0, 0))) (hcs : cur.size = c) (hlc : l ≤ c) (hn : 1 ≤ n) (hlim : l + n ≤ 140737488355328) (hc2 : c ≤ 140737488355328) (h1 : ∀ v ∈ cur.toList.take l, v.oneCell' = true) :
    Calls Tryz.prog 149 #[.slice (some ⟨g, 0, none⟩) l c, .int .i64 n] w fun e w' => ∃ cap2 cells, e = .returned (.slice (some ⟨w.heap.size, 0, none⟩) l cap2) ∧ w'.heap[w.heap.size]? = some (.cells cells 5 (0, 0)) ∧
      cells.size = cap2 ∧ cells.toList.take l = cur.toList.take l ∧ l + n ≤ cap2 ∧ cap2 ≤ maxLen ∧ Below w.heap.size w w' := Any.bytes_growSlice_row Tryz.laysM290 g l c n cur w hg hcs hlc hn hlim hc2 h1
open Go.RowKit in
/-- .. OF THE NIL SLICE: a new row with room for n. (LAID: no walk: one application.) -/
theorem Tryz.bytes_growSlice_nil (n : Nat) (w : World) (hn : 1 ≤ n) (hlim : n ≤ 140737488355328) :
    Calls Tryz.prog 149 #[.slice none 0 0, .int .i64 n] w fun e w' => ∃ cap2 cells, e = .returned (.slice (some ⟨w.heap.size, 0, none⟩) 0 cap2) ∧ w'.heap[w.heap.size]? = some (.cells cells 5 (0, 0)) ∧
      cells.size = cap2 ∧ n ≤ cap2 ∧ cap2 ≤ maxLen ∧ Below w.heap.size w w' := Any.bytes_growSlice_nil Tryz.laysM290 n w hn hlim
def Tryz.laysM182_ren : Go.Shelf.Ren := ⟨fun | 182 => 101 | n => n, fun | 130 => 157 | 9 => 9 | 4 => 4 | 0 => 0 | 93 => 183 | 37 => 51 | 3 => 3 | 91 => 181 | 5 => 5 | n => n, fun | n => n⟩
theorem Tryz.laysM182 : Go.Proofs.LaysM.n182 Tryz.prog Tryz.laysM182_ren := {
  mixed := by kernel_rfl
  f182 := Tryz.func101.trans (congrArg some (by kernel_rfl))
  t0 := Tryz.underlying0
  a0 := Tryz.isAgg0
  z0 := Tryz.sizeOf0
  v0 := Tryz.zeroValue0
  t3 := Tryz.underlying3
  a3 := Tryz.isAgg3
  z3 := Tryz.sizeOf3
  v3 := Tryz.zeroValue3
  t4 := Tryz.underlying4
  a4 := Tryz.isAgg4
  z4 := Tryz.sizeOf4
  v4 := Tryz.zeroValue4
  t9 := Tryz.underlying9
  a9 := Tryz.isAgg9
  z9 := Tryz.sizeOf9
  v9 := Tryz.zeroValue9
  t37 := Tryz.underlying51
  a37 := Tryz.isAgg51
  z37 := Tryz.sizeOf51
  v37 := Tryz.zeroValue51
  t93 := Tryz.underlying183
  a93 := Tryz.isAgg183
  z93 := Tryz.sizeOf183
  v93 := Tryz.zeroValue183
  t130 := Tryz.underlying157
  a130 := Tryz.isAgg157
  z130 := Tryz.sizeOf157
  v130 := Tryz.zeroValue157
  t5 := Tryz.underlying5
  a5 := Tryz.isAgg5
  z5 := Tryz.sizeOf5
  v5 := Tryz.zeroValue5
  t91 := Tryz.underlying181
  a91 := Tryz.isAgg181
  z91 := Tryz.sizeOf181
  v91 := Tryz.zeroValue181
  i0 := by kernel_rfl
  i3 := by kernel_rfl
  i4 := by kernel_rfl
  i5 := by kernel_rfl
  i9 := by kernel_rfl
  i37 := by kernel_rfl
  i91 := by kernel_rfl
  i93 := by kernel_rfl
  i130 := by kernel_rfl }
open Go.RowKit in
/-- (*bytes.Buffer).String: "String returns the contents of the unread portion of the buffer as a string.": THE BYTES THAT WERE WRITTEN. The world is as it was but for the count of draws (the statement has two reads: its order is drawn). (LAID: no walk: one application.) -/
theorem Tryz.Buffer_String (B b : Nat) (l : List UInt8) (w : World) (h : Lib.IsBuffer 183 5 B b (Lib.byteCells l) w) :
    Calls Tryz.prog 101 #[.pointer (some ⟨b, 0, none⟩)] w fun e w' => e = .returned (.string ⟨l.toArray⟩) ∧ ∃ n, w' = w.drewN n := Any.Buffer_String Tryz.laysM182 B b l w h
def Tryz.laysM183_ren : Go.Shelf.Ren := ⟨fun | 183 => 147 | n => n, fun | 130 => 157 | 37 => 51 | 0 => 0 | 93 => 183 | 3 => 3 | 5 => 5 | 91 => 181 | n => n, fun | n => n⟩
theorem Tryz.laysM183 : Go.Proofs.LaysM.n183 Tryz.prog Tryz.laysM183_ren := {
  mixed := by kernel_rfl
  f183 := Tryz.func147.trans (congrArg some (by kernel_rfl))
  t0 := Tryz.underlying0
  a0 := Tryz.isAgg0
  z0 := Tryz.sizeOf0
  v0 := Tryz.zeroValue0
  t3 := Tryz.underlying3
  a3 := Tryz.isAgg3
  z3 := Tryz.sizeOf3
  v3 := Tryz.zeroValue3
  t37 := Tryz.underlying51
  a37 := Tryz.isAgg51
  z37 := Tryz.sizeOf51
  v37 := Tryz.zeroValue51
  t93 := Tryz.underlying183
  a93 := Tryz.isAgg183
  z93 := Tryz.sizeOf183
  v93 := Tryz.zeroValue183
  t130 := Tryz.underlying157
  a130 := Tryz.isAgg157
  z130 := Tryz.sizeOf157
  v130 := Tryz.zeroValue157
  t5 := Tryz.underlying5
  a5 := Tryz.isAgg5
  z5 := Tryz.sizeOf5
  v5 := Tryz.zeroValue5
  t91 := Tryz.underlying181
  a91 := Tryz.isAgg181
  z91 := Tryz.sizeOf181
  v91 := Tryz.zeroValue181
  i0 := by kernel_rfl
  i3 := by kernel_rfl
  i5 := by kernel_rfl
  i37 := by kernel_rfl
  i91 := by kernel_rfl
  i93 := by kernel_rfl
  i130 := by kernel_rfl }
open Go.RowKit in
/-- (*bytes.Buffer).Bytes: "Bytes returns a slice of length b.Len() holding the unread portion of the buffer. .. The slice aliases the buffer content at least until the next buffer modification": A SLICE THAT OWNS THE CELLS bs ('World.ownsRow': nil where nothing was ever written). The world is as it was but for the count of draws. (LAID: no walk: one application.) -/
theorem Tryz.Buffer_Bytes (B b : Nat) (bs : List Value) (w : World) (h : Lib.IsBuffer 183 5 B b bs w) :
    Calls Tryz.prog 147 #[.pointer (some ⟨b, 0, none⟩)] w fun e w' => ∃ v, e = .returned v ∧ w'.ownsRow B 5 1 v bs.length bs ∧ ∃ n, w' = w.drewN n := Any.Buffer_Bytes Tryz.laysM183 B b bs w h
def Tryz.laysPah43_ren : Go.Shelf.Ren := ⟨fun | 43 => 97 | 42 => 109 | 44 => 96 | n => n, fun | 9 => 9 | 30 => 51 | 35 => 83 | 3 => 3 | 38 => 131 | 4 => 4 | 0 => 0 | 5 => 5 | 47 => 178 | 46 => 96 | 45 => 86 | n => n, fun | 0 => 1 | n => n⟩
theorem Tryz.laysPah43 : Go.Proofs.Lays.ph43 Tryz.prog Tryz.laysPah43_ren := {
  mixed := by kernel_rfl
  f42 := Tryz.func109.trans (congrArg some (by kernel_rfl))
  f43 := Tryz.func97.trans (congrArg some (by kernel_rfl))
  f44 := Tryz.func96.trans (congrArg some (by kernel_rfl))
  t0 := Tryz.underlying0
  a0 := Tryz.isAgg0
  z0 := Tryz.sizeOf0
  v0 := Tryz.zeroValue0
  t3 := Tryz.underlying3
  a3 := Tryz.isAgg3
  z3 := Tryz.sizeOf3
  v3 := Tryz.zeroValue3
  t4 := Tryz.underlying4
  a4 := Tryz.isAgg4
  z4 := Tryz.sizeOf4
  v4 := Tryz.zeroValue4
  t5 := Tryz.underlying5
  a5 := Tryz.isAgg5
  z5 := Tryz.sizeOf5
  v5 := Tryz.zeroValue5
  t9 := Tryz.underlying9
  a9 := Tryz.isAgg9
  z9 := Tryz.sizeOf9
  v9 := Tryz.zeroValue9
  t30 := Tryz.underlying51
  a30 := Tryz.isAgg51
  z30 := Tryz.sizeOf51
  v30 := Tryz.zeroValue51
  t35 := Tryz.underlying83
  a35 := Tryz.isAgg83
  z35 := Tryz.sizeOf83
  v35 := Tryz.zeroValue83
  t38 := Tryz.underlying131
  a38 := Tryz.isAgg131
  z38 := Tryz.sizeOf131
  v38 := Tryz.zeroValue131
  t45 := Tryz.underlying86
  a45 := Tryz.isAgg86
  z45 := Tryz.sizeOf86
  v45 := Tryz.zeroValue86
  t46 := Tryz.underlying96
  a46 := Tryz.isAgg96
  z46 := Tryz.sizeOf96
  v46 := Tryz.zeroValue96
  t47 := Tryz.underlying178
  a47 := Tryz.isAgg178
  z47 := Tryz.sizeOf178
  v47 := Tryz.zeroValue178
  g0 := by kernel_rfl
  info5 := by kernel_rfl }
open Go.RowKit Go.Lib in
/-- encoding/hex.DecodeString, FOR EVERY s: "DecodeString returns the bytes represented by the hexadecimal string s. DecodeString expects that src contains only hexadecimal characters and that src has even length. If the input is malformed, DecodeString returns the bytes decoded before the error.": 'ev': what the variable encoding/hex.ErrLength holds. IT RETURNS (a slice at the head of A NEW BLOCK, the first that the call lays, of as many bytes as 'Hx.decode s' gives, capacity len(s) / 2; the error by how the decoding ends: nil ¦ InvalidByteError(c) ¦ ErrLength's content); THAT BLOCK IS A ROW WHICH HOLDS THOSE BYTES ('Hx.rowP'); what was there before the call is as it was ('Below'). IT ASKS len(s) ≤ 2^48. (LAID: no walk: one application.) -/
theorem Tryz.hex_DecodeString (s : ByteArray) (w : World) (ev : Value) (hE : w.cell? ⟨1, 0, none⟩ = some ev) (hbig : s.size ≤ 281474976710656) :
    Calls Tryz.prog 97 #[.string s] w fun e w' =>
      e = .returned (.tuple #[.slice (some ⟨w.heap.size, 0, none⟩) (Hx.decode s.data.toList).1.length (s.size / 2), Hx.errVal 178 ev (Hx.decode s.data.toList).2]) ∧
      w'.rowIs w.heap.size 5 (s.size / 2) (Hx.rowP (fun _ => .int .u8 0) 0 (Hx.decode s.data.toList).1) ∧ Below w.heap.size w w' := Any.hex_DecodeString Tryz.laysPah43 s w ev hE hbig
end Go.Proofs
