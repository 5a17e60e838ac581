/- Runes and pairs of digits in memory. -/
import Derived.Test.YtjmahgefijncaaaGreatFmtStrip
import Derived.Test.YtjmahgefijncaaaGreatFmtBld
import Derived.Laws.IdiomStrings
import Derived.Laws.Cover4
import Derived.Deep.LoopGhost
import Derived.Lib.ConvBytes
import Derived.Lib.AtoiErrMem
namespace Go.Proofs.YtjmahgefijncaaaGreatFmt
open Go Go.RowKit

theorem runes_array (s : ByteArray) : ∀ (f i : Nat) (acc : Array Value), (Conv.runesFrom s f i acc).toList = acc.toList ++ (Nm.runes s f i).map fun (r : Nat) => Value.int .i32 (r : Int)
  | 0, i, acc => by simp [Conv.runesFrom, Nm.runes]
  | f + 1, i, acc => by
    unfold Conv.runesFrom Nm.runes
    split
    · simp only []
      rw [runes_array s f]
      simp
    · simp
theorem runes_len (s : ByteArray) : ∀ f i, (Nm.runes s f i).length ≤ f
  | 0, i => by simp [Nm.runes]
  | f + 1, i => by
    unfold Nm.runes
    split
    · have := runes_len s f (i + (Utf8.decode s i).2)
      simp; omega
    · simp
theorem runes_small (s : ByteArray) : ∀ f i, ∀ r ∈ Nm.runes s f i, r ≤ 2147483647
  | 0, i => by simp [Nm.runes]
  | f + 1, i => by
    unfold Nm.runes
    split
    · intro r hr
      rcases List.mem_cons.1 hr with rfl | hr
      · exact decode_le s i
      · exact runes_small s f _ r hr
    · simp

/-- A row of runes. -/
def RuneRow (w : World) (R : Nat) (rs : List Nat) : Prop := ∃ cur : Array Value, w.heap[R]? = some (.cells cur 21 (0, 0)) ∧ ∀ (j r : Nat), rs[j]? = some r → cur[j]? = some (Value.int .i32 (r : Int))
theorem RuneRow.stays {w w' : World} {R : Nat} {rs : List Nat} (h : RuneRow w R rs) (k : w'.heap[R]? = w.heap[R]?) : RuneRow w' R rs := by
  obtain ⟨cur, h1, h2⟩ := h; exact ⟨cur, k.trans h1, h2⟩
theorem RuneRow.lt {w : World} {R : Nat} {rs : List Nat} (h : RuneRow w R rs) : R < w.heap.size := by obtain ⟨cur, h1, _⟩ := h; exact blockLt h1
theorem RuneRow.cell {w : World} {R : Nat} {rs : List Nat} (h : RuneRow w R rs) {j r : Nat} (hj : rs[j]? = some r) : w.cell? ⟨R, j, none⟩ = some (.int .i32 (r : Int)) := by
  obtain ⟨cur, h1, h2⟩ := h
  exact (blockCell h1 j).trans (h2 j r hj)

/-- The conversion to runes. -/
theorem to_runes (t : List UInt8) (ht : t.length < 1000000000) (w : World) : ∃ W cap, (convert 9 153 (.string (Nm.bs t))).run Tryz.prog w = .ok (.slice (some ⟨w.heap.size, 0, none⟩) (Nm.runes (Nm.bs t) t.length 0).length cap) W ∧
    RuneRow W w.heap.size (Nm.runes (Nm.bs t) t.length 0) ∧ Below w.heap.size w W ∧ W.heap.size = w.heap.size + 1 ∧ (Nm.runes (Nm.bs t) t.length 0).length ≤ cap := by
  have hsz := bs_size t
  have ha := runes_array (Nm.bs t) t.length 0 #[]
  have hl := runes_len (Nm.bs t) t.length 0
  have hs : (Conv.runesFrom (Nm.bs t) (Nm.bs t).size 0 #[]).size = (Nm.runes (Nm.bs t) t.length 0).length := by
    rw [hsz]
    have := congrArg List.length ha
    simpa using this
  have hr := run_runes_of_string (P := Tryz.prog) w 9 153 21 (Nm.bs t) Tryz.underlying9 Tryz.underlying153 Tryz.underlying21 (by rw [hs]; omega)
  rw [hs] at hr
  refine ⟨_, _, hr, ⟨_, heap_alloc_new w.drew _, fun j r hj => ?_⟩, ((Below.refl _ w).drew).alloc (Nat.le_refl _) _, by simp, grownCap_ge w _ 0 _⟩
  have hj' : (Conv.runesFrom (Nm.bs t) (Nm.bs t).size 0 #[])[j]? = some (Value.int .i32 (r : Int)) := by
    rw [hsz, ← Array.getElem?_toList, ha]
    simp [hj]
  rw [Array.getElem?_append_left (by
    rcases Nat.lt_or_ge j (Conv.runesFrom (Nm.bs t) (Nm.bs t).size 0 #[]).size with h | h
    · exact h
    · rw [Array.getElem?_eq_none h] at hj'; cases hj')]
  exact hj'

theorem encode_low {d : Nat} (h : d < 128) : Utf8.encode (d : Int) = ⟨#[UInt8.ofNat d]⟩ := by
  have hv : Utf8.valid (d : Int) = true := by
    simp only [Utf8.valid, Bool.or_eq_true, Bool.and_eq_true, decide_eq_true_eq]
    left; omega
  unfold Utf8.encode
  simp only [hv, if_true, Int.toNat_natCast]
  rw [if_pos h]

theorem conv_bytes (w : World) (s : ByteArray) : (convert 9 51 (.string s)).run Tryz.prog w = .ok (.slice (some ⟨w.heap.size, 0, none⟩) s.size (grownCap w s.size 0 5)) (Lib.bytesWorld w 5 s) :=
  Lib.run_convert_string_bytes w 9 51 5 s Tryz.underlying9 Tryz.underlying51 Tryz.underlying5

theorem hex_v : ∀ d, d < 256 → (match Nm.hexDigit d with | some x => decide (Lib.Hx.v (UInt8.ofNat d) = x ∧ x ≤ 15 ∧ d < 128) | none => true) = true := by decide +kernel
theorem hex_of {d x : Nat} (h : Nm.hexDigit d = some x) : Lib.Hx.v (UInt8.ofNat d) = x ∧ x ≤ 15 ∧ d < 128 := by
  have hd : d < 256 := by
    unfold Nm.hexDigit at h
    split at h
    · omega
    · split at h
      · omega
      · split at h
        · omega
        · cases h
  have := hex_v d hd
  rw [h] at this
  exact of_decide_eq_true this
theorem hex_two {d e x y : Nat} (h1 : Nm.hexDigit d = some x) (h2 : Nm.hexDigit e = some y) : Lib.Hx.decode [UInt8.ofNat d, UInt8.ofNat e] = ([UInt8.ofNat (x * 16 + y)], .ok) := by
  obtain ⟨a1, a2, _⟩ := hex_of h1
  obtain ⟨b1, b2, _⟩ := hex_of h2
  rw [Lib.Hx.decode_two, a1, b1, if_neg (by omega), if_neg (by omega), Lib.Hx.decode_nil]

/-- hex.Decode of two digits. -/
theorem hex_pair {w : World} {S D c1 c2 d e x y : Nat} (h1 : Nm.hexDigit d = some x) (h2 : Nm.hexDigit e = some y) (hS0 : w.cell? ⟨S, 0, none⟩ = some (.int .u8 (d : Int))) (hS1 : w.cell? ⟨S, 1, none⟩ = some (.int .u8 (e : Int)))
    (hD : w.heap[D]? = some (.cells #[.int .u8 0] 5 (0, 0))) (hne : D ≠ S) (ev : Value) (hE : w.cell? ⟨1, 0, none⟩ = some ev) (hg : 1 ≠ D) :
    Calls Tryz.prog 96 #[.slice (some ⟨D, 0, none⟩) 1 c1, .slice (some ⟨S, 0, none⟩) 2 c2] w fun e' w' => e' = .returned (.tuple #[.int .i64 1, .nilIface]) ∧ w'.cell? ⟨D, 0, none⟩ = some (.int .u8 ((UInt8.ofNat (x * 16 + y)).toNat : Int)) ∧ w.grownBy w' (some D) := by
  obtain ⟨a1, a2, a3⟩ := hex_of h1
  obtain ⟨b1, b2, b3⟩ := hex_of h2
  have hz : ∀ i : Nat, i < 1 → (#[Value.int .u8 0] : Array Value)[i]? = some (.int .u8 0) := by
    intro i hi
    match i, hi with
    | 0, _ => rfl
  have hrow : w.rowIs D 5 1 (fun _ => .int .u8 0) := ⟨_, hD, rfl, hz⟩
  have hb : Lib.bytesOf [(d : Int), (e : Int)] = [UInt8.ofNat d, UInt8.ofNat e] := by simp [Lib.bytesOf]
  have h := Tryz.hex_Decode D 0 1 c1 1 (fun _ => .int .u8 0) S 0 2 c2 [(d : Int), (e : Int)] w ev rfl (by
    intro i hi
    match i, hi with
    | 0, _ => simp; omega
    | 1, _ => simp; omega) (by
    intro i hi
    match i, hi with
    | 0, _ => simpa using hS0
    | 1, _ => simpa using hS1) hrow (by omega) (by omega) hne (by omega) hE hg
  rw [hb, hex_two h1 h2] at h
  refine h.mono fun e' w' ⟨r1, r2, r3⟩ => ⟨r1, ?_, r3⟩
  obtain ⟨c, g1, g2, g3⟩ := r2
  rw [blockCell g1 0, g3 0 (by omega)]
  simp [Lib.Hx.rowP]

theorem Bld.kept {B b : Nat} {l : List Value} {w w' : World} (h : Bld B b l w) (k : ∀ i, i < w.heap.size → w'.heap[i]? = w.heap[i]?) : Bld B b l w' := by
  have hb : Lib.IsBuilder 130 5 B b l w := h
  have ho : ∀ v, w.ownsRow B 5 1 v l.length l → w'.ownsRow B 5 1 v l.length l := by
    intro v hv
    refine ⟨hv.1, hv.2.imp id ?_⟩
    rintro ⟨g, cap, cur, e1, e2, e3, e4⟩
    exact ⟨g, cap, cur, e1, e2, (k g (blockLt e3)).trans e3, e4⟩
  rcases hb with ⟨h1, v, h2, h3, h4⟩ | ⟨h1, v, h2, h3, h4⟩
  · exact Or.inl ⟨h1, v, (k b (blockLt h2)).trans h2, ho v h3, h4⟩
  · exact Or.inr ⟨h1, v, (k b (blockLt h2)).trans h2, ho v h3, h4⟩

theorem pair_conv {w : World} {R : Nat} {rs : List Nat} (h : RuneRow w R rs) {i d e : Nat} (hd : rs[i + 1]? = some d) (he : rs[i + 2]? = some e) (h1 : d < 128) (h2 : e < 128) (c : Nat) :
    (convert 153 9 (.slice (some ⟨R, i + 1, none⟩) 2 c)).run Tryz.prog w = .ok (.string (Nm.bs [UInt8.ofNat d, UInt8.ofNat e])) w := by
  have hr := run_convert_runes (P := Tryz.prog) w 153 9 21 ⟨R, i + 1, none⟩ 2 c [(d : Int), (e : Int)] (by simp) Tryz.underlying153 Tryz.underlying21 Tryz.underlying9 (by
    intro j hj
    match j, hj with
    | 0, _ => simpa [Addr.add] using h.cell hd
    | 1, _ => simpa [Addr.add] using h.cell he)
  rw [hr]
  have e1 : runesBytes [(d : Int), (e : Int)] = Nm.bs [UInt8.ofNat d, UInt8.ofNat e] := by
    unfold runesBytes
    simp only [List.foldl_cons, List.foldl_nil, encode_low h1, encode_low h2]
    rfl
  rw [show List.take 2 [(d : Int), (e : Int)] = [(d : Int), (e : Int)] from rfl, e1]

end Go.Proofs.YtjmahgefijncaaaGreatFmt
