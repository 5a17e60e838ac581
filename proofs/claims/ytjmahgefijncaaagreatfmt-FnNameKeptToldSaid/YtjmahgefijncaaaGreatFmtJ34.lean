/- decodeString, whatever it reads: what the plain function says, or an error. -/
import Derived.Test.YtjmahgefijncaaaGreatFmtJ3
import Derived.Test.YtjmahgefijncaaaGreatFmtJ11
import Derived.Test.YtjmahgefijncaaaGreatFmtJ33
import Derived.Test.YtjmahgefijncaaaGreatFmtJ2
import Derived.Laws.Runes
set_option linter.unusedVariables false
set_option linter.unusedSimpArgs false
namespace Go.Proofs.YtjmahgefijncaaaGreatFmt
open Go Go.RowKit Go.Extern.Stop Go.Stop Go.Extern

/-- The round's head: i runes are read, acc is what they say. -/
structure DecInvA (r : Option (List UInt8)) (rs : List Nat) (w : World) (R b : Nat) (i : Nat) (acc : List UInt8) (wr : World) : Prop where
  le : i ≤ rs.length
  rest : r = (Nm.unescape (rs.drop i)).map (acc ++ ·)
  bld : Bld b b (Lib.byteCells acc) wr
  row : RuneRow wr R rs
  bel : Below w.heap.size w wr
  few : acc.length ≤ 4 * i

/-- What decodeString comes to. -/
def DecOut (B : Nat) (r : Option (List UInt8)) (e : Ending) (w' : World) : Prop :=
  match r with
  | some v => e = .returned (.tuple #[.string (Nm.bs v), .nilIface])
  | none => ∃ ev, e = .returned (.tuple #[.string ⟨#[]⟩, ev]) ∧ ErrAt 0 B w' ev
theorem DecOut.err {B B' : Nat} {w' : World} {ev : Value} (h : ErrAt 0 B' w' ev) (hB : B ≤ B') : DecOut B none (.returned (.tuple #[.string ⟨#[]⟩, ev])) w' := ⟨ev, rfl, h.mono hB⟩

theorem enc_size (n : Int) : 1 ≤ (Utf8.encode n).size ∧ (Utf8.encode n).size ≤ 4 := by
  unfold Utf8.encode
  simp only []
  generalize (if Utf8.valid n = true then n.toNat else Utf8.runeError) = c
  split
  · exact ⟨show 1 ≤ 1 by omega, show 1 ≤ 4 by omega⟩
  split
  · exact ⟨show 1 ≤ 2 by omega, show 2 ≤ 4 by omega⟩
  split
  · exact ⟨show 1 ≤ 3 by omega, show 3 ≤ 4 by omega⟩
  · exact ⟨show 1 ≤ 4 by omega, show 4 ≤ 4 by omega⟩
theorem enc_two2 {n : Nat} (h : ¬ n < 128) : 2 ≤ (Utf8.encode (n : Int)).size := by
  have hv : ¬ (if Utf8.valid (n : Int) = true then (n : Int).toNat else Utf8.runeError) < 0x80 := by
    split
    · simpa using h
    · decide
  unfold Utf8.encode
  simp only []
  generalize (if Utf8.valid (n : Int) = true then (n : Int).toNat else Utf8.runeError) = c at *
  rw [if_neg hv]
  split
  · exact show 2 ≤ 2 by omega
  split
  · exact show 2 ≤ 3 by omega
  · exact show 2 ≤ 4 by omega
theorem runes_two (d e : Int) : runesBytes [d, e] = Utf8.encode d ++ Utf8.encode e := by
  unfold runesBytes
  simp only [List.foldl_cons, List.foldl_nil, ByteArray.empty_append]
theorem two_size (d e : Nat) : (runesBytes [(d : Int), (e : Int)]).size ≤ 8 ∧ (¬ (d < 128 ∧ e < 128) → (runesBytes [(d : Int), (e : Int)]).size ≠ 2) := by
  rw [runes_two, ByteArray.size_append]
  have h1 := enc_size (d : Int)
  have h2 := enc_size (e : Int)
  refine ⟨by omega, fun h => ?_⟩
  by_cases hd : d < 128
  · have he := enc_two2 (n := e) (fun he => h ⟨hd, he⟩)
    omega
  · have hd := enc_two2 hd
    omega
theorem runes_conv {w : World} {R : Nat} {rs : List Nat} (h : RuneRow w R rs) {i d e : Nat} (hd : rs[i + 1]? = some d) (he : rs[i + 2]? = some e) (c : Nat) :
    (convert 153 9 (.slice (some ⟨R, i + 1, none⟩) 2 c)).run Tryz.prog w = .ok (.string (runesBytes [(d : Int), (e : Int)])) w := by
  have hr := run_convert_runes (P := Tryz.prog) w 153 9 21 ⟨R, i + 1, none⟩ 2 c [(d : Int), (e : Int)] (by simp) Tryz.underlying153 Tryz.underlying21 Tryz.underlying9 (by
    intro j hj
    match j, hj with
    | 0, _ => simpa [Addr.add] using h.cell hd
    | 1, _ => simpa [Addr.add] using h.cell he)
  exact hr

theorem hx_parse : (FmtText.parse hexFormat).map FmtText.glue = some [.lit [101, 110, 99, 111, 100, 105, 110, 103, 47, 104, 101, 120, 58, 32, 105, 110, 118, 97, 108, 105, 100, 32, 98, 121, 116, 101, 58, 32], .verb { sharp := true } 85] := by rfl
def hexSaid (c : Int) : List UInt8 := [101, 110, 99, 111, 100, 105, 110, 103, 47, 104, 101, 120, 58, 32, 105, 110, 118, 97, 108, 105, 100, 32, 98, 121, 116, 101, 58, 32] ++ FmtText.fmtUnicode { sharp := true } c.toNat
theorem hex_text (c : Int) (h0 : 0 ≤ c) (h1 : c ≤ 255) : FmtText.text "fmt.Sprintf" (hexAsk c) = some (hexSaid c) := by
  have hw : (Lit.int .i32 c).wf = true := by simp [Lit.wf, IntKind.min, IntKind.max, IntKind.signed, IntKind.bits]; omega
  have e : (c % 18446744073709551616).toNat = c.toNat := by omega
  rw [hexAsk, FmtText.text_sprintf_glued hx_parse (FmtText.operands_cons (FmtText.operand_int_at (sh := hx_shape) (k := .i32) rfl rfl c hw) FmtText.operands_nil), e]
  simp [FmtText.render, FmtText.printArg, FmtText.scalarArg, FmtText.fits, hexSaid]
theorem unicode_short : ∀ u : Fin 256, (FmtText.fmtUnicode { sharp := true } u.val).length ≤ 16 := by decide +kernel
/-- The text of the error is short. -/
theorem said_size (F : Interp) (c : Int) (h0 : 0 ≤ c) (h1 : c ≤ 255) : (FmtStop.textOf (F.told "fmt.Sprintf" (hexAsk c) 0)).size ≤ 100 := by
  have hu : (FmtText.fmtUnicode { sharp := true } c.toNat).length ≤ 16 := unicode_short ⟨c.toNat, by omega⟩
  have hin := told_string F (hex_text c h0 h1) (by simp [hexSaid]; omega)
  have hl : (FmtStop.textOf (F.told "fmt.Sprintf" (hexAsk c) 0)).data.toList = hexSaid c := by rw [Go.Kit.textOf_list, hin]
  have : (FmtStop.textOf (F.told "fmt.Sprintf" (hexAsk c) 0)).data.toList.length ≤ 100 := by rw [hl]; simp [hexSaid]; omega
  rw [Array.length_toList] at this
  exact this
theorem hex_none : ∀ d, d < 128 → Nm.hexDigit d = none → 15 < Lib.Hx.v (UInt8.ofNat d) := by decide +kernel
/-- hex.Decode of two characters that are not both digits. -/
theorem hex_nopair {w : World} {S D c1 c2 d e : Nat} (hd : d < 128) (he : e < 128) (h : Nm.hexDigit d = none ∨ Nm.hexDigit e = none) (hS0 : w.cell? ⟨S, 0, none⟩ = some (.int .u8 (d : Int))) (hS1 : w.cell? ⟨S, 1, none⟩ = some (.int .u8 (e : Int)))
    (hD : w.heap[D]? = some (.cells #[.int .u8 0] 5 (0, 0))) (hne : D ≠ S) (ev : Value) (hE : w.cell? ⟨1, 0, none⟩ = some ev) (hg : 1 ≠ D) :
    Calls Tryz.prog 96 #[.slice (some ⟨D, 0, none⟩) 1 c1, .slice (some ⟨S, 0, none⟩) 2 c2] w fun e' w' => (∃ c : UInt8, e' = .returned (.tuple #[.int .i64 0, .iface 178 (.int .u8 (c.toNat : Int))])) ∧ w.grownBy w' (some D) := by
  have hz : ∀ i : Nat, i < 1 → (#[Value.int .u8 0] : Array Value)[i]? = some (.int .u8 0) := by
    intro i hi
    match i, hi with
    | 0, _ => rfl
  have hrow : w.rowIs D 5 1 (fun _ => .int .u8 0) := ⟨_, hD, rfl, hz⟩
  have hb : Lib.bytesOf [(d : Int), (e : Int)] = [UInt8.ofNat d, UInt8.ofNat e] := by simp [Lib.bytesOf]
  have h2 := Tryz.hex_Decode D 0 1 c1 1 (fun _ => .int .u8 0) S 0 2 c2 [(d : Int), (e : Int)] w ev rfl (by
    intro i hi
    match i, hi with
    | 0, _ => simp; omega
    | 1, _ => simp; omega) (by
    intro i hi
    match i, hi with
    | 0, _ => simpa using hS0
    | 1, _ => simpa using hS1) hrow (by omega) (by omega) hne (by omega) hE hg
  have hdec : ∃ c, Lib.Hx.decode [UInt8.ofNat d, UInt8.ofNat e] = ([], .bad c) := by
    rw [Lib.Hx.decode_two]
    by_cases h1 : 15 < Lib.Hx.v (UInt8.ofNat d)
    · exact ⟨_, by rw [if_pos h1]⟩
    · rcases h with h | h
      · exact absurd (hex_none d hd h) h1
      · exact ⟨_, by rw [if_neg h1, if_pos (hex_none e he h)]⟩
  obtain ⟨c, hdec⟩ := hdec
  rw [hb, hdec] at h2
  exact h2.mono fun e' w' ⟨r1, _, r3⟩ => ⟨⟨c, r1⟩, r3⟩

set_option maxRecDepth 100000 in
set_option maxHeartbeats 16000000 in
theorem dec_any (F : Interp) (l : List UInt8) (hl : l.length < 100000000) (w : World) (hF : F.told.answers w.tape) (ev : Value) (hE : w.cell? ⟨1, 0, none⟩ = some ev) :
    Calls Tryz.prog 85 #[.string (Nm.bs l)] w fun e w' => DecOut w.heap.size (Nm.decode l) e w' ∧ Below w.heap.size w w' := by
  have hst := strip_any l (by omega) w
  have hsl : (Nm.strip l).length ≤ l.length + 1 := by
    have h1 := trimL_le l
    have h2 := trimR_le (Nm.trimL l)
    unfold Nm.strip
    split
    · rw [List.length_append]; simp; omega
    · omega
  unfold Nm.decode
  have HST := Lib.hid hst
  generalize Nm.strip l = t at hsl HST ⊢
  clear hst
  obtain ⟨r, hr⟩ : ∃ r, r = Nm.unescape (Nm.runes (Nm.bs t) t.length 0) := ⟨_, rfl⟩
  rw [← hr]
  have HRR := Lib.hid hr
  clear hr
  go_enter Tryz.func85, Tryz.ntmps85
  go_wp2_with fail
  refine HST.out.mono ?_
  rintro e w1 ⟨rfl, hb⟩
  obtain ⟨W, cap, hconv, hrow, hbW, hszW, hcap⟩ := to_runes t (by omega) w1
  have hsz1 := hb.size
  have HB := Lib.hid (hb.trans (hbW.mono hb.size))
  have HROW := Lib.hid hrow
  have hlow : w1.heap.size < W.heap.size := by omega
  clear hb hbW hrow hszW
  have hrl := runes_len (Nm.bs t) t.length 0
  have hrs := runes_small (Nm.bs t) t.length 0
  generalize Nm.runes (Nm.bs t) t.length 0 = rs at *
  go_wp2_with fail
  go_loopw [6] (fun t6 wr => ∃ (i : Nat) (acc : List UInt8), t6 = .int .i64 i ∧ Hid (DecInvA r rs w w1.heap.size W.heap.size i acc wr)) (fun t6 _ => rs.length - (intOf t6).toNat)
  case atStart =>
    refine ⟨0, [], rfl, Lib.hid ⟨Nat.zero_le _, by rw [List.drop_zero, HRR.out]; simp, ?_, ?_, ?_, Nat.le_refl _⟩⟩
    · exact Lib.fresh_isBuilder 130 5 W
    · exact HROW.out.stays (Below.heap_alloc _ _ _ HROW.out.lt)
    · exact HB.out.alloc (by omega) _
  case round =>
    obtain ⟨i, acc, rfl, HI⟩ := hrel
    have hlt := HI.out.bld.lt
    have hle := HI.out.le
    have hsz2 := HI.out.bel.size
    have hfew := HI.out.few
    by_cases hend : i = rs.length
    · have t1 : decide ((i : Int) < (rs.length : Int)) = false := by simp; omega
      have hacc : r = some acc := by
        rw [HI.out.rest, hend, List.drop_length]
        show some (acc ++ []) = some acc
        rw [List.append_nil]
      have HACC := Lib.hid hacc
      clear hacc
      have hS := Tryz.Builder_String_any W.heap.size W.heap.size acc wr HI.out.bld (by omega)
      have HS := Lib.hid hS
      clear hS
      go_wp2_with fail
      refine HS.out.mono ?_
      rintro e w2 ⟨rfl, hb⟩
      have HB2 := Lib.hid (HI.out.bel.trans (hb.mono (by omega)))
      clear hb
      go_wp2_with fail
      go_ret2
      exact ⟨by rw [HACC.out]; rfl, HB2.out⟩
    · have hi : i < rs.length := by omega
      have t1 : decide ((i : Int) < (rs.length : Int)) = true := by simp; omega
      obtain ⟨c, hc⟩ : ∃ c, rs[i]? = some c := ⟨_, List.getElem?_eq_getElem hi⟩
      have hcc := HI.out.row.cell hc
      have hcs : c ≤ 2147483647 := hrs c (List.mem_of_getElem? hc)
      have hdrop : rs.drop i = c :: rs.drop (i + 1) := by
        rw [List.drop_eq_getElem_cons hi]
        rw [List.getElem?_eq_getElem hi] at hc
        rw [Option.some.inj hc]
      by_cases h92 : c = 92
      · have t2 : ((c : Int) != 92) = false := by rw [h92]; rfl
        by_cases hi1 : i + 1 < rs.length
        case neg =>
          have hnone : r = none := by
            rw [HI.out.rest, hdrop, List.drop_of_length_le (by omega), h92]
            simp [Nm.unescape]
          have HN := Lib.hid hnone
          have t3 : decide ((i : Int) + 1 ≥ (rs.length : Int)) = true := by simp; omega
          clear hnone hdrop
          go_wp2_with fail
          refine (new_err _ (by decide) (by decide) 0 _).mono ?_
          rintro e w2 ⟨er, rfl, her, hbe⟩
          obtain ⟨ae, rfl⟩ := her.iface
          have HER := Lib.hid (And.intro (her.mono (show w.heap.size ≤ _ by omega)) (HI.out.bel.trans (hbe.mono hsz2)))
          clear her hbe
          go_wp2_with fail
          go_ret2
          exact ⟨by rw [HN.out]; exact ⟨_, rfl, HER.out.1⟩, HER.out.2⟩
        obtain ⟨d, hd⟩ : ∃ d, rs[i + 1]? = some d := ⟨_, List.getElem?_eq_getElem hi1⟩
        have hdc := HI.out.row.cell hd
        have hds : d ≤ 2147483647 := hrs d (List.mem_of_getElem? hd)
        have hdrop2 : rs.drop (i + 1) = d :: rs.drop (i + 2) := by
          rw [List.drop_eq_getElem_cons hi1]
          rw [List.getElem?_eq_getElem hi1] at hd
          rw [Option.some.inj hd]
        have t3 : decide ((i : Int) + 1 ≥ (rs.length : Int)) = false := by simp; omega
        by_cases hsp : Nm.special d = true
        · have hrest : r = (Nm.unescape (rs.drop (i + 2))).map ((acc ++ Lib.encodeRune d) ++ ·) := by
            rw [HI.out.rest, hdrop, hdrop2, h92]
            conv => lhs; unfold Nm.unescape
            rw [if_pos rfl]
            simp only [hsp, if_true, Option.map_map]
            congr 1
            funext u
            simp
          have hW := rune_bld W.heap.size W.heap.size (Lib.byteCells acc) d (by omega) (by omega) wr HI.out.bld (by rw [Lib.byteCells_length]; omega) (by omega)
          have HU := Lib.hid hrest
          have hnext : ∀ w2, Bld W.heap.size W.heap.size (Lib.byteCells acc ++ Lib.runeCells d) w2 → Below W.heap.size wr w2 → DecInvA r rs w w1.heap.size W.heap.size (i + 2) (acc ++ Lib.encodeRune d) w2 := by
            intro w2 hb2 hbel
            refine ⟨hi1, HU.out, by rw [Lib.byteCells_append, Lib.byteCells_encodeRune]; exact hb2, HI.out.row.stays (hbel.block _ (by omega)), HI.out.bel.trans (hbel.mono (by omega)), ?_⟩
            have h4 := Lib.runeCells_le (d : Int)
            rw [Lib.runeCells_length] at h4
            rw [List.length_append]; omega
          have HW := Lib.hid hW
          have HN := Lib.hid hnext
          have hsp' : d = 32 ∨ d = 34 ∨ d = 35 ∨ d = 43 ∨ d = 44 ∨ d = 59 ∨ d = 60 ∨ d = 61 ∨ d = 62 ∨ d = 92 := by
            simp only [Nm.special, Bool.or_eq_true, beq_iff_eq] at hsp
            omega
          clear hW hrest hdrop hdrop2 hnext hsp h92 hds hd
          rcases hsp' with rfl | rfl | rfl | rfl | rfl | rfl | rfl | rfl | rfl | rfl
          all_goals
            go_wp2_with fail
            refine HW.out.mono ?_
            rintro e w2 ⟨⟨n, rfl⟩, hb2, hbel⟩
            have HNN := Lib.hid (HN.out w2 hb2 hbel)
            clear hb2 hbel
            go_wp2_with fail
            exact ⟨⟨i + 2, _, by go_num, HNN⟩, by simp [intOf]; omega⟩
        · have hnr : Nm.special d = false := by simpa using hsp
          simp only [Nm.special, Bool.or_eq_false_iff, beq_eq_false_iff_ne] at hnr
          obtain ⟨⟨⟨⟨⟨⟨⟨⟨⟨n1, n2⟩, n3⟩, n4⟩, n5⟩, n6⟩, n7⟩, n8⟩, n9⟩, n0⟩ := hnr
          have q1 : ((d : Int) == 32) = false := by rw [beq_eq_false_iff_ne]; omega
          have q2 : ((d : Int) == 34) = false := by rw [beq_eq_false_iff_ne]; omega
          have q3 : ((d : Int) == 35) = false := by rw [beq_eq_false_iff_ne]; omega
          have q4 : ((d : Int) == 43) = false := by rw [beq_eq_false_iff_ne]; omega
          have q5 : ((d : Int) == 44) = false := by rw [beq_eq_false_iff_ne]; omega
          have q6 : ((d : Int) == 59) = false := by rw [beq_eq_false_iff_ne]; omega
          have q7 : ((d : Int) == 60) = false := by rw [beq_eq_false_iff_ne]; omega
          have q8 : ((d : Int) == 61) = false := by rw [beq_eq_false_iff_ne]; omega
          have q9 : ((d : Int) == 62) = false := by rw [beq_eq_false_iff_ne]; omega
          have q0 : ((d : Int) == 92) = false := by rw [beq_eq_false_iff_ne]; omega
          clear n1 n2 n3 n4 n5 n6 n7 n8 n9 n0
          by_cases hi2 : i + 2 < rs.length
          case neg =>
            have hnone : r = none := by
              rw [HI.out.rest, hdrop, hdrop2, List.drop_of_length_le (by omega), h92]
              conv => lhs; rw [Nm.unescape]
              simp [hsp]
            have HN := Lib.hid hnone
            have t4 : decide ((i : Int) + 2 ≥ (rs.length : Int)) = true := by simp; omega
            have hes := enc_size (d : Int)
            have hcv : ∀ w2 : World, (convert 21 9 (.int .i32 (d : Int))).run Tryz.prog w2 = .ok (.string (Utf8.encode (d : Int))) w2 := fun w2 => run_convert_int_string w2 21 9 .i32 (d : Int) (by rw [Tryz.underlying21]; rfl) Tryz.underlying9
            obtain ⟨u, hu⟩ : ∃ u : List UInt8, Utf8.encode (d : Int) = Nm.bs u := ⟨(Utf8.encode (d : Int)).data.toList, (by apply ByteArray.ext; simp [Nm.bs])⟩
            rw [hu] at hcv hes
            have zu := bs_size u
            rw [zu] at hes
            have HES := Lib.hid hes
            have o1 : ¬ 9223372036854775807 < 64 + u.length := by omega
            clear hnone hdrop hdrop2 hsp h92 hds hd hu hes
            go_wp2_with fail
            refine (new_err _ (by rw [ByteArray.size_append]; exact Nat.lt_of_lt_of_le (by decide) (Nat.le_add_right _ _)) (by rw [ByteArray.size_append, zu]; exact Nat.lt_of_le_of_lt (Nat.add_le_add_left HES.out.2 _) (by decide)) 0 _).mono ?_
            rintro e w2 ⟨er, rfl, her, hbe⟩
            obtain ⟨ae, rfl⟩ := her.iface
            have HER := Lib.hid (And.intro (her.mono (show w.heap.size ≤ _ by omega)) (HI.out.bel.trans (hbe.mono hsz2)))
            clear her hbe
            go_wp2_with fail
            go_ret2
            exact ⟨by rw [HN.out]; exact ⟨_, rfl, HER.out.1⟩, HER.out.2⟩
          obtain ⟨e, he⟩ : ∃ e, rs[i + 2]? = some e := ⟨_, List.getElem?_eq_getElem hi2⟩
          have hec := HI.out.row.cell he
          have t4 : decide ((i : Int) + 2 ≥ (rs.length : Int)) = false := by simp; omega
          have hes : e ≤ 2147483647 := hrs e (List.mem_of_getElem? he)
          have hdrop3 : rs.drop (i + 2) = e :: rs.drop (i + 3) := by
            rw [List.drop_eq_getElem_cons hi2]
            rw [List.getElem?_eq_getElem hi2] at he
            rw [Option.some.inj he]
          by_cases has : d < 128 ∧ e < 128
          case neg =>
            have hnone : r = none := by
              rw [HI.out.rest, hdrop, hdrop2, hdrop3, h92]
              conv => lhs; rw [Nm.unescape]
              cases hx : Nm.hexDigit d with
              | none => simp [hsp, hx]
              | some x =>
                cases hy : Nm.hexDigit e with
                | none => simp [hsp, hx, hy]
                | some y => exact absurd ⟨(hex_of hx).2.2, (hex_of hy).2.2⟩ has
            have HN := Lib.hid hnone
            obtain ⟨z1, z2⟩ := two_size d e
            have z3 := z2 has
            have hcv := fun c => runes_conv HI.out.row hd he c
            obtain ⟨u, hu⟩ : ∃ u : List UInt8, runesBytes [(d : Int), (e : Int)] = Nm.bs u := ⟨(runesBytes [(d : Int), (e : Int)]).data.toList, (by apply ByteArray.ext; simp [Nm.bs])⟩
            rw [hu] at hcv z1 z3
            have zu := bs_size u
            rw [zu] at z1 z3
            have hcb := conv_bytes wr (Nm.bs u)
            rw [zu] at hcb
            have hback := fun c => (BRow.made wr u).text c
            have hbelw := Lib.bytesWorld_below wr 5 (Nm.bs u)
            have t5 : ((u.length : Int) != 2) = true := by rw [bne_iff_ne]; omega
            generalize Lib.bytesWorld wr 5 (Nm.bs u) = BW at *
            have HBW := Lib.hid (HI.out.bel.trans (hbelw.mono hsz2))
            have hbz := HBW.out.size
            clear hnone hdrop hdrop2 hdrop3 hsp h92 hds hd z2 hu hbelw hes he hrs has
            go_wp2_with fail
            refine (new_err _ (by rw [ByteArray.size_append]; exact Nat.lt_of_lt_of_le (by decide) (Nat.le_add_right _ _)) (by rw [ByteArray.size_append, zu]; exact Nat.lt_of_le_of_lt (Nat.add_le_add_left z1 _) (by decide)) 0 _).mono ?_
            rintro e w2 ⟨er, rfl, her, hbe⟩
            obtain ⟨ae, rfl⟩ := her.iface
            have HER := Lib.hid (And.intro (her.mono (show w.heap.size ≤ _ by omega)) (HBW.out.trans (hbe.mono hbz)))
            clear her hbe
            go_wp2_with fail
            go_ret2
            exact ⟨by rw [HN.out]; exact ⟨_, rfl, HER.out.1⟩, HER.out.2⟩
          by_cases hbad : Nm.hexDigit d = none ∨ Nm.hexDigit e = none
          case pos =>
            have hnone : r = none := by
              rw [HI.out.rest, hdrop, hdrop2, hdrop3, h92]
              conv => lhs; rw [Nm.unescape]
              cases hx : Nm.hexDigit d with
              | none => simp [hsp, hx]
              | some x =>
                cases hy : Nm.hexDigit e with
                | none => simp [hsp, hx, hy]
                | some y => rw [hx, hy] at hbad; rcases hbad with h | h <;> cases h
            have HN := Lib.hid hnone
            obtain ⟨x3, y3⟩ := has
            have hcv := fun c => pair_conv HI.out.row hd he x3 y3 c
            have hcb := conv_bytes wr (Nm.bs [UInt8.ofNat d, UInt8.ofNat e])
            have hbsz := bs_size [UInt8.ofNat d, UInt8.ofNat e]
            rw [hbsz] at hcb
            clear hnone hdrop hdrop2 hdrop3 hsp h92 hds hd hrs he
            have hBs := Lib.bytesWorld_size wr 5 (Nm.bs [UInt8.ofNat d, UInt8.ofNat e])
            have hb0 := Lib.bytesWorld_cell wr 5 (Nm.bs [UInt8.ofNat d, UInt8.ofNat e]) 0 (by rw [hbsz]; simp)
            have hb1 := Lib.bytesWorld_cell wr 5 (Nm.bs [UInt8.ofNat d, UInt8.ofNat e]) 1 (by rw [hbsz]; simp)
            have hold := fun j hj => Lib.bytesWorld_at_old wr 5 (Nm.bs [UInt8.ofNat d, UInt8.ofNat e]) j hj
            have ed : (UInt8.ofNat d).toNat = d := by simp; omega
            have ee : (UInt8.ofNat e).toNat = e := by simp; omega
            have hb0' : (Lib.bytesWorld wr 5 (Nm.bs [UInt8.ofNat d, UInt8.ofNat e])).cell? ⟨wr.heap.size, 0, none⟩ = some (.int .u8 (d : Int)) := hb0.trans (by
              show some (Value.int .u8 ((UInt8.ofNat d).toNat : Int)) = _
              rw [ed])
            have hb1' : (Lib.bytesWorld wr 5 (Nm.bs [UInt8.ofNat d, UInt8.ofNat e])).cell? ⟨wr.heap.size, 1, none⟩ = some (.int .u8 (e : Int)) := hb1.trans (by
              show some (Value.int .u8 ((UInt8.ofNat e).toNat : Int)) = _
              rw [ee])
            clear hb0 hb1 ed ee
            have hbelw := Lib.bytesWorld_below wr 5 (Nm.bs [UInt8.ofNat d, UInt8.ofNat e])
            generalize hBW : Lib.bytesWorld wr 5 (Nm.bs [UInt8.ofNat d, UInt8.ofNat e]) = BW at *
            have hgl : 1 < w.heap.size := World.block_lt_of_cell? w ⟨1, 0, none⟩ hE
            have hEw : (BW.alloc (.cells #[.int .u8 0] 5)).cell? ⟨1, 0, none⟩ = some ev :=
              (World.cell?_of_block (w := w) (show (BW.alloc (.cells #[.int .u8 0] 5)).heap[1]? = w.heap[1]? by rw [Below.heap_alloc _ _ _ (by omega), hold _ (by omega)]; exact HI.out.bel.block _ hgl)).trans hE
            have hblkS : (BW.alloc (.cells #[.int .u8 0] 5)).heap[wr.heap.size]? = BW.heap[wr.heap.size]? := Below.heap_alloc _ _ _ (by omega)
            have hHX := hex_nopair (w := BW.alloc (.cells #[.int .u8 0] 5)) (S := wr.heap.size) (D := BW.heap.size) (c1 := 1) (c2 := grownCap wr 2 0 5) x3 y3 hbad
              ((World.cell?_of_block (w := BW) hblkS).trans hb0') ((World.cell?_of_block (w := BW) hblkS).trans hb1') (heap_alloc_new BW _) (by omega) ev hEw (by omega)
            have HHX := Lib.hid hHX
            have HBEL := Lib.hid hbelw
            have HBS := Lib.hid hBs
            have HFF : Hid (∀ w2 : World, Below w.heap.size w w2 → F.told.answers w2.tape) := Lib.hid (fun w2 h => by rw [h.tape]; exact hF)
            clear hbelw hHX hold hBs hb0' hb1' hEw hBW hblkS hbad hF
            go_wp2_with fail
            refine HHX.out.mono ?_
            rintro e' w2 ⟨⟨c, rfl⟩, hgr⟩
            have hBs := HBS.out
            have hbel2 : Below wr.heap.size wr w2 := (HBEL.out.alloc (by omega) (.cells #[.int .u8 0] 5)).grown hgr (by rw [World.size_alloc]; omega) (fun k hk => by have := Option.some.inj hk; omega)
            have HB2 := Lib.hid (HI.out.bel.trans (hbel2.mono hsz2))
            have hz2 := HB2.out.size
            clear hbel2 hgr hBs
            have hcl := UInt8.toNat_lt c
            have HX := Lib.hid (hex_error F.told (c.toNat : Int) w2 (HFF.out w2 HB2.out) (by omega) (by omega))
            have hss := said_size F (c.toNat : Int) (by omega) (by omega)
            obtain ⟨u, hu⟩ : ∃ u : List UInt8, FmtStop.textOf (F.told "fmt.Sprintf" (hexAsk (c.toNat : Int)) 0) = Nm.bs u := ⟨(FmtStop.textOf (F.told "fmt.Sprintf" (hexAsk (c.toNat : Int)) 0)).data.toList, (by apply ByteArray.ext; simp [Nm.bs])⟩
            rw [hu] at HX hss
            have zu := bs_size u
            rw [zu] at hss
            have HSS := Lib.hid hss
            have o1 : ¬ 9223372036854775807 < 36 + u.length := by omega
            clear hu hss
            go_wp2_with fail
            refine HX.out.mono ?_
            rintro e' w3 ⟨rfl, hw3⟩
            have hb3 : Below w2.heap.size w2 w3 := by rw [hw3]; exact ((Below.refl _ w2).alloc (Nat.le_refl _) _).drew
            have HB3 := Lib.hid (HB2.out.trans (hb3.mono hz2))
            have hz3 := HB3.out.size
            clear hb3 hw3
            go_wp2_with fail
            refine (new_err _ (by rw [ByteArray.size_append]; exact Nat.lt_of_lt_of_le (by decide) (Nat.le_add_right _ _)) (by rw [ByteArray.size_append, zu]; exact Nat.lt_of_le_of_lt (Nat.add_le_add_left HSS.out _) (by decide)) 0 _).mono ?_
            rintro e w4 ⟨er, rfl, her, hbe⟩
            obtain ⟨ae, rfl⟩ := her.iface
            have HER := Lib.hid (And.intro (her.mono (show w.heap.size ≤ _ by omega)) (HB3.out.trans (hbe.mono hz3)))
            clear her hbe
            go_wp2_with fail
            go_ret2
            exact ⟨by rw [HN.out]; exact ⟨_, rfl, HER.out.1⟩, HER.out.2⟩
          obtain ⟨x, hx⟩ : ∃ x, Nm.hexDigit d = some x := by
            cases hx : Nm.hexDigit d with
            | none => exact absurd (Or.inl hx) hbad
            | some x => exact ⟨x, rfl⟩
          obtain ⟨y, hy⟩ : ∃ y, Nm.hexDigit e = some y := by
            cases hy : Nm.hexDigit e with
            | none => exact absurd (Or.inr hy) hbad
            | some y => exact ⟨y, rfl⟩
          have hrest : r = (Nm.unescape (rs.drop (i + 3))).map ((acc ++ [UInt8.ofNat (x * 16 + y)]) ++ ·) := by
            rw [HI.out.rest, hdrop, hdrop2, hdrop3, h92]
            conv => lhs; rw [Nm.unescape]
            simp only [if_true, hsp, Bool.false_eq_true, if_false, hx, hy, Option.map_map]
            congr 1
            funext u
            simp
          obtain ⟨x1, x2, x3⟩ := hex_of hx
          obtain ⟨y1, y2, y3⟩ := hex_of hy
          have hcv := fun c => pair_conv HI.out.row hd he x3 y3 c
          have hcb := conv_bytes wr (Nm.bs [UInt8.ofNat d, UInt8.ofNat e])
          have hbsz := bs_size [UInt8.ofNat d, UInt8.ofNat e]
          rw [hbsz] at hcb
          have HU := Lib.hid hrest
          have HX := Lib.hid hx
          have HY := Lib.hid hy
          clear hrest hdrop hdrop2 hdrop3 hsp h92 hds hd hx hy hrs he
          have hBs := Lib.bytesWorld_size wr 5 (Nm.bs [UInt8.ofNat d, UInt8.ofNat e])
          have hb0 := Lib.bytesWorld_cell wr 5 (Nm.bs [UInt8.ofNat d, UInt8.ofNat e]) 0 (by rw [hbsz]; simp)
          have hb1 := Lib.bytesWorld_cell wr 5 (Nm.bs [UInt8.ofNat d, UInt8.ofNat e]) 1 (by rw [hbsz]; simp)
          have hold := fun j hj => Lib.bytesWorld_at_old wr 5 (Nm.bs [UInt8.ofNat d, UInt8.ofNat e]) j hj
          have ed : (UInt8.ofNat d).toNat = d := by simp; omega
          have ee : (UInt8.ofNat e).toNat = e := by simp; omega
          have hb0' : (Lib.bytesWorld wr 5 (Nm.bs [UInt8.ofNat d, UInt8.ofNat e])).cell? ⟨wr.heap.size, 0, none⟩ = some (.int .u8 (d : Int)) := hb0.trans (by
            show some (Value.int .u8 ((UInt8.ofNat d).toNat : Int)) = _
            rw [ed])
          have hb1' : (Lib.bytesWorld wr 5 (Nm.bs [UInt8.ofNat d, UInt8.ofNat e])).cell? ⟨wr.heap.size, 1, none⟩ = some (.int .u8 (e : Int)) := hb1.trans (by
            show some (Value.int .u8 ((UInt8.ofNat e).toNat : Int)) = _
            rw [ee])
          clear hb0 hb1 ed ee
          have hbelw := Lib.bytesWorld_below wr 5 (Nm.bs [UInt8.ofNat d, UInt8.ofNat e])
          generalize hBW : Lib.bytesWorld wr 5 (Nm.bs [UInt8.ofNat d, UInt8.ofNat e]) = BW at *
          have hgl : 1 < w.heap.size := World.block_lt_of_cell? w ⟨1, 0, none⟩ hE
          have hEw : (BW.alloc (.cells #[.int .u8 0] 5)).cell? ⟨1, 0, none⟩ = some ev :=
            (World.cell?_of_block (w := w) (show (BW.alloc (.cells #[.int .u8 0] 5)).heap[1]? = w.heap[1]? by rw [Below.heap_alloc _ _ _ (by omega), hold _ (by omega)]; exact HI.out.bel.block _ hgl)).trans hE
          have hblkS : (BW.alloc (.cells #[.int .u8 0] 5)).heap[wr.heap.size]? = BW.heap[wr.heap.size]? := Below.heap_alloc _ _ _ (by omega)
          have hHX := hex_pair (w := BW.alloc (.cells #[.int .u8 0] 5)) (S := wr.heap.size) (D := BW.heap.size) (c1 := 1) (c2 := grownCap wr 2 0 5) HX.out HY.out
            ((World.cell?_of_block (w := BW) hblkS).trans hb0') ((World.cell?_of_block (w := BW) hblkS).trans hb1') (heap_alloc_new BW _) (by omega) ev hEw (by omega)
          have HHX := Lib.hid hHX
          have HOLD := Lib.hid hold
          have HBS := Lib.hid hBs
          have HBEL := Lib.hid hbelw
          clear hbelw
          clear hHX hold hBs hb0' hb1' hEw hBW hblkS
          go_wp2_with fail
          refine HHX.out.mono ?_
          rintro e' w2 ⟨rfl, hcell, hgr⟩
          have hBs := HBS.out
          have hkept : ∀ k, k < wr.heap.size → w2.heap[k]? = wr.heap[k]? := fun k hk => by
            rw [hgr.block k (by rw [World.size_alloc]; omega) (by intro h; have := Option.some.inj h; omega), Below.heap_alloc _ _ _ (by omega), HOLD.out k hk]
          have hsz3 : wr.heap.size ≤ w2.heap.size := by have := hgr.size; rw [World.size_alloc] at this; omega
          have hbel2 : Below wr.heap.size wr w2 := (HBEL.out.alloc (by omega) (.cells #[.int .u8 0] 5)).grown hgr (by rw [World.size_alloc]; omega) (fun k hk => by have := Option.some.inj hk; omega)
          have hW := byte_bld W.heap.size W.heap.size (Lib.byteCells acc) ((UInt8.ofNat (x * 16 + y)).toNat : Int) w2 (HI.out.bld.kept hkept) (by rw [Lib.byteCells_length]; omega) (by omega)
          have HW := Lib.hid hW
          have HK := Lib.hid hbel2
          clear hW hkept hbel2 hgr hBs
          go_wp2_with fail
          refine HW.out.mono ?_
          rintro e' w3 ⟨rfl, hb3, hbel⟩
          have hnext : DecInvA r rs w w1.heap.size W.heap.size (i + 3) (acc ++ [UInt8.ofNat (x * 16 + y)]) w3 := by
            have hwr : Below W.heap.size wr w3 := (HK.out.mono (by omega)).trans hbel
            refine ⟨hi2, HU.out, by rw [Lib.byteCells_append]; exact hb3, HI.out.row.stays (hwr.block _ (by omega)), HI.out.bel.trans (hwr.mono (by omega)), ?_⟩
            rw [List.length_append]; simp; omega
          have HN := Lib.hid hnext
          clear hnext hb3 hbel
          go_wp2_with fail
          exact ⟨⟨i + 3, _, by go_num, HN⟩, by simp [intOf]; omega⟩
      · have t2 : ((c : Int) != 92) = true := by rw [bne_iff_ne]; omega
        by_cases hrf : Nm.refused c = true
        case pos =>
          have hnone : r = none := by
            rw [HI.out.rest, hdrop]
            unfold Nm.unescape
            rw [if_neg h92, if_pos hrf]; rfl
          have HN := Lib.hid hnone
          have hrf' : c = 34 ∨ c = 59 ∨ c = 60 ∨ c = 62 ∨ c = 0 := by
            simp only [Nm.refused, Bool.or_eq_true, beq_iff_eq] at hrf
            omega
          clear hnone hdrop hrf h92 hcs hc
          rcases hrf' with rfl | rfl | rfl | rfl | rfl
          all_goals
            go_wp2_with fail
            refine (new_err _ (by decide) (by decide) 0 _).mono ?_
            rintro e w2 ⟨er, rfl, her, hbe⟩
            obtain ⟨ae, rfl⟩ := her.iface
            have HER := Lib.hid (And.intro (her.mono (show w.heap.size ≤ _ by omega)) (HI.out.bel.trans (hbe.mono hsz2)))
            clear her hbe
            go_wp2_with fail
            go_ret2
            exact ⟨by rw [HN.out]; exact ⟨_, rfl, HER.out.1⟩, HER.out.2⟩
        have hnr : Nm.refused c = false := by simpa using hrf
        have hrest : r = (Nm.unescape (rs.drop (i + 1))).map ((acc ++ Lib.encodeRune c) ++ ·) := by
          rw [HI.out.rest, hdrop]
          conv => lhs; unfold Nm.unescape
          rw [if_neg h92, hnr]
          simp only [Bool.false_eq_true, if_false, Option.map_map]
          congr 1
          funext u
          simp
        simp only [Nm.refused, Bool.or_eq_false_iff, beq_eq_false_iff_ne] at hnr
        obtain ⟨⟨⟨⟨n1, n2⟩, n3⟩, n4⟩, n5⟩ := hnr
        have q1 : ((c : Int) == 34) = false := by rw [beq_eq_false_iff_ne]; omega
        have q2 : ((c : Int) == 59) = false := by rw [beq_eq_false_iff_ne]; omega
        have q3 : ((c : Int) == 60) = false := by rw [beq_eq_false_iff_ne]; omega
        have q4 : ((c : Int) == 62) = false := by rw [beq_eq_false_iff_ne]; omega
        have q5 : ((c : Int) == 0) = false := by rw [beq_eq_false_iff_ne]; omega
        have hW := rune_bld W.heap.size W.heap.size (Lib.byteCells acc) c (by omega) (by omega) wr HI.out.bld (by rw [Lib.byteCells_length]; omega) (by omega)
        have HW := Lib.hid hW
        have HU := Lib.hid hrest
        clear hW hrest n1 n2 n3 n4 n5 hdrop hrf
        go_wp2_with fail
        refine HW.out.mono ?_
        rintro e w2 ⟨⟨n, rfl⟩, hb2, hbel⟩
        have hnext : DecInvA r rs w w1.heap.size W.heap.size (i + 1) (acc ++ Lib.encodeRune c) w2 := by
          refine ⟨hi, HU.out, by rw [Lib.byteCells_append, Lib.byteCells_encodeRune]; exact hb2, HI.out.row.stays (hbel.block _ (by omega)), HI.out.bel.trans (hbel.mono (by omega)), ?_⟩
          have h4 := Lib.runeCells_le (c : Int)
          rw [Lib.runeCells_length] at h4
          rw [List.length_append]; omega
        have HN := Lib.hid hnext
        clear hnext hb2 hbel
        go_wp2_with fail
        exact ⟨⟨i + 1, _, by go_num, HN⟩, by simp [intOf]; omega⟩
end Go.Proofs.YtjmahgefijncaaaGreatFmt

