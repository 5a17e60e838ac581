/- setType, setValue (where no number sign stands ahead), whatever they read. -/
import Derived.Test.YtjmahgefijncaaaGreatFmtJ34
import Derived.Test.YtjmahgefijncaaaGreatFmtJ3
import Derived.Test.YtjmahgefijncaaaGreatFmtJ27
import Derived.Test.YtjmahgefijncaaaGreatFmtJ33
import Derived.Test.YtjmahgefijncaaaGreatFmtJ9
set_option linter.unusedVariables false
set_option linter.unusedSimpArgs false
namespace Go.Proofs.YtjmahgefijncaaaGreatFmt
open Go Go.RowKit Go.Extern.Stop Go.Stop Go.Extern

def FieldOut (w : World) (A : Nat) (x : Option (List UInt8)) (c : List UInt8 → Array Value) (e : Ending) (w' : World) : Prop :=
  match x with
  | some v => e = .returned .nilIface ∧ w'.heap[A]? = some (.cells (c v) 120 (0, 0))
  | none => ∃ ev, e = .returned ev ∧ ErrAt 0 w.heap.size w' ev

/-- What setValue does of value texts: VR: what is set; VE: whether it may be refused; in what the world w0 came to. -/
def ValT (F : Interp) (w0 : World) (VR : List UInt8 → List UInt8 → Prop) (VE : List UInt8 → Prop) : Prop := ∀ (l : List UInt8) (_ : l.length ≤ 900) (w : World) (_ : Below w0.heap.size w0 w) (_ : F.told.answers w.tape) (ev : Value) (_ : w.cell? ⟨1, 0, none⟩ = some ev) (A : Nat) (s0 s1 : Value)
    (_ : w.heap[A]? = some (.cells #[s0, s1] 120 (0, 0))),
    Calls Tryz.prog 70 #[.pointer (some ⟨A, 0, none⟩), .string (Nm.bs l)] w fun e w' => (∃ rv, e = .returned rv ∧ ((rv = .nilIface ∧ ∃ v, VR l v ∧ w'.heap[A]? = some (.cells #[s0, .string (Nm.bs v)] 120 (0, 0))) ∨ (VE l ∧ ErrAt 0 w.heap.size w' rv))) ∧ Keep w.heap.size A w w'

set_option maxRecDepth 100000 in
set_option maxHeartbeats 4000000 in
theorem type_total (F : Interp) (l : List UInt8) (hl : l.length ≤ 900) (w : World) (hF : F.told.answers w.tape) (ev : Value) (hE : w.cell? ⟨1, 0, none⟩ = some ev) (A : Nat) (s0 s1 : Value)
    (hA : w.heap[A]? = some (.cells #[s0, s1] 120 (0, 0))) :
    Calls Tryz.prog 68 #[.pointer (some ⟨A, 0, none⟩), .string (Nm.bs l)] w fun e w' => FieldOut w A (Nm.decode l) (fun v => #[.string (Nm.bs v), s1]) e w' ∧ Keep w.heap.size A w w' := by
  have hC := Lib.hid (dec_any F l (by omega) w hF ev hE)
  have hAlt := blockLt hA
  have HA := Lib.hid hA
  clear hA hE hF
  generalize Nm.decode l = x at *
  cases x with
  | none =>
    go_enter Tryz.func68, Tryz.ntmps68
    go_wp2_with fail
    refine hC.out.mono ?_
    rintro e w1 ⟨⟨ev1, rfl, he⟩, hb⟩
    obtain ⟨a, rfl⟩ := he.iface
    have HE := Lib.hid he
    have HB := Lib.hid (Keep.ofBelow (R := A) hb)
    clear he hb
    go_wp2_with fail
    go_ret
    exact ⟨⟨_, rfl, HE.out⟩, HB.out⟩
  | some v =>
    go_enter Tryz.func68, Tryz.ntmps68
    go_wp2_with fail
    refine hC.out.mono ?_
    rintro e w1 ⟨ho, hb⟩
    obtain rfl : e = _ := ho
    have hA1 := (hb.block A hAlt).trans HA.out
    have c0 : w1.cell? ⟨A, 0, none⟩ = some s0 := blockCell hA1 0
    have f0 := blockFrozen hA1 0
    have hE1 := blockSet hA1 0 (.string (Nm.bs v))
    have hk : Keep w.heap.size A w (w1.setCell ⟨A, 0, none⟩ (.string (Nm.bs v))) := (Keep.ofBelow hb).setCell (p := ⟨A, 0, none⟩) (Or.inr rfl) _
    have HE := Lib.hid (And.intro hE1 hk)
    clear hA1 hE1 hk hb
    go_wp2_with fail
    go_ret
    exact ⟨⟨rfl, by simpa using HE.out.1⟩, HE.out.2⟩

set_option maxRecDepth 100000 in
set_option maxHeartbeats 4000000 in
theorem value_total (F : Interp) (l : List UInt8) (hl : l.length ≤ 900) (h35 : l[0]? ≠ some 35) (w : World) (hF : F.told.answers w.tape) (ev : Value) (hE : w.cell? ⟨1, 0, none⟩ = some ev) (A : Nat) (s0 s1 : Value)
    (hA : w.heap[A]? = some (.cells #[s0, s1] 120 (0, 0))) :
    Calls Tryz.prog 70 #[.pointer (some ⟨A, 0, none⟩), .string (Nm.bs l)] w fun e w' => FieldOut w A (Nm.decode l) (fun v => #[s0, .string (Nm.bs v)]) e w' ∧ Keep w.heap.size A w w' := by
  have hC := Lib.hid (dec_any F l (by omega) w hF ev hE)
  have hAlt := blockLt hA
  have HA := Lib.hid hA
  have hsz := bs_size l
  clear hA hE hF
  have hfirst : l.length = 0 ∨ 0 < l.length ∧ ∃ (h : 0 < (Nm.bs l).size) (b : UInt8), ((Nm.bs l)[0]'h).toNat = b.toNat ∧ ((b.toNat : Int) == 35) = false := by
    rcases Nat.eq_zero_or_pos l.length with h | h
    · exact Or.inl h
    · refine Or.inr ⟨h, by omega, l[0], by rw [bs_get], ?_⟩
      rw [beq_eq_false_iff_ne]
      intro he
      refine h35 ?_
      rw [List.getElem?_eq_getElem h]
      have : (l[0]).toNat = 35 := by omega
      exact congrArg some (UInt8.toNat_inj.1 (by rw [this]; rfl))
  generalize Nm.decode l = x at *
  rcases hfirst with h0 | ⟨h0, hlt, b, hget, hb35⟩
  all_goals
    cases x with
    | none =>
      go_enter Tryz.func70, Tryz.ntmps70
      go_wp2_with fail
      refine hC.out.mono ?_
      rintro e w1 ⟨⟨ev1, rfl, he⟩, hb⟩
      obtain ⟨a, rfl⟩ := he.iface
      have HE := Lib.hid he
      have HB := Lib.hid (Keep.ofBelow (R := A) hb)
      clear he hb
      go_wp2_with fail
      go_ret
      exact ⟨⟨_, rfl, HE.out⟩, HB.out⟩
    | some v =>
      go_enter Tryz.func70, Tryz.ntmps70
      go_wp2_with fail
      refine hC.out.mono ?_
      rintro e w1 ⟨ho, hb⟩
      obtain rfl : e = _ := ho
      have hA1 := (hb.block A hAlt).trans HA.out
      have c1 : w1.cell? ⟨A, 1, none⟩ = some s1 := blockCell hA1 1
      have f1 := blockFrozen hA1 1
      have hE1 := blockSet hA1 1 (.string (Nm.bs v))
      have hk : Keep w.heap.size A w (w1.setCell ⟨A, 1, none⟩ (.string (Nm.bs v))) := (Keep.ofBelow hb).setCell (p := ⟨A, 1, none⟩) (Or.inr rfl) _
      have HE := Lib.hid (And.intro hE1 hk)
      clear hA1 hE1 hk hb
      go_wp2_with fail
      go_ret
      exact ⟨⟨rfl, by simpa using HE.out.1⟩, HE.out.2⟩
end Go.Proofs.YtjmahgefijncaaaGreatFmt

/- decodeEncodedString and setValue, whatever they read. -/
namespace Go.Proofs.YtjmahgefijncaaaGreatFmt
open Go Go.RowKit Go.Extern.Stop Go.Stop Go.Extern

def HashR (t v : List UInt8) : Prop := ∃ l, Lib.Hx.decode t = (l, .ok) ∧ ∃ p, Ber.readR (2 * l.length + 1) 0 l (.ok p []) ∧ v = Ber.body p
def HashE (t : List UInt8) : Prop := (Lib.Hx.decode t).2 ≠ .ok ∨ ∃ l, Lib.Hx.decode t = (l, .ok) ∧ (Ber.readR (2 * l.length + 1) 0 l .err ∨ ∃ p rest, rest ≠ [] ∧ Ber.readR (2 * l.length + 1) 0 l (.ok p rest))
def AnyR (l v : List UInt8) : Prop := if l[0]? = some 35 then HashR (l.drop 1) v else Nm.decode l = some v
def AnyE (l : List UInt8) : Prop := if l[0]? = some 35 then HashE (l.drop 1) else Nm.decode l = none

theorem len_buf (w : World) (R A : Nat) (l : List UInt8) (k : Nat) (h : Rd w R A l k) :
    Calls Tryz.prog 100 #[.pointer (some ⟨R, 0, none⟩)] w fun e w' => e = .returned (.int .i64 ((l.length - k : Nat) : Int)) ∧ Same w w' := by
  by_cases hk : k = l.length
  · subst hk
    rw [Nat.sub_self]
    exact len_end_buf w R A l h
  · have hpos := h.pos
    have hlen := h.len
    obtain ⟨cap, pr, hb⟩ : ∃ (cap : Nat) (pr : Int), w.heap[R]? = some (.cells #[.slice (some ⟨A, 0, none⟩) l.length cap, .int .i64 k, .int .i8 pr] 183 (0, 0)) := by
      rcases h.blk with ⟨cap, pr, _, hb⟩ | ⟨h0, _⟩
      · exact ⟨cap, pr, hb⟩
      · exact absurd h0 (by omega)
    have c0 : w.cell? ⟨R, 0, none⟩ = some (.slice (some ⟨A, 0, none⟩) l.length cap) := blockCell hb 0
    have c1 : w.cell? ⟨R, 1, none⟩ = some (.int .i64 k) := blockCell hb 1
    have e1 : ((l.length - k : Nat) : Int) = (l.length : Int) - (k : Int) := by omega
    have E1 := Lib.hid e1
    clear hb h e1
    go_enter Tryz.func100, Tryz.ntmps100
    go_wp2
    go_quiet (fail)
    go_wp2
    go_ret
    exact ⟨by rw [E1.out]; first | rfl | simp, (Same.refl w).drewN _⟩

/-- hex.DecodeString of any text. -/
theorem hexs_any (t : List UInt8) (ht : t.length < 100000000) (w : World) (ev : Value) (hE : w.cell? ⟨1, 0, none⟩ = some ev) :
    Calls Tryz.prog 97 #[.string (Nm.bs t)] w fun e w' => ∃ cap, e = .returned (.tuple #[.slice (some ⟨w.heap.size, 0, none⟩) (Lib.Hx.decode t).1.length cap, Lib.Hx.errVal 178 ev (Lib.Hx.decode t).2]) ∧ (Lib.Hx.decode t).1.length ≤ cap ∧
      (∀ j v, (Lib.byteCells (Lib.Hx.decode t).1)[j]? = some v → w'.cell? ⟨w.heap.size, j, none⟩ = some v) ∧ w.heap.size < w'.heap.size ∧ Below w.heap.size w w' := by
  have htl : (Nm.bs t).data.toList = t := rfl
  have h := Tryz.hex_DecodeString (Nm.bs t) w ev hE (by rw [bs_size]; omega)
  have hle := Lib.Hx.decode_len t
  rw [htl] at h
  have hsz := bs_size t
  refine h.mono ?_
  rintro e w1 ⟨rfl, hrow, hb⟩
  refine ⟨_, rfl, by rw [hsz]; exact hle, fun j v hj => ?_, hrow.lt, hb⟩
  simp only [Lib.byteCells, List.getElem?_map, Option.map_eq_some_iff] at hj
  obtain ⟨b, hj, rfl⟩ := hj
  obtain ⟨hjl, rfl⟩ := List.getElem?_eq_some_iff.1 hj
  refine (hrow.cell (i := j) (by rw [hsz]; exact Nat.lt_of_lt_of_le hjl hle)).trans ?_
  unfold Lib.Hx.rowP
  rw [if_pos ⟨Nat.zero_le _, by rw [Nat.zero_add]; exact hjl⟩, Nat.sub_zero]
  show some (Value.int .u8 (((Lib.Hx.decode t).1[j]?.getD 0).toNat : Int)) = _
  rw [hj]
  rfl

def EncOut (t : List UInt8) (w : World) (e : Ending) (w' : World) : Prop :=
  ((∃ v, HashR t v ∧ e = .returned (.tuple #[.string (Nm.bs v), .nilIface])) ∨ ∃ ev, HashE t ∧ e = .returned (.tuple #[.string ⟨#[]⟩, ev]) ∧ ErrAt 0 w.heap.size w' ev) ∧ Below w.heap.size w w'

set_option maxRecDepth 100000 in
set_option maxHeartbeats 8000000 in
/-- decodeEncodedString. -/
theorem enc_total (t : List UInt8) (hl : t.length ≤ 900) (w : World) (et : TypeId) (eu : Value) (hE : w.cell? ⟨1, 0, none⟩ = some (.iface et eu)) (hN : EnvT w.heap.size w) :
    Calls Tryz.prog 86 #[.string (Nm.bs t)] w fun e w' => EncOut t w e w' := by
  have hd := hexs_any t (by omega) w _ hE
  have hdl : (Lib.Hx.decode t).1.length ≤ t.length / 2 := Lib.Hx.decode_len t
  obtain ⟨l, st, hls⟩ : ∃ l st, Lib.Hx.decode t = (l, st) := ⟨_, _, rfl⟩
  rw [hls] at hd hdl
  have hl4 : l.length ≤ 480 := by have : l.length ≤ t.length / 2 := hdl; omega
  have HD := Lib.hid hd
  have HENV := Lib.hid hN
  have HLS := Lib.hid hls
  clear hd hE hN hls hdl
  cases st with
  | ok =>
    go_enter Tryz.func86, Tryz.ntmps86
    go_wp2_with fail
    refine HD.out.mono ?_
    rintro e w1 ⟨cap, rfl, hcap, hrow, hA1, hb1⟩
    simp only [Lib.Hx.errVal]
    have hcap : l.length ≤ cap := hcap
    have hs1 := hb1.size
    have HROW := Lib.hid hrow
    have HB1 := Lib.hid hb1
    clear hrow hb1 HD
    go_wp2_with fail
    refine (newbuf_any _ _ _ w1).mono ?_
    rintro e w2 ⟨rfl, hw2⟩
    have hb2 : Below w.heap.size w w2 := by rw [← hw2]; exact HB1.out.alloc hs1 _
    have hs2 : w2.heap.size = w1.heap.size + 1 := by rw [← hw2]; simp
    have hrd : Rd w2 w1.heap.size w.heap.size l 0 := by
      refine ⟨Or.inl ⟨cap, 0, hcap, by rw [← hw2]; exact heap_alloc_new _ _⟩, fun j v hj => ?_, by omega, Nat.zero_le _, by omega⟩
      rw [← hw2]
      exact cell_alloc (HROW.out j v hj) _
    have HR := Lib.hid (Tot.read_packet w.heap.size w2 w1.heap.size w.heap.size l hrd (HENV.out.below hb2 (Nat.le_refl _)) hs1 hl4)
    have HB2 := Lib.hid hb2
    have hlt2 : w1.heap.size < w2.heap.size := by omega
    clear hrd hw2 hb2 hs2 HROW HB1 HENV
    generalize w1.heap.size = R at *
    go_wp2_with fail
    refine HR.out.mono ?_
    rintro e w3 ⟨⟨r, hrr, ho⟩, hk3⟩
    have hb3 : Below w.heap.size w w3 := HB2.out.trans ((hk3.mono (Nat.le_trans hs1 (Nat.le_of_lt hlt2))).toBelow hs1)
    cases r with
    | bad => exact absurd ho id
    | err =>
      obtain ⟨ev1, rfl, he1⟩ := ho
      obtain ⟨a1, rfl⟩ := he1.iface
      have HB3 := Lib.hid hb3
      have HRR := Lib.hid hrr
      clear he1 hk3 hb3 hrr HR HB2
      go_wp2_with fail
      refine (new_err _ (by decide) (by decide) 0 _).mono ?_
      rintro e w4 ⟨ev2, rfl, he2, hb4⟩
      have HE2 := Lib.hid (he2.mono HB3.out.size)
      have HB4 := Lib.hid (HB3.out.trans (hb4.mono HB3.out.size))
      clear he2 hb4
      go_wp2_with fail
      go_ret2
      exact ⟨Or.inr ⟨_, Or.inr ⟨l, HLS.out, Or.inl HRR.out⟩, rfl, HE2.out⟩, HB4.out⟩
    | ok p rest =>
      obtain ⟨q, k, rfl, _, hst, hr, hrest⟩ := ho
      have htree := hst.now
      have HLEN := Lib.hid (len_buf w3 R _ l k hr)
      have hpos := hr.pos
      have HB3 := Lib.hid hb3
      have HRR := Lib.hid hrr
      have HREST := Lib.hid hrest
      have HT := Lib.hid htree
      clear hk3 hb3 hrr HR HB2 hst hr hrest htree
      go_wp2_with fail
      refine HLEN.out.mono ?_
      rintro e w4 ⟨rfl, hs4⟩
      have HB4 := Lib.hid (HB3.out.trans ((hs4.keep w3.heap.size w3.heap.size).toBelow (Nat.le_refl _) |>.mono HB3.out.size))
      by_cases hkl : k = l.length
      · have hz : ((l.length - k : Nat) : Int) = 0 := by omega
        rw [hz]
        obtain ⟨pc, pb, pt, pd, pi⟩ := p
        have htree := HT.out
        unfold Tot.Tree at htree
        obtain ⟨D, row, C, cp, val, bv, xs, _, _, hq, hbuf, _⟩ := htree
        have cD : w3.cell? ⟨q, 5, none⟩ = some (.pointer (some ⟨D, 0, none⟩)) := blockCell hq 5
        have cD4 : w4.cell? ⟨q, 5, none⟩ = some (.pointer (some ⟨D, 0, none⟩)) := (hs4.cell _).trans cD
        have HST := Lib.hid (Tryz.Buffer_String 0 D (Ber.body (.mk pc pb pt pd pi)) w4 (show Lib.IsBuffer _ _ 0 D (Lib.byteCells (Ber.body (.mk pc pb pt pd pi))) w4 from (hbuf.kept (by rw [hs4.heap]) (fun g _ => by rw [hs4.heap])).isBuffer))
        have hr0 : rest = [] := by rw [HREST.out, hkl, List.drop_length]
        have HHR : Hid (HashR t (Ber.body (.mk pc pb pt pd pi))) := Lib.hid ⟨l, HLS.out, _, by rw [← hr0]; exact HRR.out, rfl⟩
        clear cD hs4 HLEN hq hbuf hr0 hz
        go_wp2_with fail
        refine HST.out.mono ?_
        rintro e w5 ⟨rfl, k, rfl⟩
        go_wp2_with fail
        go_ret2
        exact ⟨Or.inl ⟨_, HHR.out, rfl⟩, ⟨HB4.out.os, HB4.out.tape, HB4.out.output, HB4.out.size, HB4.out.block⟩⟩
      · have hz : (((l.length - k : Nat) : Int) != 0) = true := by rw [bne_iff_ne]; omega
        have hne : rest ≠ [] := by
          rw [HREST.out]
          intro h
          have := congrArg List.length h
          rw [List.length_drop, List.length_nil] at this
          omega
        have HHE : Hid (HashE t) := Lib.hid (Or.inr ⟨l, HLS.out, Or.inr ⟨p, rest, hne, HRR.out⟩⟩)
        clear hs4 HLEN hne
        go_wp2_with fail
        refine (new_err _ (by decide) (by decide) 0 _).mono ?_
        rintro e w5 ⟨ev2, rfl, he2, hb5⟩
        have HE2 := Lib.hid (he2.mono HB4.out.size)
        have HB5 := Lib.hid (HB4.out.trans (hb5.mono HB4.out.size))
        clear he2 hb5
        go_wp2_with fail
        go_ret2
        exact ⟨Or.inr ⟨_, HHE.out, rfl, HE2.out⟩, HB5.out⟩
  | _ =>
    all_goals
      have HHE : Hid (HashE t) := Lib.hid (Or.inl (by rw [HLS.out]; simp))
      go_enter Tryz.func86, Tryz.ntmps86
      go_wp2_with fail
      refine HD.out.mono ?_
      rintro e w1 ⟨cap, rfl, hcap, hrow, hA1, hb1⟩
      simp only [Lib.Hx.errVal]
      have HB1 := Lib.hid hb1
      clear hrow hb1 HD
      go_wp2_with fail
      refine (new_err _ (by decide) (by decide) 0 _).mono ?_
      rintro e w4 ⟨ev2, rfl, he2, hb4⟩
      have HE2 := Lib.hid (he2.mono HB1.out.size)
      have HB4 := Lib.hid (HB1.out.trans (hb4.mono HB1.out.size))
      clear he2 hb4
      go_wp2_with fail
      go_ret2
      exact ⟨Or.inr ⟨_, HHE.out, rfl, HE2.out⟩, HB4.out⟩

set_option maxRecDepth 100000 in
set_option maxHeartbeats 4000000 in
/-- setValue behind a number sign. -/
theorem value_sharp (l : List UInt8) (hl : l.length ≤ 900) (h35 : l[0]? = some 35) (w : World) (et : TypeId) (eu : Value) (hE : w.cell? ⟨1, 0, none⟩ = some (.iface et eu)) (hN : EnvT w.heap.size w) (A : Nat) (s0 s1 : Value)
    (hA : w.heap[A]? = some (.cells #[s0, s1] 120 (0, 0))) :
    Calls Tryz.prog 70 #[.pointer (some ⟨A, 0, none⟩), .string (Nm.bs l)] w fun e w' => (∃ rv, e = .returned rv ∧ ((rv = .nilIface ∧ ∃ v, HashR (l.drop 1) v ∧ w'.heap[A]? = some (.cells #[s0, .string (Nm.bs v)] 120 (0, 0))) ∨ (HashE (l.drop 1) ∧ ErrAt 0 w.heap.size w' rv))) ∧ Keep w.heap.size A w w' := by
  obtain ⟨t, ht⟩ : ∃ t, t = l.drop 1 := ⟨_, rfl⟩
  have htl : t.length ≤ 900 := by rw [ht]; simp; omega
  rw [← ht]
  have hC := Lib.hid (enc_total t htl w et eu hE hN)
  have hAlt := blockLt hA
  have HA := Lib.hid hA
  have hsz := bs_size l
  have hpos : 0 < l.length := by
    rcases Nat.eq_zero_or_pos l.length with h | h
    · rw [List.getElem?_eq_none (by omega)] at h35; cases h35
    · exact h
  have hlt : 0 < (Nm.bs l).size := by omega
  have hget : ((Nm.bs l)[0]'hlt).toNat = 35 := by
    rw [bs_get]
    have := List.getElem?_eq_some_iff.1 h35
    obtain ⟨_, e⟩ := this
    rw [e]; rfl
  have hsl := bs_slice l 1 l.length (Nat.le_refl _)
  rw [List.take_length, ← ht] at hsl
  have h1 : ¬ l.length < 1 := by omega
  clear hA hE hN h35 ht htl
  go_enter Tryz.func70, Tryz.ntmps70
  go_wp2_with fail
  refine hC.out.mono ?_
  rintro e w1 ⟨ho, hb⟩
  rcases ho with ⟨v, hv, rfl⟩ | ⟨ev1, hv, rfl, he⟩
  · have hA1 := (hb.block A hAlt).trans HA.out
    have c1 : w1.cell? ⟨A, 1, none⟩ = some s1 := blockCell hA1 1
    have f1 := blockFrozen hA1 1
    have hE1 := blockSet hA1 1 (.string (Nm.bs v))
    have hk : Keep w.heap.size A w (w1.setCell ⟨A, 1, none⟩ (.string (Nm.bs v))) := (Keep.ofBelow hb).setCell (p := ⟨A, 1, none⟩) (Or.inr rfl) _
    have HE := Lib.hid (And.intro hE1 hk)
    have HV := Lib.hid hv
    clear hA1 hE1 hk hb hv
    go_wp2_with fail
    go_ret
    exact ⟨⟨_, rfl, Or.inl ⟨rfl, v, HV.out, by simpa using HE.out.1⟩⟩, HE.out.2⟩
  · obtain ⟨a, rfl⟩ := he.iface
    have HE := Lib.hid he
    have HB := Lib.hid (Keep.ofBelow (R := A) hb)
    have HV := Lib.hid hv
    clear he hb hv
    go_wp2_with fail
    go_ret
    exact ⟨⟨_, rfl, Or.inr ⟨HV.out, HE.out⟩⟩, HB.out⟩

theorem EnvT.mono {N N' : Nat} {w : World} (h : EnvT N w) (hN : N ≤ N') : EnvT N' w := ⟨h.env.mono hN, h.powAt hN, fun w' h' => h.utv w' (h'.mono hN)⟩

/-- setValue of any text. -/
theorem val_total (F : Interp) (w0 : World) (et : TypeId) (eu : Value) (hE0 : w0.cell? ⟨1, 0, none⟩ = some (.iface et eu)) (hN : EnvT w0.heap.size w0) : ValT F w0 AnyR AnyE := by
  intro l hl w hb hF ev hE A s0 s1 hA
  have hev : w.cell? ⟨1, 0, none⟩ = some (.iface et eu) := (hb.cell (World.block_lt_of_cell? w0 ⟨1, 0, none⟩ hE0)).trans hE0
  by_cases h35 : l[0]? = some 35
  · have hw := (hN.below hb (Nat.le_refl _)).mono hb.size
    refine (value_sharp l hl h35 w et eu hev hw A s0 s1 hA).mono fun e w' ⟨h1, h2⟩ => ⟨?_, h2⟩
    obtain ⟨rv, h0, h1⟩ := h1
    rcases h1 with ⟨h3, v, h4, h5⟩ | ⟨h3, h4⟩
    · exact ⟨rv, h0, Or.inl ⟨h3, v, by unfold AnyR; rw [if_pos h35]; exact h4, h5⟩⟩
    · exact ⟨rv, h0, Or.inr ⟨by unfold AnyE; rw [if_pos h35]; exact h3, h4⟩⟩
  · refine (value_total F l hl h35 w hF ev hE A s0 s1 hA).mono fun e w' ⟨h1, h2⟩ => ⟨?_, h2⟩
    cases hd : Nm.decode l with
    | none =>
      rw [hd] at h1
      obtain ⟨ev, h3, h4⟩ := h1
      exact ⟨ev, h3, Or.inr ⟨by unfold AnyE; rw [if_neg h35]; exact hd, h4⟩⟩
    | some v =>
      rw [hd] at h1
      exact ⟨_, h1.1, Or.inl ⟨rfl, v, by unfold AnyR; rw [if_neg h35]; exact hd, h1.2⟩⟩
end Go.Proofs.YtjmahgefijncaaaGreatFmt

/- Plain: values that spec.NameRead reads: what the parser comes to. -/
namespace Go.Proofs.YtjmahgefijncaaaGreatFmt.Sp
open Go

theorem decode_acc {rs : List Nat} {A v : List UInt8} (h : Acc rs A v false) (h0 : A[0]? ≠ some 32) : Nm.decode A = some v := by
  unfold Nm.decode
  rw [NT.strip_id h0 (h.fin rfl), h.enc, runes_of_encs rs h.okr]
  have := h.run []
  rw [List.append_nil] at this
  rw [this]
  simp [Nm.unescape]

section
variable {VR : List UInt8 → List UInt8 → Prop} {VE : List UInt8 → Prop}
theorem parse_none : ∀ (l seg : List UInt8) (esc : Bool) (ty : List UInt8) (rdn : List Nm.Part) (dn : Nm.Name) (r : Option Nm.Name), ty ≠ [] → (∀ X l', l = X ++ l' → ∀ u, ¬ VR (seg ++ X) u) → Nm.parseR VR VE l seg esc ty rdn dn r → r = none
  | [], seg, esc, ty, rdn, dn, r, ht, hV, h => by
    unfold Nm.parseR at h
    rw [if_neg ht] at h
    rcases h with ⟨-, h⟩ | ⟨v, hv, -⟩
    · exact h
    · exact absurd hv (by have := hV [] [] rfl v; rwa [List.append_nil] at this)
  | c :: l, seg, esc, ty, rdn, dn, r, ht, hV, h => by
    have hV' : ∀ X l', l = X ++ l' → ∀ u, ¬ VR (seg ++ [c] ++ X) u := fun X l' e u => by
      have := hV (c :: X) l' (by rw [e]; rfl) u
      rwa [show seg ++ [c] ++ X = seg ++ c :: X by simp]
    have hn : ∀ u, ¬ VR seg u := fun u => by have := hV [] (c :: l) rfl u; rwa [List.append_nil] at this
    unfold Nm.parseR at h
    split at h
    · exact parse_none l _ _ ty rdn dn r ht hV' h
    · split at h
      · exact parse_none l _ _ ty rdn dn r ht hV' h
      · rw [if_neg (by rintro ⟨_, e⟩; exact ht e)] at h
        split at h
        · try rw [if_neg ht] at h
          rcases h with ⟨-, h⟩ | ⟨v, hv, -⟩
          · exact h
          · exact absurd hv (hn v)
        · exact parse_none l _ _ ty rdn dn r ht hV' h

/-- What comes behind a value. -/
def Next (VR : List UInt8 → List UInt8 → Prop) (VE : List UInt8 → Prop) (rest : List UInt8) (rdn : List Nm.Part) (dn : Nm.Name) (r : Option Nm.Name) : Prop :=
  match rest with
  | [] => r = some (dn ++ [rdn])
  | c :: s => if c = 43 then Nm.parseR VR VE s [] false [] rdn dn r else Nm.parseR VR VE s [] false [] [] (dn ++ [rdn]) r
theorem stop_reads {rest seg ty v : List UInt8} {rdn : List Nm.Part} {dn : Nm.Name} {r : Option Nm.Name} (ht : ty ≠ []) (hr : rest = [] ∨ ∃ s, rest = 44 :: s ∨ rest = 43 :: s) (hV : ∀ u, VR seg u → u = v) (hE : ¬ VE seg) (h : Nm.parseR VR VE rest seg false ty rdn dn r) :
    Next VR VE rest (rdn ++ [(ty, v)]) dn r := by
  rcases hr with rfl | ⟨s, rfl | rfl⟩
  · unfold Nm.parseR at h
    rw [if_neg ht] at h
    rcases h with ⟨h, -⟩ | ⟨u, hu, h⟩
    · exact absurd h hE
    · rw [hV u hu] at h; exact h
  all_goals
    unfold Nm.parseR at h
    rw [if_neg (by simp), if_neg (by decide), if_neg (by rintro ⟨e, _⟩; exact absurd e (by decide)), if_pos (by decide), if_neg ht] at h
    rcases h with ⟨h, -⟩ | ⟨u, hu, h⟩
    · exact absurd h hE
    · rw [hV u hu] at h
      exact h
end

/-- What a value comes to. -/
def Law (s ty : List UInt8) (rdn : List Nm.Part) (dn : Nm.Name) : O (List UInt8) → Prop
  | .opn => True
  | .bad => ∀ r, Nm.parseR AnyR AnyE s [] false ty rdn dn r → r = none
  | .ok v rest => (∃ rs, rest = encs rs ∧ ∀ r ∈ rs, OkRune r) ∧ (rest = [] ∨ ∃ s, rest = 44 :: s ∨ rest = 43 :: s) ∧ ∀ r, Nm.parseR AnyR AnyE s [] false ty rdn dn r → Next AnyR AnyE rest (rdn ++ [(ty, v)]) dn r

theorem value_law (f : Nat) (rs : List Nat) (hok : ∀ r ∈ rs, OkRune r) (h32 : (encs rs)[0]? ≠ some 32) (h35 : (encs rs)[0]? ≠ some 35) (ty : List UInt8) (ht : ty ≠ []) (rdn : List Nm.Part) (dn : Nm.Name) :
    Law (encs rs) ty rdn dn (value f (encs rs) [] false) := by
  have hc := value_came f rs [] [] [] false Acc.nil hok
  revert hc
  cases value f (encs rs) [] false with
  | opn => exact fun _ => trivial
  | bad =>
    rintro ⟨rs1, A, out, b, tl, hA, he, htl, hb⟩ r h
    rw [List.nil_append] at he
    have hA32 : A[0]? ≠ some 32 := by
      cases hA' : A with
      | nil => simp
      | cons a A' => rw [he, hA'] at h32; simpa using h32
    have hA35 : (A ++ [92])[0]? ≠ some 35 := by
      cases hA' : A with
      | nil => simp
      | cons a A' => rw [he, hA'] at h35; simpa using h35
    rw [he, hA.sep AnyR AnyE _ _ ty rdn dn r ht] at h
    unfold Nm.parseR at h
    rw [if_neg (by simp), if_pos rfl] at h
    refine parse_none (encs tl) _ true ty rdn dn r ht (fun X l' e u hu => ?_) h
    rw [List.nil_append, List.append_assoc] at hu
    unfold AnyR at hu
    have hu : (if (A ++ 92 :: X)[0]? = some 35 then HashR ((A ++ 92 :: X).drop 1) u else Nm.decode (A ++ 92 :: X) = some u) := hu
    · rw [if_neg (by
        intro h9
        refine hA35 ?_
        cases hA' : A with
        | nil => rw [hA'] at h9; exact h9
        | cons a A' => rw [hA'] at h9; exact h9)] at hu
      rw [decode_badEsc hA hA32 htl hb X ⟨l', e⟩] at hu
      cases hu
  | ok v rest =>
    rintro ⟨rs1, A, rs2, hA, he, hr, hr2, hend⟩
    rw [List.nil_append] at he
    refine ⟨⟨rs2, hr, hr2⟩, hend, fun r h => ?_⟩
    have hA32 : A[0]? ≠ some 32 := by
      cases hA' : A with
      | nil => simp
      | cons a A' => rw [he, hA'] at h32; simpa using h32
    have hA35 : A[0]? ≠ some 35 := by
      cases hA' : A with
      | nil => simp
      | cons a A' => rw [he, hA'] at h35; simpa using h35
    rw [he, hA.sep AnyR AnyE _ _ ty rdn dn r ht, List.nil_append] at h
    have hd := decode_acc hA hA32
    refine stop_reads ht hend (fun u hu => ?_) (fun hE => ?_) h
    · unfold AnyR at hu
      rw [if_neg hA35, hd] at hu
      exact (Option.some.inj hu).symm
    · unfold AnyE at hE
      rw [if_neg hA35, hd] at hE
      cases hE
end Go.Proofs.YtjmahgefijncaaaGreatFmt.Sp

/- Plain: texts of hexadecimal digits, attributes. -/
namespace Go.Proofs.YtjmahgefijncaaaGreatFmt.Sp
open Go

theorem v_hex_dec : ∀ n : Nat, n < 256 → (decide (Nm.hexDigit (UInt8.ofNat n).toNat = if Lib.Hx.v (UInt8.ofNat n) ≤ 15 then some (Lib.Hx.v (UInt8.ofNat n)) else none)) = true := by decide +kernel
theorem v_hex (p : UInt8) : Nm.hexDigit p.toNat = if Lib.Hx.v p ≤ 15 then some (Lib.Hx.v p) else none := by
  have := v_hex_dec p.toNat p.toNat_lt
  rw [UInt8.ofNat_toNat, decide_eq_true_eq] at this
  exact this
theorem hx_pair {p q : UInt8} {x y : Nat} (hp : Nm.hexDigit p.toNat = some x) (hq : Nm.hexDigit q.toNat = some y) (t : List UInt8) : Lib.Hx.decode (p :: q :: t) = (UInt8.ofNat (x * 16 + y) :: (Lib.Hx.decode t).1, (Lib.Hx.decode t).2) := by
  rw [v_hex] at hp hq
  split at hp
  · split at hq
    · rw [Lib.Hx.decode_two, if_neg (by omega), if_neg (by omega), Option.some.inj hp, Option.some.inj hq]
    · cases hq
  · cases hp
theorem hx_app : ∀ (H bs t : List UInt8), Lib.Hx.decode H = (bs, .ok) → Lib.Hx.decode (H ++ t) = (bs ++ (Lib.Hx.decode t).1, (Lib.Hx.decode t).2)
  | [], bs, t, h => by
    rw [Lib.Hx.decode_nil] at h
    injection h with h1 _
    subst h1; rfl
  | [c], bs, t, h => by
    rw [Lib.Hx.decode_one] at h
    split at h <;> (injection h with _ h; cases h)
  | p :: q :: H, bs, t, h => by
    rw [Lib.Hx.decode_two] at h
    split at h
    · injection h with _ h; cases h
    · split at h
      · injection h with _ h; cases h
      · rename_i h1 h2
        injection h with h3 h4
        have ih := hx_app H (Lib.Hx.decode H).1 t (by rw [← h4])
        show Lib.Hx.decode (p :: q :: (H ++ t)) = _
        rw [Lib.Hx.decode_two, if_neg h1, if_neg h2, ih, ← h3]
        rfl
theorem hx_bad {c : UInt8} {s X l' : List UInt8} (hp : pair (c :: s) = none) (hX : s = X ++ l') : (Lib.Hx.decode (c :: X)).2 ≠ .ok := by
  cases X with
  | nil => rw [Lib.Hx.decode_one]; split <;> simp
  | cons d X =>
    rw [hX] at hp
    rw [Lib.Hx.decode_two]
    by_cases h1 : 15 < Lib.Hx.v c
    · rw [if_pos h1]; simp
    · rw [if_neg h1]
      by_cases h2 : 15 < Lib.Hx.v d
      · rw [if_pos h2]; simp
      · have e1 : Nm.hexDigit c.toNat = some (Lib.Hx.v c) := by rw [v_hex, if_pos (by omega)]
        have e2 : Nm.hexDigit d.toNat = some (Lib.Hx.v d) := by rw [v_hex, if_pos (by omega)]
        simp only [List.cons_append, pair, e1, e2] at hp
        cases hp

/-- What the bytes of a hexadecimal text say: an octet string of less than 128 bytes. -/
def fin (b rest : List UInt8) : O (List UInt8) :=
  match b with
  | [] => .bad
  | 4 :: n :: v => if n.toNat ≤ 127 ∧ n.toNat = v.length then .ok v rest else .opn
  | _ => .opn
def hexs : Nat → List UInt8 → List UInt8 → O (List UInt8)
  | 0, _, _ => .opn
  | _ + 1, [], b => fin b []
  | f + 1, c :: s, b => if c = 44 ∨ c = 43 then fin b (c :: s) else
    match pair (c :: s) with
    | none => if c = 32 ∨ c = 59 then .opn else .bad
    | some (x, s2) => hexs f s2 (b ++ [x])

def Stop (rest : List UInt8) : Prop := rest = [] ∨ ∃ s, rest = 44 :: s ∨ rest = 43 :: s
def HCame (s b : List UInt8) : O (List UInt8) → Prop
  | .opn => True
  | .ok v rest => ∃ H bs, s = H ++ rest ∧ Lib.Hx.decode H = (bs, .ok) ∧ Run H ∧ Stop rest ∧ fin (b ++ bs) rest = .ok v rest
  | .bad => (∃ H bs rest, s = H ++ rest ∧ Lib.Hx.decode H = (bs, .ok) ∧ Run H ∧ Stop rest ∧ b ++ bs = []) ∨ ∃ H bs c s', s = H ++ c :: s' ∧ Lib.Hx.decode H = (bs, .ok) ∧ Run H ∧ (c ≠ 44 ∧ c ≠ 43 ∧ c ≠ 59) ∧ pair (c :: s') = none

theorem fin_cases (b rest : List UInt8) : (b = [] ∧ fin b rest = .bad) ∨ fin b rest = .opn ∨ ∃ v, fin b rest = .ok v rest := by
  unfold fin
  split
  · exact Or.inl ⟨rfl, rfl⟩
  · split
    · exact Or.inr (Or.inr ⟨_, rfl⟩)
    · exact Or.inr (Or.inl rfl)
  · exact Or.inr (Or.inl rfl)
theorem fin_came (s b : List UInt8) (h : Stop s) : HCame s b (fin b s) := by
  rcases fin_cases b s with ⟨h1, h2⟩ | h2 | ⟨v, h2⟩
  · rw [h2]; exact Or.inl ⟨[], [], s, rfl, Lib.Hx.decode_nil, Run.nil, h, by simpa using h1⟩
  · rw [h2]; trivial
  · rw [h2]; exact ⟨[], [], rfl, Lib.Hx.decode_nil, Run.nil, h, by rw [List.append_nil]; exact h2⟩
theorem pair_some {l s2 : List UInt8} {x : UInt8} (h : pair l = some (x, s2)) : ∃ p q a b, l = p :: q :: s2 ∧ Nm.hexDigit p.toNat = some a ∧ Nm.hexDigit q.toNat = some b ∧ x = UInt8.ofNat (a * 16 + b) := by
  match l, h with
  | p :: q :: s, h =>
    simp only [pair] at h
    split at h
    · rename_i a b ha hb
      injection h with h
      injection h with h1 h2
      subst h2
      exact ⟨p, q, a, b, rfl, ha, hb, h1.symm⟩
    · cases h
theorem run_hex {p : UInt8} {a : Nat} (h : Nm.hexDigit p.toNat = some a) : Run [p] := by
  obtain ⟨p1, p2, p3, p4, p5, p6, p7⟩ := hex_low h
  have ne : ∀ {c d : UInt8}, c.toNat ≠ d.toNat → c ≠ d := fun h e => h (by rw [e])
  exact Run.plain (ne (by simpa using p2)) (ne (by simpa using p4)) (ne (by simpa using p5)) (ne (by simpa using p6))
theorem hexs_came : ∀ (f : Nat) (s b : List UInt8), HCame s b (hexs f s b)
  | 0, _, _ => trivial
  | f + 1, [], b => fin_came [] b (Or.inl rfl)
  | f + 1, c :: s, b => by
    simp only [hexs]
    split
    · rename_i h
      refine fin_came (c :: s) b (Or.inr ⟨s, ?_⟩)
      rcases h with rfl | rfl
      · exact Or.inl rfl
      · exact Or.inr rfl
    · rename_i h
      split
      · rename_i hp
        split
        · trivial
        · rename_i h2
          exact Or.inr ⟨[], [], c, s, rfl, Lib.Hx.decode_nil, Run.nil, ⟨fun e => h (Or.inl e), fun e => h (Or.inr e), fun e => h2 (Or.inr e)⟩, hp⟩
      · rename_i x s2 hp
        obtain ⟨p, q, a, d, hl, ha, hd, hx⟩ := pair_some hp
        have ih := hexs_came f s2 (b ++ [x])
        have hrun : ∀ {H}, Run H → Run (p :: q :: H) := fun {H} hH => Run.app (A := [p]) (run_hex ha) (Run.app (A := [q]) (run_hex hd) hH)
        have hdec : ∀ {H bs}, Lib.Hx.decode H = (bs, .ok) → Lib.Hx.decode (p :: q :: H) = (x :: bs, .ok) := fun {H bs} hH => by rw [hx_pair ha hd, hH, hx]
        rw [hl]
        revert ih
        cases hexs f s2 (b ++ [x]) with
        | opn => exact fun _ => trivial
        | ok v rest =>
          rintro ⟨H, bs, h1, h2, h3, h4, h5⟩
          exact ⟨p :: q :: H, x :: bs, by rw [h1]; rfl, hdec h2, hrun h3, h4, by rw [← h5]; simp⟩
        | bad =>
          rintro (⟨H, bs, rest, h1, h2, h3, h4, h5⟩ | ⟨H, bs, c', s', h1, h2, h3, h4, h5⟩)
          · simp at h5
          · exact Or.inr ⟨p :: q :: H, x :: bs, c', s', by rw [h1]; rfl, hdec h2, hrun h3, h4, h5⟩

theorem oct_header (n : UInt8) (v : List UInt8) (hn : n.toNat = v.length) (hv : v.length < 128) : Ber.header (4 :: n :: v) = some (0, false, 4, some v.length, v) := by
  have h1 : Ber.lenOf (n :: v) = some (some v.length, v) := by
    simp only [Ber.lenOf, hn]
    rw [if_neg (by omega), if_neg (by omega), if_pos hv]
  simp [Ber.header, Ber.ident, h1]
theorem oct_read (n : UInt8) (v : List UInt8) (hn : n.toNat = v.length) (hv : v.length < 128) (f : Nat) (r : Ber.Res) (h : Ber.readR (f + 1) 0 (4 :: n :: v) r) : r = .ok (.mk 0 false 4 v []) [] := by
  simp only [Ber.readR] at h
  rw [if_neg (by omega), oct_header n v hn hv] at h
  simp only [] at h
  rw [if_neg (by omega), if_neg (by simp)] at h
  unfold Ber.primR at h
  rw [if_neg (by omega)] at h
  rcases h with h | ⟨h, _⟩
  · rw [List.take_length, List.drop_length] at h; exact h
  · exact absurd h (by decide)

theorem hash_law (f : Nat) (s : List UInt8) (hu : ∃ rs, s = encs rs ∧ ∀ r ∈ rs, OkRune r) (hsplit : ∀ H rest, s = H ++ rest → Stop rest → ∃ rs, rest = encs rs ∧ ∀ r ∈ rs, OkRune r) (ty : List UInt8) (ht : ty ≠ []) (rdn : List Nm.Part) (dn : Nm.Name) :
    Law (35 :: s) ty rdn dn (hexs f s []) := by
  have hc := hexs_came f s []
  have h35 : Run [35] := Run.plain (by decide) (by decide) (by decide) (by decide)
  have isR : ∀ X u, AnyR (35 :: X) u → HashR X u := fun X u h => by unfold AnyR at h; rw [if_pos (by simp)] at h; exact h
  have isE : ∀ X, AnyE (35 :: X) → HashE X := fun X h => by unfold AnyE at h; rw [if_pos (by simp)] at h; exact h
  revert hc
  cases hexs f s [] with
  | opn => exact fun _ => trivial
  | ok v rest =>
    rintro ⟨H, bs, he, hd, hrun, hstop, hfin⟩
    refine ⟨hsplit H rest he hstop, hstop, fun r h => ?_⟩
    have e : 35 :: s = (35 :: H) ++ rest := by rw [he]; rfl
    have hR : Run (35 :: H) := Run.app (A := [35]) h35 hrun
    rw [e, hR AnyR AnyE rest [] ty rdn dn r ht, List.nil_append] at h
    rw [List.nil_append] at hfin
    obtain ⟨n, hbs, hn1, hn2⟩ : ∃ n, bs = 4 :: n :: v ∧ n.toNat ≤ 127 ∧ n.toNat = v.length := by
      unfold fin at hfin
      split at hfin
      · cases hfin
      · split at hfin
        · rename_i n v' hh
          injection hfin with h1 _
          subst h1
          exact ⟨n, rfl, hh⟩
        · cases hfin
      · cases hfin
    have hlen : 2 * bs.length + 1 = (2 * bs.length) + 1 := rfl
    refine stop_reads ht hstop (fun u hu => ?_) (fun hE => ?_) h
    · obtain ⟨l, hl, p, hp, rfl⟩ := isR _ _ hu
      rw [hd] at hl
      injection hl with hl _
      subst hl
      rw [hbs] at hp
      have := oct_read n v hn2 (by omega) _ _ hp
      injection this with h1 _
      rw [h1]; rfl
    · rcases isE _ hE with h1 | ⟨l, hl, h1⟩
      · rw [hd] at h1; exact h1 rfl
      · rw [hd] at hl
        injection hl with hl _
        subst hl
        rw [hbs] at h1
        rcases h1 with h1 | ⟨p, rest', hne, h1⟩
        · have := oct_read n v hn2 (by omega) _ _ h1; cases this
        · have := oct_read n v hn2 (by omega) _ _ h1
          injection this with _ h2
          exact hne h2
  | bad =>
    rintro (⟨H, bs, rest, he, hd, hrun, hstop, hb⟩ | ⟨H, bs, c, s', he, hd, hrun, ⟨c1, c2, c3⟩, hp⟩) r h
    · have e : 35 :: s = (35 :: H) ++ rest := by rw [he]; rfl
      have hR : Run (35 :: H) := Run.app (A := [35]) h35 hrun
      rw [e, hR AnyR AnyE rest [] ty rdn dn r ht, List.nil_append] at h
      rw [List.nil_append] at hb
      have hno : ∀ u, ¬ AnyR (35 :: H) u := fun u hu => by
        obtain ⟨l, hl, p, hp, _⟩ := isR _ _ hu
        rw [hd, hb] at hl
        injection hl with hl _
        subst hl
        simp [Ber.readR, Ber.header, Ber.ident] at hp
      rcases hstop with rfl | ⟨s2, rfl | rfl⟩
      · unfold Nm.parseR at h
        rw [if_neg ht] at h
        rcases h with ⟨_, h⟩ | ⟨u, hu, _⟩
        · exact h
        · exact absurd hu (hno u)
      all_goals
        unfold Nm.parseR at h
        rw [if_neg (by simp), if_neg (by decide), if_neg (by rintro ⟨e, _⟩; exact absurd e (by decide)), if_pos (by decide), if_neg ht] at h
        rcases h with ⟨_, h⟩ | ⟨u, hu, _⟩
        · exact h
        · exact absurd hu (hno u)
    · have e : 35 :: s = (35 :: H) ++ c :: s' := by rw [he]; rfl
      have hR : Run (35 :: H) := Run.app (A := [35]) h35 hrun
      rw [e, hR AnyR AnyE (c :: s') [] ty rdn dn r ht, List.nil_append] at h
      have hno : ∀ X l', s' = X ++ l' → ∀ u, ¬ AnyR ((35 :: H) ++ [c] ++ X) u := fun X l' hX u hu => by
        obtain ⟨l, hl, _⟩ := isR (H ++ c :: X) u (by simpa using hu)
        rw [hx_app H bs (c :: X) hd] at hl
        injection hl with _ hl
        exact hx_bad hp hX hl
      unfold Nm.parseR at h
      rw [if_neg (by simp)] at h
      split at h
      · exact parse_none s' _ _ ty rdn dn r ht hno h
      · rw [if_neg (by rintro ⟨_, e⟩; exact ht e), if_neg (by rintro (e | e | e); exact c1 e; exact c2 e; exact c3 e)] at h
        exact parse_none s' _ _ ty rdn dn r ht hno h
end Go.Proofs.YtjmahgefijncaaaGreatFmt.Sp

