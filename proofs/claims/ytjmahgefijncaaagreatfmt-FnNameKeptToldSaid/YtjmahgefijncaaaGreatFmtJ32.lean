/- ParseDN, where what it reads is right. -/
import Derived.Test.YtjmahgefijncaaaGreatFmtJ30
import Derived.Test.YtjmahgefijncaaaGreatFmtJ31
import Derived.Deep.RegionWith
set_option linter.unusedVariables false
set_option linter.unusedSimpArgs false
namespace Go.Proofs.YtjmahgefijncaaaGreatFmt
open Go Go.RowKit

/-- setValue sets what val says. -/
def ValWorks (val : List UInt8 → Option (List UInt8)) : Prop := ∀ (l : List UInt8) (_ : l.length < 100000000) (v : List UInt8), val l = some v → ∀ (w : World) (ev : Value) (_ : w.cell? ⟨1, 0, none⟩ = some ev) (A : Nat) (s0 s1 : Value)
    (_ : w.heap[A]? = some (.cells #[s0, s1] 120 (0, 0))),
    Calls Tryz.prog 70 #[.pointer (some ⟨A, 0, none⟩), .string (Nm.bs l)] w fun e w' => e = .returned .nilIface ∧ w'.heap[A]? = some (.cells #[s0, .string (Nm.bs v)] 120 (0, 0)) ∧ Keep w.heap.size A w w'

/-- The same, for what the world w0 came to. -/
def ValAt (w0 : World) (val : List UInt8 → Option (List UInt8)) : Prop := ∀ (l : List UInt8) (_ : l.length < 100000000) (v : List UInt8), val l = some v → ∀ (w : World) (_ : Below w0.heap.size w0 w) (ev : Value) (_ : w.cell? ⟨1, 0, none⟩ = some ev) (A : Nat) (s0 s1 : Value)
    (_ : w.heap[A]? = some (.cells #[s0, s1] 120 (0, 0))),
    Calls Tryz.prog 70 #[.pointer (some ⟨A, 0, none⟩), .string (Nm.bs l)] w fun e w' => e = .returned .nilIface ∧ w'.heap[A]? = some (.cells #[s0, .string (Nm.bs v)] 120 (0, 0)) ∧ Keep w.heap.size A w w'
theorem ValWorks.at {val : List UInt8 → Option (List UInt8)} (h : ValWorks val) (w0 : World) : ValAt w0 val := fun l hl v hv w _ ev hE A s0 s1 hA => h l hl v hv w ev hE A s0 s1 hA

def plainVal (l : List UInt8) : Option (List UInt8) := if l[0]? = some 35 then none else Nm.decode l
theorem plain_works : ValWorks plainVal := by
  intro l hl v hv w ev hE A s0 s1 hA
  unfold plainVal at hv
  split at hv
  · cases hv
  · exact value_some l hl (by assumption) v hv w ev hE A s0 s1 hA

/-- The round's head: i bytes are read, those from st on belong to what is at hand. -/
structure PLoop (val : List UInt8 → Option (List UInt8)) (l : List UInt8) (n : Nm.Name) (w : World) (X Y Z D i st : Nat) (esc : Bool) (Rb A : Nat) (v : Value) (xs : List Value) (vd : Value) (ds : List Value) (S : Nat → Prop) (ty : List UInt8) (rdn : List Nm.Part) (dn : Nm.Name) (wr : World) : Prop where
  from' : st ≤ i
  le : i ≤ l.length
  rest : Nm.parse val (l.drop i) ((l.take i).drop st) esc ty rdn dn = some n
  inv : PInv w.heap.size X Y Z D Rb A v xs vd ds S ty [] rdn dn wr
  bel : Below w.heap.size w wr
  few : rdn.length ≤ i
  few2 : dn.length ≤ i
def PLoopE (val : List UInt8 → Option (List UInt8)) (l : List UInt8) (n : Nm.Name) (w : World) (X Y Z D i st : Nat) (esc : Bool) (wr : World) : Prop :=
  ∃ (Rb A : Nat) (v : Value) (xs : List Value) (vd : Value) (ds : List Value) (S : Nat → Prop) (ty : List UInt8) (rdn : List Nm.Part) (dn : Nm.Name), PLoop val l n w X Y Z D i st esc Rb A v xs vd ds S ty rdn dn wr

theorem bs_slice (l : List UInt8) (st i : Nat) (_ : i ≤ l.length) : (Nm.bs l).extract st i = Nm.bs ((l.take i).drop st) := by
  apply ByteArray.ext
  rw [ByteArray.data_extract]
  show l.toArray.extract _ _ = ((l.take i).drop st).toArray
  simp [List.drop_take]

theorem u8_ne {b c : UInt8} (h : b ≠ c) : ((b.toNat : Int) == (c.toNat : Int)) = false := by
  rw [beq_eq_false_iff_ne]; intro h2; exact h (UInt8.toNat_inj.1 (by omega))

theorem seg_snoc {l : List UInt8} {st i : Nat} (hs : st ≤ i) (hi : i < l.length) : (l.take (i + 1)).drop st = (l.take i).drop st ++ [l[i]] := by
  rw [List.take_succ_eq_append_getElem hi, List.drop_append_of_le_length (by simp; omega)]
theorem seg_new {l : List UInt8} (i : Nat) : (l.take (i + 1)).drop (i + 1) = [] := by
  rw [List.drop_eq_nil_iff]; simp; omega

theorem pinv_start (w W : World) (hW : W = (((((((w.alloc (.cells #[] 115 (0, 0))).alloc (.cells #[.slice (some ⟨w.heap.size, 0, none⟩) 0 0] 114 (0, 0))).alloc (.cells #[.pointer (some ⟨w.heap.size + 1, 0, none⟩)] 81 (0, 0))).alloc
    (.cells #[.slice none 0 0] 118 (0, 0))).alloc (.cells #[.pointer (some ⟨w.heap.size + 1 + 1 + 1, 0, none⟩)] 115 (0, 0))).alloc (.cells #[.string ⟨#[]⟩, .string ⟨#[]⟩] 120 (0, 0))).alloc (.cells #[.pointer (some ⟨w.heap.size + 1 + 1 + 1 + 1 + 1, 0, none⟩)] 119 (0, 0)))) :
    PInv w.heap.size (w.heap.size + 1 + 1 + 1 + 1) (w.heap.size + 1 + 1 + 1 + 1 + 1 + 1) (w.heap.size + 1 + 1) (w.heap.size + 1) (w.heap.size + 1 + 1 + 1) (w.heap.size + 1 + 1 + 1 + 1 + 1) (.slice none 0 0) [] (.slice (some ⟨w.heap.size, 0, none⟩) 0 0) [] (fun _ => False) [] [] [] [] W ∧ Below w.heap.size w W := by
  have h : ∀ k, W.heap[w.heap.size + k]? = (#[Obj.cells #[] 115 (0, 0), .cells #[.slice (some ⟨w.heap.size, 0, none⟩) 0 0] 114 (0, 0), .cells #[.pointer (some ⟨w.heap.size + 1, 0, none⟩)] 81 (0, 0),
      .cells #[.slice none 0 0] 118 (0, 0), .cells #[.pointer (some ⟨w.heap.size + 1 + 1 + 1, 0, none⟩)] 115 (0, 0), .cells #[.string ⟨#[]⟩, .string ⟨#[]⟩] 120 (0, 0), .cells #[.pointer (some ⟨w.heap.size + 1 + 1 + 1 + 1 + 1, 0, none⟩)] 119 (0, 0)] : Array Obj)[k]? := by
    intro k
    have e : W.heap = w.heap ++ (#[Obj.cells #[] 115 (0, 0), .cells #[.slice (some ⟨w.heap.size, 0, none⟩) 0 0] 114 (0, 0), .cells #[.pointer (some ⟨w.heap.size + 1, 0, none⟩)] 81 (0, 0),
      .cells #[.slice none 0 0] 118 (0, 0), .cells #[.pointer (some ⟨w.heap.size + 1 + 1 + 1, 0, none⟩)] 115 (0, 0), .cells #[.string ⟨#[]⟩, .string ⟨#[]⟩] 120 (0, 0), .cells #[.pointer (some ⟨w.heap.size + 1 + 1 + 1 + 1 + 1, 0, none⟩)] 119 (0, 0)] : Array Obj) := by
      rw [hW]
      simp only [World.alloc]
      apply Array.ext'
      simp
    rw [e, Array.getElem?_append_right (by omega)]
    congr 1
    omega
  refine ⟨⟨h 4, h 6, h 2, h 3, h 1, h 5, ⟨rfl, Or.inl ⟨rfl, rfl⟩⟩, ⟨rfl, Or.inr ⟨w.heap.size, 0, #[], rfl, Nat.zero_le _, h 0, Nat.le_refl _, Nat.zero_le _, rfl, rfl⟩⟩, by simp [Value.ownBlock], ?_, rfl, rfl, fun k h => h.elim, ?_, ?_⟩, ?_⟩
  · simp only [Value.ownBlock, ne_eq, Option.some.injEq]; omega
  · refine ⟨?_, ?_, ?_, ?_, ?_, ?_⟩ <;> omega
  · intro k hk
    simp only [Value.ownBlock, Option.some.injEq] at hk
    rcases hk with hk | hk
    · cases hk
    · omega
  · rw [hW]
    exact (((((((Below.refl _ w).alloc (Nat.le_refl _) _).alloc (by simp) _).alloc (by simp; omega) _).alloc (by simp; omega) _).alloc (by simp; omega) _).alloc (by simp; omega) _).alloc (by simp; omega) _

theorem PInv.dn {B X Y Z D Rb A : Nat} {v : Value} {xs : List Value} {vd : Value} {ds : List Value} {S : Nat → Prop} {ty val : List UInt8} {rdn : List Nm.Part} {dn : Nm.Name} {w : World} (h : PInv B X Y Z D Rb A v xs vd ds S ty val rdn dn w) :
    ∃ T : Nat → Prop, DnAt w T D dn ∧ ∀ k, T k → k < w.heap.size := by
  refine ⟨fun k => S k ∨ k = D ∨ vd.ownBlock = some k, ⟨Or.inr (Or.inl rfl), vd, ds, h.hD, h.ownD, fun k hk => Or.inr (Or.inr hk), h.rdns.stays (fun _ _ => rfl) (fun _ h => Or.inl h)⟩, ?_⟩
  rintro k (hk | rfl | hk)
  · exact (h.avoid k hk).1
  · exact blockLt h.hD
  · exact owns_lt h.ownD k hk

set_option maxRecDepth 100000 in
set_option maxHeartbeats 16000000 in
theorem parse_in (val : List UInt8 → Option (List UInt8)) (l : List UInt8) (hl : l.length < 100000000) (n : Nm.Name) (hn : Nm.parseDN val l = some n) (w : World) (hval : ValAt w val) (ev : Value) (hE : w.cell? ⟨1, 0, none⟩ = some ev) :
    Calls Tryz.prog 39 #[.string (Nm.bs l)] w fun e w' => ∃ (D : Nat) (S : Nat → Prop), e = .returned (.tuple #[.pointer (some ⟨D, 0, none⟩), .nilIface]) ∧ DnAt w' S D n ∧ (∀ k, S k → k < w'.heap.size) ∧ Below w.heap.size w w' := by
  have hsz := bs_size l
  have hmf : ∀ (fn : Fn) (first cap : Array Value) (w : World), (Instr.makeFunc fn first cap).run Tryz.prog w = .ok (.func fn first cap) w := fun _ _ _ _ => rfl
  have hmk : ∀ w : World, (Instr.makeSlice 112 (.int .i64 0) (.int .i64 0)).run Tryz.prog w = .ok (.slice (some ⟨w.heap.size, 0, none⟩) 0 0) (w.alloc (.cells #[] 115 (0, 0))) := fun _ => by kernel_rfl
  unfold Nm.parseDN at hn
  have hbl := fun w => blank_any l (by omega) w
  have HBL := Lib.hid hbl
  clear hbl
  have HV := Lib.hid hval
  clear hval
  by_cases hb : Nm.blank l = true
  · rw [hb, if_pos rfl] at hn
    rw [hb] at HBL
    have HN := Lib.hid (Option.some.inj hn)
    clear hn hb
    go_enter Tryz.func39, Tryz.ntmps39
    go_wp2_with fail
    refine (HBL.out _).mono ?_
    rintro e w1 ⟨rfl, rfl⟩
    go_wp2_with fail
    go_ret2
    have h1 : (((w.alloc (Obj.cells #[] 115)).alloc (Obj.cells #[Value.slice (some { block := w.heap.size, off := 0 }) 0 0] 114)).alloc (Obj.cells #[Value.pointer (some { block := w.heap.size + 1, off := 0 })] 81)).heap[w.heap.size + 1]? = some (Obj.cells #[Value.slice (some { block := w.heap.size, off := 0 }) 0 0] 114) := by
      rw [Below.heap_alloc _ _ _ (by simp)]
      have := heap_alloc_new (w.alloc (Obj.cells #[] 115)) (Obj.cells #[Value.slice (some { block := w.heap.size, off := 0 }) 0 0] 114)
      simpa using this
    have h0 : (((w.alloc (Obj.cells #[] 115)).alloc (Obj.cells #[Value.slice (some { block := w.heap.size, off := 0 }) 0 0] 114)).alloc (Obj.cells #[Value.pointer (some { block := w.heap.size + 1, off := 0 })] 81)).heap[w.heap.size]? = some (Obj.cells #[] 115) := by
      rw [Below.heap_alloc _ _ _ (by simp; omega), Below.heap_alloc _ _ _ (by simp)]
      exact heap_alloc_new w _
    refine ⟨w.heap.size + 1, fun k => k = w.heap.size ∨ k = w.heap.size + 1, rfl, ?_, ?_, ?_⟩
    · rw [← HN.out]
      refine ⟨Or.inr rfl, _, [], h1, ⟨rfl, Or.inr ⟨w.heap.size, 0, #[], rfl, Nat.zero_le _, h0, Nat.le_refl _, Nat.zero_le _, rfl, rfl⟩⟩, ?_, rfl⟩
      intro k hk
      simp only [Value.ownBlock, Option.some.injEq] at hk
      exact Or.inl hk.symm
    · rintro k (rfl | rfl) <;> simp <;> omega
    · exact (((Below.refl _ w).alloc (Nat.le_refl _) _).alloc (by simp) _).alloc (by simp; omega) _
  · have hb' : Nm.blank l = false := by simpa using hb
    rw [hb'] at HBL
    rw [if_neg hb] at hn
    have HN := Lib.hid hn
    clear hn hb hb'
    go_enter Tryz.func39, Tryz.ntmps39
    go_wp2_with fail
    refine (HBL.out _).mono ?_
    rintro e w1 ⟨rfl, rfl⟩
    go_wp2_with fail
    obtain ⟨hP, hB⟩ := pinv_start w _ rfl
    have HP := Lib.hid hP
    have HB := Lib.hid hB
    clear hP hB
    generalize hY : w.heap.size + 1 + 1 + 1 + 1 + 1 + 1 = Y at *
    clear hY
    generalize hA : w.heap.size + 1 + 1 + 1 + 1 + 1 = A0 at *
    clear hA
    generalize hX : w.heap.size + 1 + 1 + 1 + 1 = X at *
    clear hX
    generalize hR : w.heap.size + 1 + 1 + 1 = Rb0 at *
    clear hR
    generalize hZ : w.heap.size + 1 + 1 = Z at *
    clear hZ
    generalize hD : w.heap.size + 1 = D at *
    clear hD
    go_loopw [7, 8, 10] (fun t7 t8 t10 wr => ∃ (i st : Nat) (esc : Bool), t7 = .bool esc ∧ t8 = .int .i64 st ∧ t10 = .int .i64 i ∧ st ≤ i ∧ i ≤ l.length ∧ Hid (PLoopE val l n w X Y Z D i st esc wr)) (fun _ _ t10 _ => l.length - (intOf t10).toNat)
    case atStart => exact ⟨0, 0, false, rfl, rfl, rfl, Nat.le_refl _, Nat.zero_le _, Lib.hid ⟨_, _, _, _, _, _, _, _, _, _, Nat.le_refl _, Nat.zero_le _, HN.out, HP.out, HB.out, Nat.le_refl _, Nat.le_refl _⟩⟩
    case round =>
      clear HP HB HN HBL hmk
      obtain ⟨i, st, esc, rfl, rfl, rfl, hst, hi, HL⟩ := hrel
      have HL := HL.out
      obtain ⟨Rb, A, v, xs, vd, ds, S, ty, rdn, dn, hl'⟩ := HL
      have H := Lib.hid hl'
      have HL := hl'.inv
      have hwr := hl'.bel.size
      have cY : wr.cell? ⟨Y, 0, none⟩ = some (.pointer (some ⟨A, 0, none⟩)) := blockCell HL.hY 0
      have cZ : wr.cell? ⟨Z, 0, none⟩ = some (.pointer (some ⟨D, 0, none⟩)) := blockCell HL.hZ 0
      have cA : wr.cell? ⟨A, 0, none⟩ = some (.string (Nm.bs ty)) := blockCell HL.hA 0
      have hAty := HL.hA
      have hrest := hl'.rest
      have hgl : 1 < w.heap.size := World.block_lt_of_cell? w ⟨1, 0, none⟩ hE
      have hEw : wr.drew.cell? ⟨1, 0, none⟩ = some ev := (hl'.bel.cell (p := ⟨1, 0, none⟩) hgl).trans hE
      have HBD : Hid (Below w.heap.size w wr.drew) := Lib.hid hl'.bel.drew
      have htz := bs_size ty
      have hsl := bs_slice l st i hi
      have hsegl : ((l.take i).drop st).length < 100000000 := by simp; omega
      clear HL hl'
      by_cases hend : i = l.length
      · subst hend
        have t1 : decide ((l.length : Int) < (l.length : Int)) = false := by simp
        rw [List.drop_length] at hrest
        rw [List.take_length] at hrest hsl hsegl
        cases esc
        all_goals
          unfold Nm.parse at hrest
          by_cases hty : ty = []
          · rw [if_pos hty] at hrest; cases hrest
          · rw [if_neg hty] at hrest
            have hty0 : ((ty.length : Int) == 0) = false := by
              rw [beq_eq_false_iff_ne]; intro h; exact hty (List.length_eq_zero_iff.1 (by omega))
            obtain ⟨u, hd, hn2⟩ : ∃ u, val (l.drop st) = some u ∧ dn ++ [rdn ++ [(ty, u)]] = n := by
              simpa [Option.map_eq_some_iff] using hrest
            have hT := HV.out _ hsegl u hd wr.drew HBD.out ev hEw A _ _ hAty
            have hnext : ∀ w1 : World, w1.heap[A]? = some (.cells #[.string (Nm.bs ty), .string (Nm.bs u)] 120 (0, 0)) → Keep wr.drew.heap.size A wr.drew w1 →
                PInv w.heap.size X Y Z D Rb A v xs vd ds S ty u rdn dn w1 ∧ Below w.heap.size w w1 := by
              intro w1 h1 h2
              have hk : Keep wr.heap.size A wr w1 := ⟨h2.os, h2.tape, h2.output, h2.size, h2.block⟩
              obtain ⟨b1, b2, b3, b4, b5, b6⟩ := H.out.inv.low
              exact ⟨H.out.inv.keep hk h1, H.out.bel.trans ((hk.mono H.out.bel.size).toBelow b5)⟩
            have hxl : xs.length < 1000000000 ∧ ds.length < 1000000000 := by
              have h1 := H.out.inv.parts.len
              have h2 := H.out.inv.rdns.len
              have h3 := H.out.few
              have h4 := H.out.few2
              omega
            have HT := Lib.hid hT
            have HN := Lib.hid hnext
            have HR := Lib.hid hn2
            have HXL := Lib.hid hxl
            clear hT hnext hrest hd hAty hEw hty hxl hn2
            go_wp2_with fail
            go_region_with (go_at_call 70; refine HT.out.mono ?_; rintro e w1 ⟨rfl, hA1, hk⟩)
            obtain ⟨hP, hBl⟩ := HN.out w1 hA1 hk
            have hadd := add_last w1 _ X Y Z D Rb A v xs vd ds S ty u rdn dn hP HXL.out.1 HXL.out.2
            have HADD := Lib.hid hadd
            have HBl := Lib.hid hBl
            clear hA1 hk HT HN hP hadd hBl
            go_wp2_with fail
            refine HADD.out.mono ?_
            rintro e w2 ⟨rfl, hb2, Rb', A', v', xs', vd', ds', S', hP'⟩
            have cZ2 : w2.cell? ⟨Z, 0, none⟩ = some (.pointer (some ⟨D, 0, none⟩)) := blockCell hP'.hZ 0
            obtain ⟨T, hD1, hD2⟩ := hP'.dn
            rw [HR.out] at hD1
            have HE := Lib.hid (And.intro hD1 (And.intro hD2 (HBl.out.trans hb2)))
            clear hP' hb2 HADD hD1 hD2
            go_wp2_with fail
            go_ret2
            exact ⟨D, T, rfl, HE.out.1, HE.out.2.1, HE.out.2.2⟩
      · have hlt : i < l.length := by omega
        have hlt2 : i < (Nm.bs l).size := by rw [hsz]; exact hlt
        have t1 : decide ((i : Int) < (l.length : Int)) = true := by simp; omega
        obtain ⟨b, hb, hget⟩ : ∃ b : UInt8, l[i]? = some b ∧ ((Nm.bs l)[i]'hlt2).toNat = b.toNat := ⟨_, List.getElem?_eq_getElem hlt, by rw [bs_get]⟩
        have hdrop : l.drop i = b :: l.drop (i + 1) := by
          rw [List.drop_eq_getElem_cons hlt]
          rw [List.getElem?_eq_getElem hlt] at hb
          rw [Option.some.inj hb]
        have hsn : (l.take (i + 1)).drop st = (l.take i).drop st ++ [b] := by
          rw [seg_snoc hst hlt]
          rw [List.getElem?_eq_getElem hlt] at hb
          rw [Option.some.inj hb]
        have hnew := seg_new (l := l) i
        rw [hdrop] at hrest
        clear hdrop hb hend
        have hgo : ∀ esc' : Bool, Nm.parse val (l.drop (i + 1)) ((l.take i).drop st ++ [b]) esc' ty rdn dn = some n → PLoopE val l n w X Y Z D (i + 1) st esc' wr := fun esc' h =>
          ⟨Rb, A, v, xs, vd, ds, S, ty, rdn, dn, by omega, by omega, by rw [hsn]; exact h, H.out.inv, H.out.bel, by have := H.out.few; omega, by have := H.out.few2; omega⟩
        have HG := Lib.hid hgo
        clear hgo hsn
        cases esc with
        | true =>
          have HN := Lib.hid (HG.out false (by unfold Nm.parse at hrest; simpa using hrest))
          clear hrest
          go_wp2_with fail
          exact ⟨⟨i + 1, st, false, rfl, rfl, by go_num, by omega, by omega, HN⟩, by simp [intOf]; omega⟩
        | false =>
          unfold Nm.parse at hrest
          rw [if_neg (by simp)] at hrest
          by_cases h92 : b = 92
          · rw [if_pos h92] at hrest
            have HN := Lib.hid (HG.out true hrest)
            have hb92 : b.toNat = 92 := by rw [h92]; rfl
            rw [hb92] at hget
            clear hrest h92 hb92
            go_wp2_with fail
            exact ⟨⟨i + 1, st, true, rfl, rfl, by go_num, by omega, by omega, HN⟩, by simp [intOf]; omega⟩
          · rw [if_neg h92] at hrest
            have q92 : ((b.toNat : Int) == 92) = false := u8_ne h92
            by_cases h61 : b = 61 ∧ ty = []
            · rw [if_pos h61] at hrest
              obtain ⟨rfl, rfl⟩ := h61
              have hb61 : (61 : UInt8).toNat = 61 := rfl
              rw [hb61] at hget
              cases hd : Nm.decode ((l.take i).drop st) with
              | none => rw [hd] at hrest; simp at hrest
              | some t =>
                rw [hd] at hrest
                have hrest : Nm.parse val (l.drop (i + 1)) [] false t rdn dn = some n := hrest
                have hT := type_some _ hsegl t hd wr.drew ev hEw A _ _ hAty
                have hnext : ∀ w1 : World, w1.heap[A]? = some (.cells #[.string (Nm.bs t), .string (Nm.bs [])] 120 (0, 0)) → Keep wr.drew.heap.size A wr.drew w1 → PLoopE val l n w X Y Z D (i + 1) (i + 1) false w1 := by
                  intro w1 h1 h2
                  have hk : Keep wr.heap.size A wr w1 := ⟨h2.os, h2.tape, h2.output, h2.size, h2.block⟩
                  obtain ⟨b1, b2, b3, b4, b5, b6⟩ := H.out.inv.low
                  exact ⟨Rb, A, v, xs, vd, ds, S, t, rdn, dn, Nat.le_refl _, by omega, by rw [hnew]; exact hrest, H.out.inv.keep hk h1, H.out.bel.trans ((hk.mono H.out.bel.size).toBelow b5), by have := H.out.few; omega, by have := H.out.few2; omega⟩
                have HT := Lib.hid hT
                have HN := Lib.hid hnext
                clear hT hnext hrest hd h92 hnew hAty hEw
                go_wp2_with fail
                go_region_with (go_at_call 68; refine HT.out.mono ?_; rintro e w1 ⟨rfl, hA1, hk⟩)
                have HNN := Lib.hid (HN.out w1 hA1 hk)
                clear hA1 hk HT HN
                go_wp2_with fail
                exact ⟨⟨i + 1, i + 1, false, rfl, by go_num, by go_num, by omega, by omega, HNN⟩, by simp [intOf]; omega⟩
            · rw [if_neg h61] at hrest
              by_cases hsep : b = 44 ∨ b = 43 ∨ b = 59
              · rw [if_pos hsep] at hrest
                by_cases hty : ty = []
                · rw [if_pos hty] at hrest; cases hrest
                · rw [if_neg hty] at hrest
                  have hty0 : ((ty.length : Int) == 0) = false := by
                    rw [beq_eq_false_iff_ne]; intro h; exact hty (List.length_eq_zero_iff.1 (by omega))
                  cases hd : val ((l.take i).drop st) with
                  | none => rw [hd] at hrest; simp at hrest
                  | some u =>
                    rw [hd] at hrest
                    have hrest : (if b = 43 then Nm.parse val (l.drop (i + 1)) [] false [] (rdn ++ [(ty, u)]) dn else Nm.parse val (l.drop (i + 1)) [] false [] [] (dn ++ [rdn ++ [(ty, u)]])) = some n := hrest
                    have hT := HV.out _ hsegl u hd wr.drew HBD.out ev hEw A _ _ hAty
                    have hnext : ∀ w1 : World, w1.heap[A]? = some (.cells #[.string (Nm.bs ty), .string (Nm.bs u)] 120 (0, 0)) → Keep wr.drew.heap.size A wr.drew w1 →
                        PInv w.heap.size X Y Z D Rb A v xs vd ds S ty u rdn dn w1 ∧ Below w.heap.size w w1 := by
                      intro w1 h1 h2
                      have hk : Keep wr.heap.size A wr w1 := ⟨h2.os, h2.tape, h2.output, h2.size, h2.block⟩
                      obtain ⟨b1, b2, b3, b4, b5, b6⟩ := H.out.inv.low
                      exact ⟨H.out.inv.keep hk h1, H.out.bel.trans ((hk.mono H.out.bel.size).toBelow b5)⟩
                    have hxl : xs.length < 1000000000 ∧ ds.length < 1000000000 := by
                      have h1 := H.out.inv.parts.len
                      have h2 := H.out.inv.rdns.len
                      have h3 := H.out.few
                      have h4 := H.out.few2
                      omega
                    have HT := Lib.hid hT
                    have HN := Lib.hid hnext
                    have HR := Lib.hid hrest
                    have HXL := Lib.hid hxl
                    clear hT hnext hrest hd h92 hAty hEw h61 hty hxl
                    by_cases h43 : b = 43
                    · subst h43
                      have hb43 : (43 : UInt8).toNat = 43 := rfl
                      rw [hb43] at hget
                      clear hsep q92
                      have HR2 := Lib.hid (show Nm.parse val (l.drop (i + 1)) [] false [] (rdn ++ [(ty, u)]) dn = some n from HR.out)
                      clear HR
                      go_wp2_with fail
                      go_region_with (go_at_call 70; refine HT.out.mono ?_; rintro e w1 ⟨rfl, hA1, hk⟩)
                      obtain ⟨hP, hBl⟩ := HN.out w1 hA1 hk
                      have hadd := add_part w1 _ X Y Z D Rb A v xs vd ds S ty u rdn dn hP HXL.out.1
                      have HADD := Lib.hid hadd
                      have HBl := Lib.hid hBl
                      clear hA1 hk HT HN hP hadd hBl
                      go_wp2_with fail
                      refine HADD.out.mono ?_
                      rintro e w2 ⟨rfl, hb2, Rb', A', v', xs', vd', ds', S', hP'⟩
                      have hE2 : PLoopE val l n w X Y Z D (i + 1) (i + 1) false w2 := by
                        refine ⟨Rb', A', v', xs', vd', ds', S', [], _, _, Nat.le_refl _, by omega, by rw [hnew]; exact HR2.out, hP', HBl.out.trans hb2, ?_, by have := H.out.few2; omega⟩
                        rw [List.length_append]; have := H.out.few; simp; omega
                      have HNN := Lib.hid hE2
                      clear hE2 hP' hb2 HADD HR2 hnew
                      go_wp2_with fail
                      exact ⟨⟨i + 1, i + 1, false, rfl, by go_num, by go_num, by omega, by omega, HNN⟩, by simp [intOf]; omega⟩
                    · have HR2 := Lib.hid (show Nm.parse val (l.drop (i + 1)) [] false [] [] (dn ++ [rdn ++ [(ty, u)]]) = some n by have := HR.out; rw [if_neg h43] at this; exact this)
                      clear HR
                      have hsep2 : b = 44 ∨ b = 59 := by
                        rcases hsep with h | h | h
                        · exact Or.inl h
                        · exact absurd h h43
                        · exact Or.inr h
                      clear hsep h43 q92
                      rcases hsep2 with rfl | rfl
                      all_goals
                        first
                          | rw [show (44 : UInt8).toNat = 44 from rfl] at hget
                          | rw [show (59 : UInt8).toNat = 59 from rfl] at hget
                        go_wp2_with fail
                        go_region_with (go_at_call 70; refine HT.out.mono ?_; rintro e w1 ⟨rfl, hA1, hk⟩)
                        obtain ⟨hP, hBl⟩ := HN.out w1 hA1 hk
                        have hadd := add_last w1 _ X Y Z D Rb A v xs vd ds S ty u rdn dn hP HXL.out.1 HXL.out.2
                        have HADD := Lib.hid hadd
                        have HBl := Lib.hid hBl
                        clear hA1 hk HT HN hP hadd hBl
                        go_wp2_with fail
                        refine HADD.out.mono ?_
                        rintro e w2 ⟨rfl, hb2, Rb', A', v', xs', vd', ds', S', hP'⟩
                        have hE2 : PLoopE val l n w X Y Z D (i + 1) (i + 1) false w2 := by
                          refine ⟨Rb', A', v', xs', vd', ds', S', [], _, _, Nat.le_refl _, by omega, by rw [hnew]; exact HR2.out, hP', HBl.out.trans hb2, by simp, ?_⟩
                          rw [List.length_append]; have := H.out.few2; simp; omega
                        have HNN := Lib.hid hE2
                        clear hE2 hP' hb2 HADD HR2 hnew
                        go_wp2_with fail
                        exact ⟨⟨i + 1, i + 1, false, rfl, by go_num, by go_num, by omega, by omega, HNN⟩, by simp [intOf]; omega⟩
              · rw [if_neg hsep] at hrest
                have HN := Lib.hid (HG.out false hrest)
                have q44 : ((b.toNat : Int) == 44) = false := u8_ne (fun h => hsep (Or.inl h))
                have q43 : ((b.toNat : Int) == 43) = false := u8_ne (fun h => hsep (Or.inr (Or.inl h)))
                have q59 : ((b.toNat : Int) == 59) = false := u8_ne (fun h => hsep (Or.inr (Or.inr h)))
                clear hrest hsep hAty hEw
                by_cases hb61 : b = 61
                · have hty0 : ((ty.length : Int) == 0) = false := by
                    rw [beq_eq_false_iff_ne]; intro h; exact h61 ⟨hb61, List.length_eq_zero_iff.1 (by omega)⟩
                  subst hb61
                  rw [show (61 : UInt8).toNat = 61 from rfl] at hget
                  clear h61 q92 q44 q43 q59 h92
                  go_wp2_with fail
                  exact ⟨⟨i + 1, st, false, rfl, rfl, by go_num, by omega, by omega, HN⟩, by simp [intOf]; omega⟩
                · have q61 : ((b.toNat : Int) == 61) = false := u8_ne hb61
                  clear h61 hb61 h92
                  go_wp2_with fail
                  exact ⟨⟨i + 1, st, false, rfl, rfl, by go_num, by omega, by omega, HN⟩, by simp [intOf]; omega⟩
theorem parse_some (val : List UInt8 → Option (List UInt8)) (hval : ValWorks val) (l : List UInt8) (hl : l.length < 100000000) (n : Nm.Name) (hn : Nm.parseDN val l = some n) (w : World) (ev : Value) (hE : w.cell? ⟨1, 0, none⟩ = some ev) :
    Calls Tryz.prog 39 #[.string (Nm.bs l)] w fun e w' => ∃ (D : Nat) (S : Nat → Prop), e = .returned (.tuple #[.pointer (some ⟨D, 0, none⟩), .nilIface]) ∧ DnAt w' S D n ∧ (∀ k, S k → k < w'.heap.size) ∧ Below w.heap.size w w' :=
  parse_in val l hl n hn w (hval.at w) ev hE
end Go.Proofs.YtjmahgefijncaaaGreatFmt

