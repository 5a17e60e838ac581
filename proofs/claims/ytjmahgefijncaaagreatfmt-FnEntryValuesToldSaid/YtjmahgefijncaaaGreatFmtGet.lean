/- GetAttributeValues, GetEqualFoldAttributeValues, GetAttributeValue, GetEqualFoldAttributeValue. -/
import Derived.Test.YtjmahgefijncaaaGreatFmtVals
namespace Go.Proofs.YtjmahgefijncaaaGreatFmt
open Go Go.RowKit

/-- The values of the first attribute of which p holds. -/
def lookupB (p : Attr → Bool) (al : List Attr) : List (List UInt8) := match al.find? p with | some a => a.2 | none => []
theorem lookup_hit {p : Attr → Bool} {al : List Attr} {i : Nat} {a : Attr} (ha : al[i]? = some a) (hp : p a = true) (hno : ∀ b ∈ al.take i, p b = false) : lookupB p al = a.2 := by
  have hi : i < al.length := (List.getElem?_eq_some_iff.1 ha).1
  have e : al = al.take i ++ a :: al.drop (i + 1) := by
    rw [List.getElem?_eq_getElem hi] at ha
    rw [← Option.some.inj ha, List.getElem_cons_drop, List.take_append_drop]
  unfold lookupB
  rw [e, List.find?_append, List.find?_eq_none.2 (fun b hb => by simp [hno b hb])]
  simp [hp]
theorem lookup_none {p : Attr → Bool} {al : List Attr} (hno : ∀ b ∈ al, p b = false) : lookupB p al = [] := by
  unfold lookupB
  rw [List.find?_eq_none.2 (fun b hb => by simp [hno b hb])]
theorem none_step {p : Attr → Bool} {al : List Attr} {i : Nat} {a : Attr} (ha : al[i]? = some a) (hp : p a = false) (hno : ∀ b ∈ al.take i, p b = false) : ∀ b ∈ al.take (i + 1), p b = false := by
  intro b hb
  rw [take_snoc ha] at hb
  rcases List.mem_append.1 hb with hb | hb
  · exact hno b hb
  · simp only [List.mem_singleton] at hb; rw [hb]; exact hp
def head1 (l : List (List UInt8)) : List UInt8 := match l with | [] => [] | s :: _ => s
def exactP (nm : List UInt8) (a : Attr) : Bool := decide (a.1 = nm)
def foldP (nm : List UInt8) (a : Attr) : Bool := foldSame nm a.1

/-- The entry in block E. -/
def EntAt (w : World) (E : Nat) (al : List Attr) : Prop := ∃ dn v xs, w.heap[E]? = some (.cells #[dn, v] 92 (0, 0)) ∧ w.ownsRow 0 93 1 v al.length xs ∧ EAs w xs al
theorem EntAt.of {dn : Value} {al : List Attr} {w : World} {E : Nat} {wr : World} (h : VE dn al w E al.length wr) : EntAt wr E al := by
  obtain ⟨v, xs, hi⟩ := h
  refine ⟨dn, v, xs, hi.ent, ⟨hi.own.1, hi.own.2.imp id ?_⟩, by have := hi.eas; rw [List.take_length] at this; exact this⟩
  rintro ⟨g, cap, cur, e1, e2, e3⟩
  exact ⟨g, cap, cur, e1, Nat.zero_le _, e3⟩
theorem EntAt.stays {w w' : World} {E : Nat} {al : List Attr} (h : EntAt w E al) (k : Below w.heap.size w w') : EntAt w' E al := by
  obtain ⟨dn, v, xs, h1, h2, h3⟩ := h
  exact ⟨dn, v, xs, (k.block E (blockLt h1)).trans h1, owns_stays h2 (fun g hg => k.block g (owns_lt h2 g hg)), h3.stays fun g c t hg _ => k.block g (blockLt hg)⟩

set_option maxRecDepth 100000 in
set_option maxHeartbeats 8000000 in
theorem get_vals (E : Nat) (al : List Attr) (nm : List UInt8) (hl : al.length ≤ 2147483647) (hf : ∀ a ∈ al, a.1.length ≤ 2147483647) (hnm : nm.length ≤ 2147483647) (w : World) (hE : EntAt w E al) :
    Calls Tryz.prog 45 #[.pointer (some ⟨E, 0, none⟩), .string (Nm.bs nm)] w fun e w' => (∃ v, e = .returned v ∧ StrsIn w' v (lookupB (exactP nm) al)) ∧ Below w.heap.size w w' := by
  obtain ⟨dn, v, xs, hent, hown, heas⟩ := hE
  have HEAS := Lib.hid heas
  have HOWN := Lib.hid hown
  have HF := Lib.hid hf
  obtain ⟨o, c, rfl⟩ : ∃ o c, v = .slice o al.length c := by
    rcases hown.2 with ⟨h, h0⟩ | ⟨g, cap, cur, h, _⟩
    · exact ⟨none, 0, by rw [h, h0]⟩
    · exact ⟨_, _, h⟩
  have e1 : w.cell? ⟨E, 1, none⟩ = some (.slice o al.length c) := blockCell hent 1
  clear hent hown heas hf
  go_enter Tryz.func45, Tryz.ntmps45
  go_wp2_with fail
  go_loopw [12] (fun t12 wr => ∃ i : Nat, t12 = .int .i64 i ∧ i ≤ al.length ∧ Hid ((∀ b ∈ al.take i, exactP nm b = false) ∧ Below w.heap.size w wr)) (fun t12 _ => al.length - (intOf t12).toNat)
  case atStart => exact ⟨0, rfl, Nat.zero_le _, Lib.hid ⟨by simp, Below.refl _ _⟩⟩
  case round =>
    obtain ⟨i, rfl, hi, HI⟩ := hrel
    have hsz := HI.out.2.size
    by_cases hend : i = al.length
    · subst hend
      have t1 : decide ((al.length : Int) < (al.length : Int)) = false := by simp
      have hno := HI.out.1
      rw [List.take_length] at hno
      have hr := lookup_none hno
      have HR := Lib.hid hr
      clear hno hr
      go_wp2_with fail
      go_ret
      refine ⟨⟨_, rfl, ?_⟩, HI.out.2.alloc (by omega) _⟩
      rw [HR.out]
      exact ⟨_, _, rfl, fun j s hj => by simp at hj⟩
    · have hlt : i < al.length := by omega
      have t1 : decide ((i : Int) < (al.length : Int)) = true := by simp; omega
      obtain ⟨a, hp⟩ : ∃ a, al[i]? = some a := ⟨_, List.getElem?_eq_getElem hlt⟩
      have hal := HF.out a (List.mem_of_getElem? hp)
      obtain ⟨p, hx, u, x, hpc, hst⟩ := HEAS.out.nth hp
      obtain ⟨g, c2, e2, cg⟩ := owns_cell HOWN.out hx
      injection e2 with e2 _ e2'
      subst e2
      subst e2'
      have kg := (HI.out.2.cell (World.block_lt_of_cell? w ⟨g, i, none⟩ cg)).trans cg
      have kp := (HI.out.2.block p (blockLt hpc)).trans hpc
      have k0 : wr.cell? ⟨p, 0, none⟩ = some (.string (Nm.bs a.1)) := blockCell kp 0
      have k1 : wr.cell? ⟨p, 1, none⟩ = some u := blockCell kp 1
      have hst2 : StrsOwn wr u a.2 := hst.stays fun g c hg => HI.out.2.block g (blockLt hg)
      have HST := Lib.hid hst2
      have HP := Lib.hid hp
      clear cg kp hpc hst hst2 hp hx hend
      cases hb : exactP nm a with
      | true =>
        have hr := lookup_hit HP.out hb HI.out.1
        have HR := Lib.hid hr
        clear hr
        have hq : ((Nm.bs a.1).toList == (Nm.bs nm).toList) = true := by
          rw [bs_toList, bs_toList]; simpa [exactP] using hb
        clear hb
        go_wp2_with fail
        go_ret
        exact ⟨⟨_, rfl, by rw [HR.out]; exact HST.out.in'⟩, HI.out.2⟩
      | false =>
        have hr := none_step HP.out hb HI.out.1
        have HR := Lib.hid hr
        clear hr
        have hq : ((Nm.bs a.1).toList == (Nm.bs nm).toList) = false := by
          rw [bs_toList, bs_toList]; simpa [exactP] using hb
        clear hb
        go_wp2_with fail
        exact ⟨⟨i + 1, by go_num, by omega, Lib.hid ⟨HR.out, HI.out.2⟩⟩, by simp [intOf]; omega⟩

set_option maxRecDepth 100000 in
set_option maxHeartbeats 8000000 in
theorem get_vals_fold (E : Nat) (al : List Attr) (nm : List UInt8) (hl : al.length ≤ 2147483647) (hf : ∀ a ∈ al, a.1.length ≤ 2147483647) (hnm : nm.length ≤ 2147483647) (w : World) (hE : EntAt w E al) :
    Calls Tryz.prog 44 #[.pointer (some ⟨E, 0, none⟩), .string (Nm.bs nm)] w fun e w' => (∃ v, e = .returned v ∧ StrsIn w' v (lookupB (foldP nm) al)) ∧ Below w.heap.size w w' := by
  obtain ⟨dn, v, xs, hent, hown, heas⟩ := hE
  have HEAS := Lib.hid heas
  have HOWN := Lib.hid hown
  have HF := Lib.hid hf
  obtain ⟨o, c, rfl⟩ : ∃ o c, v = .slice o al.length c := by
    rcases hown.2 with ⟨h, h0⟩ | ⟨g, cap, cur, h, _⟩
    · exact ⟨none, 0, by rw [h, h0]⟩
    · exact ⟨_, _, h⟩
  have e1 : w.cell? ⟨E, 1, none⟩ = some (.slice o al.length c) := blockCell hent 1
  clear hent hown heas hf
  go_enter Tryz.func44, Tryz.ntmps44
  go_wp2_with fail
  go_loopw [12] (fun t12 wr => ∃ i : Nat, t12 = .int .i64 i ∧ i ≤ al.length ∧ Hid ((∀ b ∈ al.take i, foldP nm b = false) ∧ Below w.heap.size w wr)) (fun t12 _ => al.length - (intOf t12).toNat)
  case atStart => exact ⟨0, rfl, Nat.zero_le _, Lib.hid ⟨by simp, Below.refl _ _⟩⟩
  case round =>
    obtain ⟨i, rfl, hi, HI⟩ := hrel
    have hsz := HI.out.2.size
    by_cases hend : i = al.length
    · subst hend
      have t1 : decide ((al.length : Int) < (al.length : Int)) = false := by simp
      have hno := HI.out.1
      rw [List.take_length] at hno
      have hr := lookup_none hno
      have HR := Lib.hid hr
      clear hno hr
      go_wp2_with fail
      go_ret
      refine ⟨⟨_, rfl, ?_⟩, HI.out.2.alloc (by omega) _⟩
      rw [HR.out]
      exact ⟨_, _, rfl, fun j s hj => by simp at hj⟩
    · have hlt : i < al.length := by omega
      have t1 : decide ((i : Int) < (al.length : Int)) = true := by simp; omega
      obtain ⟨a, hp⟩ : ∃ a, al[i]? = some a := ⟨_, List.getElem?_eq_getElem hlt⟩
      have hal := HF.out a (List.mem_of_getElem? hp)
      obtain ⟨p, hx, u, x, hpc, hst⟩ := HEAS.out.nth hp
      obtain ⟨g, c2, e2, cg⟩ := owns_cell HOWN.out hx
      injection e2 with e2 _ e2'
      subst e2
      subst e2'
      have kg := (HI.out.2.cell (World.block_lt_of_cell? w ⟨g, i, none⟩ cg)).trans cg
      have kp := (HI.out.2.block p (blockLt hpc)).trans hpc
      have k0 : wr.cell? ⟨p, 0, none⟩ = some (.string (Nm.bs a.1)) := blockCell kp 0
      have k1 : wr.cell? ⟨p, 1, none⟩ = some u := blockCell kp 1
      have hst2 : StrsOwn wr u a.2 := hst.stays fun g c hg => HI.out.2.block g (blockLt hg)
      have HST := Lib.hid hst2
      have HP := Lib.hid hp
      clear cg kp hpc hst hst2 hp hx hend
      cases hb : foldP nm a with
      | true =>
        have hr := lookup_hit HP.out hb HI.out.1
        have HR := Lib.hid hr
        clear hr
        have hF := fold_any nm a.1 (by omega) (by omega) wr
        rw [show foldSame nm a.1 = true from hb] at hF
        have HF2 := Lib.hid hF
        clear hF hb
        go_wp2_with fail
        refine HF2.out.mono ?_
        rintro e w2 ⟨rfl, hb2⟩
        have HB2 := Lib.hid (HI.out.2.trans (hb2.mono hsz))
        have k1' : w2.cell? ⟨p, 1, none⟩ = some u := (hb2.cell (World.block_lt_of_cell? wr ⟨p, 1, none⟩ k1)).trans k1
        have hst3 : StrsOwn w2 u a.2 := HST.out.stays fun g c hg => hb2.block g (blockLt hg)
        have HS3 := Lib.hid hst3
        clear hb2 hst3
        go_wp2_with fail
        go_ret
        exact ⟨⟨_, rfl, by rw [HR.out]; exact HS3.out.in'⟩, HB2.out⟩
      | false =>
        have hr := none_step HP.out hb HI.out.1
        have HR := Lib.hid hr
        clear hr
        have hF := fold_any nm a.1 (by omega) (by omega) wr
        rw [show foldSame nm a.1 = false from hb] at hF
        have HF2 := Lib.hid hF
        clear hF hb
        go_wp2_with fail
        refine HF2.out.mono ?_
        rintro e w2 ⟨rfl, hb2⟩
        have HB2 := Lib.hid (HI.out.2.trans (hb2.mono hsz))
        clear hb2
        go_wp2_with fail
        exact ⟨⟨i + 1, by go_num, by omega, Lib.hid ⟨HR.out, HB2.out⟩⟩, by simp [intOf]; omega⟩

set_option maxRecDepth 100000 in
set_option maxHeartbeats 8000000 in
theorem get_val (E : Nat) (al : List Attr) (nm : List UInt8) (hl : al.length ≤ 2147483647) (hf : ∀ a ∈ al, a.1.length ≤ 2147483647) (hnm : nm.length ≤ 2147483647) (w : World) (hE : EntAt w E al) :
    Calls Tryz.prog 47 #[.pointer (some ⟨E, 0, none⟩), .string (Nm.bs nm)] w fun e w' => e = .returned (.string (Nm.bs (head1 (lookupB (exactP nm) al)))) ∧ Below w.heap.size w w' := by
  have H := Lib.hid (get_vals E al nm hl hf hnm w hE)
  clear hE hf
  go_enter Tryz.func47, Tryz.ntmps47
  go_wp2_with fail
  refine H.out.mono ?_
  rintro e w1 ⟨⟨v, rfl, o, c, rfl, hst⟩, hb⟩
  have HB := Lib.hid hb
  clear hb H
  cases hl2 : lookupB (exactP nm) al with
  | nil =>
    rw [hl2] at hst
    have HL := Lib.hid hl2
    clear hst hl2
    go_wp2_with fail
    go_ret
    exact ⟨by rw [HL.out]; rfl, HB.out⟩
  | cons s r =>
    rw [hl2] at hst
    obtain ⟨b, off, rfl, hc⟩ := hst 0 s rfl
    have t2 : (((s :: r).length : Int) == 0) = false := by rw [beq_eq_false_iff_ne]; simp; omega
    have HL := Lib.hid hl2
    clear hst hl2
    generalize hL : (s :: r).length = L at *
    have hL0 : 0 < L := by rw [← hL]; simp
    have hL1 : (0 : Int) < (L : Int) := by omega
    clear hL
    rw [Nat.add_zero] at hc
    go_wp2_with fail
    go_ret
    exact ⟨by rw [HL.out]; rfl, HB.out⟩

set_option maxRecDepth 100000 in
set_option maxHeartbeats 8000000 in
theorem get_val_fold (E : Nat) (al : List Attr) (nm : List UInt8) (hl : al.length ≤ 2147483647) (hf : ∀ a ∈ al, a.1.length ≤ 2147483647) (hnm : nm.length ≤ 2147483647) (w : World) (hE : EntAt w E al) :
    Calls Tryz.prog 46 #[.pointer (some ⟨E, 0, none⟩), .string (Nm.bs nm)] w fun e w' => e = .returned (.string (Nm.bs (head1 (lookupB (foldP nm) al)))) ∧ Below w.heap.size w w' := by
  have H := Lib.hid (get_vals_fold E al nm hl hf hnm w hE)
  clear hE hf
  go_enter Tryz.func46, Tryz.ntmps46
  go_wp2_with fail
  refine H.out.mono ?_
  rintro e w1 ⟨⟨v, rfl, o, c, rfl, hst⟩, hb⟩
  have HB := Lib.hid hb
  clear hb H
  cases hl2 : lookupB (foldP nm) al with
  | nil =>
    rw [hl2] at hst
    have HL := Lib.hid hl2
    clear hst hl2
    go_wp2_with fail
    go_ret
    exact ⟨by rw [HL.out]; rfl, HB.out⟩
  | cons s r =>
    rw [hl2] at hst
    obtain ⟨b, off, rfl, hc⟩ := hst 0 s rfl
    have t2 : (((s :: r).length : Int) == 0) = false := by rw [beq_eq_false_iff_ne]; simp; omega
    have HL := Lib.hid hl2
    clear hst hl2
    generalize hL : (s :: r).length = L at *
    have hL0 : 0 < L := by rw [← hL]; simp
    have hL1 : (0 : Int) < (L : Int) := by omega
    clear hL
    rw [Nat.add_zero] at hc
    go_wp2_with fail
    go_ret
    exact ⟨by rw [HL.out]; rfl, HB.out⟩
end Go.Proofs.YtjmahgefijncaaaGreatFmt
