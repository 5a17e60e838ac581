/- NameRead, where what it reads is right; nameAwake. -/
import Derived.Test.YtjmahgefijncaaaGreatFmtJ41
import Derived.Test.YtjmahgefijncaaaGreatFmtJ32
set_option linter.unusedVariables false
set_option linter.unusedSimpArgs false
namespace Go.Proofs.YtjmahgefijncaaaGreatFmt
open Go Go.RowKit

theorem parse_len (val : List UInt8 → Option (List UInt8)) : ∀ (l seg : List UInt8) (esc : Bool) (ty : List UInt8) (rdn : List Nm.Part) (dn n : Nm.Name) (k : Nat), Nm.parse val l seg esc ty rdn dn = some n → rdn.length + l.length < k → dn.length + l.length < k → (∀ ps ∈ dn, ps.length ≤ k) → n.length ≤ k ∧ ∀ ps ∈ n, ps.length ≤ k
  | [], seg, esc, ty, rdn, dn, n, k, h, h1, h2, h3 => by
    unfold Nm.parse at h
    split at h
    · cases h
    · simp only [Option.map_eq_some_iff] at h
      obtain ⟨v, _, rfl⟩ := h
      simp only [List.length_nil, Nat.add_zero] at h1 h2
      refine ⟨by rw [List.length_append]; simp; omega, fun ps hp => ?_⟩
      rcases List.mem_append.1 hp with hp | hp
      · exact h3 ps hp
      · simp only [List.mem_singleton] at hp
        rw [hp, List.length_append]; simp; omega
  | c :: r, seg, esc, ty, rdn, dn, n, k, h, h1, h2, h3 => by
    unfold Nm.parse at h
    simp only [List.length_cons] at h1 h2
    have add : ∀ q : List Nm.Part, q.length ≤ k → ∀ ps ∈ dn ++ [q], ps.length ≤ k := fun q hq ps hp => by
      rcases List.mem_append.1 hp with hp | hp
      · exact h3 ps hp
      · simp only [List.mem_singleton] at hp; rw [hp]; exact hq
    split at h
    · exact parse_len val r _ _ _ _ _ _ k h (by omega) (by omega) h3
    · split at h
      · exact parse_len val r _ _ _ _ _ _ k h (by omega) (by omega) h3
      · split at h
        · split at h
          · cases h
          · exact parse_len val r _ _ _ _ _ _ k h (by omega) (by omega) h3
        · split at h
          · split at h
            · cases h
            · split at h
              · cases h
              · split at h
                · exact parse_len val r _ _ _ _ _ _ k h (by rw [List.length_append]; simp; omega) (by omega) h3
                · exact parse_len val r _ _ _ _ _ _ k h (by simp; omega) (by rw [List.length_append]; simp; omega) (add _ (by rw [List.length_append]; simp; omega))
          · exact parse_len val r _ _ _ _ _ _ k h (by omega) (by omega) h3
theorem parseDN_len {val : List UInt8 → Option (List UInt8)} {l : List UInt8} {n : Nm.Name} (h : Nm.parseDN val l = some n) : n.length ≤ l.length + 1 ∧ ∀ ps ∈ n, ps.length ≤ l.length + 1 := by
  unfold Nm.parseDN at h
  split at h
  · rw [← Option.some.inj h]; simp
  · exact parse_len val l _ _ _ _ _ _ (l.length + 1) h (by simp) (by simp) (by simp)

set_option maxRecDepth 100000 in
set_option maxHeartbeats 8000000 in
theorem read_in (val : List UInt8 → Option (List UInt8)) (l : List UInt8) (hl : l.length < 100000000) (n : Nm.Name) (hn : Nm.parseDN val l = some n) (w : World) (hval : ValAt w val) (ev : Value) (hE : w.cell? ⟨1, 0, none⟩ = some ev) :
    Calls Tryz.prog 13 #[.string (Nm.bs l)] w fun e w' => ∃ v, e = .returned (.tuple #[v, .string ⟨#[]⟩]) ∧ NameOwn 71 70 w.heap.size w' v n ∧ Below w.heap.size w w' := by
  obtain ⟨hb1, hb2⟩ := parseDN_len hn
  have HP := Lib.hid (parse_in val l hl n hn w hval ev hE)
  have HB2 := Lib.hid hb2
  clear hval hn hb2
  go_enter Tryz.func13, Tryz.ntmps13
  go_wp2_with fail
  refine HP.out.mono ?_
  rintro e w1 ⟨D, S, rfl, hD, hS, hb⟩
  have hB := back_dn S D n w1 hD hS (by omega) (fun ps hp => by have := HB2.out ps hp; omega)
  have HB := Lib.hid hB
  have hsz := hb.size
  have HBL := Lib.hid hb
  clear hB hb hD hS HP
  go_wp2_with fail
  refine HB.out.mono ?_
  rintro e w2 ⟨v, rfl, hn, hb2⟩
  have HE : Hid (NameOwn 71 70 w.heap.size w2 v n ∧ Below w.heap.size w w2) := by
    refine Lib.hid ⟨?_, HBL.out.trans (hb2.mono hsz)⟩
    obtain ⟨vs, h1, h2⟩ := hn
    refine ⟨vs, ⟨h1.1, h1.2.imp id ?_⟩, ?_⟩
    · rintro ⟨g, cap, cur, e1, e2, e3⟩
      exact ⟨g, cap, cur, e1, Nat.le_trans hsz e2, e3⟩
    · exact rowsOwn_lower hsz h2
  clear hn hb2 HB HBL
  go_wp2_with fail
  go_ret2
  exact ⟨_, rfl, HE.out.1, HE.out.2⟩

theorem read_some (val : List UInt8 → Option (List UInt8)) (hval : ValWorks val) (l : List UInt8) (hl : l.length < 100000000) (n : Nm.Name) (hn : Nm.parseDN val l = some n) (w : World) (ev : Value) (hE : w.cell? ⟨1, 0, none⟩ = some ev) :
    Calls Tryz.prog 13 #[.string (Nm.bs l)] w fun e w' => ∃ v, e = .returned (.tuple #[v, .string ⟨#[]⟩]) ∧ NameOwn 71 70 w.heap.size w' v n ∧ Below w.heap.size w w' :=
  read_in val l hl n hn w (hval.at w) ev hE

def awakeName : Nm.Name := [[([99, 110], [97])], [([111], [98])]]
theorem awake_parse : Nm.parseDN plainVal [99, 110, 61, 97, 44, 111, 61, 98] = some awakeName := by decide +kernel

theorem awake_lit (w W : World) (hW : W = ((w.alloc (.cells #[.string ⟨#[99, 110]⟩, .string ⟨#[97]⟩] 78 (0, 0))).alloc (.cells #[.string ⟨#[111]⟩, .string ⟨#[98]⟩] 78 (0, 0))).alloc (.cells #[.slice (some ⟨w.heap.size, 0, none⟩) 1 1, .slice (some ⟨w.heap.size + 1, 0, none⟩) 1 1] 77 (0, 0))) :
    NameIn W (.slice (some ⟨w.heap.size + 1 + 1, 0, none⟩) 2 2) awakeName ∧ Below w.heap.size w W := by
  have h : ∀ k, W.heap[w.heap.size + k]? = (#[Obj.cells #[.string ⟨#[99, 110]⟩, .string ⟨#[97]⟩] 78 (0, 0), .cells #[.string ⟨#[111]⟩, .string ⟨#[98]⟩] 78 (0, 0), .cells #[.slice (some ⟨w.heap.size, 0, none⟩) 1 1, .slice (some ⟨w.heap.size + 1, 0, none⟩) 1 1] 77 (0, 0)] : Array Obj)[k]? := by
    intro k
    have e : W.heap = w.heap ++ (#[Obj.cells #[.string ⟨#[99, 110]⟩, .string ⟨#[97]⟩] 78 (0, 0), .cells #[.string ⟨#[111]⟩, .string ⟨#[98]⟩] 78 (0, 0), .cells #[.slice (some ⟨w.heap.size, 0, none⟩) 1 1, .slice (some ⟨w.heap.size + 1, 0, none⟩) 1 1] 77 (0, 0)] : Array Obj) := by
      rw [hW]
      simp only [World.alloc]
      apply Array.ext'
      simp
    rw [e, Array.getElem?_append_right (by omega)]
    congr 1
    omega
  refine ⟨⟨_, _, rfl, fun j ps hj => ?_⟩, ?_⟩
  · match j, hj with
    | 0, hj =>
      simp only [awakeName, List.getElem?_cons_zero, Option.some.injEq] at hj
      subst hj
      refine ⟨_, _, _, rfl, blockCell (h 2) 0, _, _, rfl, fun j p hj => ?_⟩
      match j, hj with
      | 0, hj =>
        simp only [List.getElem?_cons_zero, Option.some.injEq] at hj
        subst hj
        exact ⟨_, _, rfl, blockCell (h 0) 0, blockCell (h 0) 1⟩
    | 1, hj =>
      simp only [awakeName, List.getElem?_cons_succ, List.getElem?_cons_zero, Option.some.injEq] at hj
      subst hj
      refine ⟨_, _, _, rfl, blockCell (h 2) 1, _, _, rfl, fun j p hj => ?_⟩
      match j, hj with
      | 0, hj =>
        simp only [List.getElem?_cons_zero, Option.some.injEq] at hj
        subst hj
        exact ⟨_, _, rfl, blockCell (h 1) 0, blockCell (h 1) 1⟩
  · rw [hW]
    exact (((Below.refl _ w).alloc (Nat.le_refl _) _).alloc (by simp) _).alloc (by simp; omega) _

set_option maxRecDepth 100000 in
set_option maxHeartbeats 8000000 in
theorem awake_any (w : World) (ev : Value) (hE : w.cell? ⟨1, 0, none⟩ = some ev) :
    Calls Tryz.prog 12 #[] w fun e w' => e = .returned (.bool true) ∧ Below w.heap.size w w' := by
  have HR := Lib.hid (read_some plainVal plain_works [99, 110, 61, 97, 44, 111, 61, 98] (by simp) awakeName awake_parse w ev hE)
  go_enter Tryz.func12, Tryz.ntmps12
  go_wp2_with fail
  refine HR.out.mono ?_
  rintro e w1 ⟨v, rfl, hn, hb⟩
  have hsz := hb.size
  have HN := Lib.hid (name_of v awakeName w1 hn.in' (by simp [awakeName]) (by simp [awakeName]))
  have HB := Lib.hid hb
  clear hn hb HR
  go_wp2_with fail
  refine HN.out.mono ?_
  rintro e w2 ⟨v', rfl, hn, hb⟩
  obtain ⟨hL, hLb⟩ := awake_lit w2 _ rfl
  have hS := name_same v' _ awakeName _ (hn.in'.stays hLb) hL (by simp [awakeName]) (by simp [awakeName])
  have hsz2 := hb.size
  have HS := Lib.hid hS
  have HB2 := Lib.hid ((HB.out.trans (hb.mono hsz)).trans (hLb.mono (by omega)))
  have hsz3 := hLb.size
  clear hS hn hb hL hLb HN HB
  go_wp2_with fail
  refine HS.out.mono ?_
  rintro e w3 ⟨rfl, hb3⟩
  have HB3 := Lib.hid (HB2.out.trans (hb3.mono (by simp at hsz3 ⊢; omega)))
  clear hb3 HS HB2
  go_wp2_with fail
  go_ret
  exact ⟨rfl, HB3.out⟩
end Go.Proofs.YtjmahgefijncaaaGreatFmt

