/- zzIndex and zzSplit at a dollar. -/
import Derived.Test.YtjmahgefijncaaaGreatFmtPos0
import Derived.Test.YtjmahgefijncaaaGreatFmtCopyS
import Derived.Test.YtjmahgefijncaaaGreatFmtBackDN
import Derived.Test.YtjmahgefijncaaaGreatFmtParse
import Derived.Test.YtjmahgefijncaaaGreatFmtVals
namespace Go.Proofs.YtjmahgefijncaaaGreatFmt
open Go Go.RowKit

def IndexRes (l : List UInt8) (e : Ending) : Prop :=
  (∃ i : Nat, e = .returned (.int .i64 i) ∧ l[i]? = some 36 ∧ ∀ c ∈ l.take i, c ≠ 36) ∨ (e = .returned (.int .i64 (-1)) ∧ ∀ c ∈ l, c ≠ 36)

set_option maxRecDepth 100000 in
set_option maxHeartbeats 16000000 in
theorem index_any (l : List UInt8) (hl : l.length < 4000000000) (w : World) :
    Calls Tryz.prog 89 #[.string (Nm.bs l), .string ⟨#[36]⟩] w fun e w' => IndexRes l e ∧ Below w.heap.size w w' := by
  have hsz := bs_size l
  go_enter Tryz.func89, Tryz.ntmps89
  go_wp2_with fail
  go_loopw [5] (fun t5 wr => ∃ i : Nat, t5 = .int .i64 i ∧ i ≤ l.length ∧ Hid ((∀ c ∈ l.take i, c ≠ 36) ∧ Below w.heap.size w wr)) (fun t5 _ => l.length - (intOf t5).toNat)
  case atStart => exact ⟨0, rfl, Nat.zero_le _, Lib.hid ⟨by simp, Below.refl _ _⟩⟩
  case round =>
    obtain ⟨i, rfl, hi, HI⟩ := hrel
    by_cases hend : i = l.length
    · subst hend
      have t1 : decide ((l.length : Int) + 1 ≤ (l.length : Int)) = false := by simp; omega
      go_wp2_with fail
      go_ret
      exact ⟨Or.inr ⟨rfl, by have := HI.out.1; rw [List.take_length] at this; exact this⟩, HI.out.2⟩
    · have hlt : i < l.length := by omega
      have t1 : decide ((i : Int) + 1 ≤ (l.length : Int)) = true := by simp; omega
      obtain ⟨b, hb⟩ : ∃ b : UInt8, l[i]? = some b := ⟨_, List.getElem?_eq_getElem hlt⟩
      have hs1 : (i : Int) ≤ (i : Int) + 1 := by omega
      have hs2 : (i : Int) + 1 ≤ (l.length : Int) := by omega
      have hs3 : ((i : Int) + 1).toNat = i + 1 := by omega
      have hsl : (Nm.bs l).extract i (i + 1) = Nm.bs [b] := by
        rw [bs_slice l i (i + 1) (by omega), take_snoc hb, List.drop_append_of_le_length (by simp; omega)]
        rw [List.drop_eq_nil_of_le (by simp; omega)]; rfl
      by_cases hb36 : b = 36
      · subst hb36
        have HN := Lib.hid hb
        have heq : ((Nm.bs [36]).toList == ([36] : List UInt8)) = true := by rw [bs_toList]; rfl
        clear hb
        go_wp2_with fail
        go_ret
        exact ⟨Or.inl ⟨i, rfl, HN.out, HI.out.1⟩, HI.out.2⟩
      · have hnext : ∀ c ∈ l.take (i + 1), c ≠ 36 := fun c hc => by
          rw [take_snoc hb] at hc
          rcases List.mem_append.1 hc with hc | hc
          · exact HI.out.1 c hc
          · simp only [List.mem_singleton] at hc; rw [hc]; exact hb36
        have HN := Lib.hid hnext
        have heq : ((Nm.bs [b]).toList == ([36] : List UInt8)) = false := by
          rw [bs_toList]; simpa using hb36
        clear hnext hb
        go_wp2_with fail
        exact ⟨⟨i + 1, by go_num, by omega, Lib.hid ⟨HN.out, HI.out.2⟩⟩, by simp [intOf]; omega⟩

/-- The round's head of zzSplit: what is done, what is left. -/
structure SplitInv (l : List UInt8) (w : World) (done : List (List UInt8)) (r : List UInt8) (v : Value) (wr : World) : Prop where
  all : Pos.split l = done ++ Pos.split r
  few : done.length + r.length ≤ l.length
  own : wr.ownsRow w.heap.size 9 1 v done.length (strs done)
  bel : Below w.heap.size w wr

theorem strs_snoc (l : List (List UInt8)) (x : List UInt8) : strs (l ++ [x]) = strs l ++ [.string (Nm.bs x)] := by simp [strs]

theorem split_first {r : List UInt8} {i : Nat} (h : r[i]? = some 36) (hn : ∀ c ∈ r.take i, c ≠ 36) : Pos.split r = r.take i :: Pos.split (r.drop (i + 1)) := by
  have hlt : i < r.length := by
    rcases Nat.lt_or_ge i r.length with h1 | h1
    · exact h1
    · rw [List.getElem?_eq_none h1] at h; cases h
  have e : r = r.take i ++ 36 :: r.drop (i + 1) := by
    have h2 : r[i]'hlt = 36 := Option.some.inj ((List.getElem?_eq_getElem hlt).symm.trans h)
    conv => lhs; rw [← List.take_append_drop i r, List.drop_eq_getElem_cons hlt, h2]
  conv => lhs; rw [e, Pos.split_at hn]

set_option maxRecDepth 100000 in
set_option maxHeartbeats 16000000 in
theorem split_any (l : List UInt8) (hl : l.length < 1000000000) (w : World) :
    Calls Tryz.prog 76 #[.string (Nm.bs l), .string ⟨#[36]⟩] w fun e w' => (∃ v, e = .returned v ∧ w'.ownsRow w.heap.size 9 1 v (Pos.split l).length (strs (Pos.split l))) ∧ (Pos.split l).length ≤ l.length + 1 ∧ Below w.heap.size w w' := by
  obtain ⟨i0, hi, hz0, hz1, hz2⟩ := info_str
  go_enter Tryz.func76, Tryz.ntmps76
  go_wp2_with fail
  go_loopw [0, 5] (fun t0 t5 wr => ∃ (done : List (List UInt8)) (r : List UInt8) (o : Option Addr) (c : Nat), t0 = .string (Nm.bs r) ∧ t5 = .slice o done.length c ∧ Hid (SplitInv l w done r (.slice o done.length c) wr)) (fun t0 _ _ => match t0 with | .string s => s.size | _ => 0)
  case atStart => exact ⟨[], l, none, 0, rfl, rfl, Lib.hid ⟨rfl, by simp, owns_start _ _ _ _, Below.refl _ _⟩⟩
  case round =>
    obtain ⟨done, r, o, c, rfl, rfl, HI⟩ := hrel
    have hfew := HI.out.few
    have hrs := bs_size r
    have HX := Lib.hid (index_any r (by omega) wr)
    have hb0 := HI.out.bel.size
    go_wp2_with fail
    refine HX.out.mono ?_
    rintro e w1 ⟨hres, hb1⟩
    have hb1z := hb1.size
    have hB : Below w.heap.size w w1 := HI.out.bel.trans (hb1.mono hb0)
    have hown1 : w1.ownsRow w.heap.size 9 1 (.slice o done.length c) done.length (strs done) := owns_stays HI.out.own (fun g hg => hb1.block g (owns_lt HI.out.own g hg))
    have HB := Lib.hid hB
    have HO := Lib.hid hown1
    have hall := HI.out.all
    have HALL := Lib.hid hall
    clear hb1 HX hB hown1 HI hall
    rcases hres with ⟨i, rfl, hat, hn⟩ | ⟨rfl, hn⟩
    · have hsp := split_first hat hn
      have hlt : i < r.length := by
        rcases Nat.lt_or_ge i r.length with h1 | h1
        · exact h1
        · rw [List.getElem?_eq_none h1] at hat; cases hat
      have HSP := Lib.hid hsp
      clear hat hn hsp
      have q1 : decide ((i : Int) < 0) = false := by simp
      have hx1 : (i : Int) ≤ (r.length : Int) := by omega
      have hx2 : (i : Int) + 1 ≤ (r.length : Int) := by omega
      have hx3 : (0 : Int) ≤ (i : Int) + 1 := by omega
      have hx4 : ((i : Int) + 1).toNat = i + 1 := by omega
      have hto := bs_to r i
      have hfrom := bs_from r (i + 1)
      have htl : (r.take i).length = i := by simp; omega
      go_wp2_with (at_builtin; refine wpList_append_own _ rfl _ _ 34 rfl w.heap.size 9 i0 (.string ⟨#[]⟩) 1 16 Tryz.underlying34 hi hz0 hz1 hz2 rfl (by decide) _ _ _ rfl (HO.out.alloc _) ⟨w1.heap.size, 0, none⟩ 1 1 [.string (Nm.bs (r.take i))] rfl rfl ?c1 ?c2 ?c3 ?c4 ?c5 ?_)
      case c1 =>
        intro j u hj
        match j, hj with
        | 0, hj => simp at hj; subst hj; simp [Addr.add]
      case c2 => intro u hu; simp at hu; subst hu; rfl
      case c3 => unfold maxLen; omega
      case c4 => omega
      case c5 => simp; omega
      intro v' w2 hown' hgrow _
      have hnew : SplitInv l w (done ++ [r.take i]) (r.drop (i + 1)) v' w2 := by
        refine ⟨?_, ?_, ?_, ?_⟩
        · rw [HALL.out, HSP.out]; simp
        · simp; omega
        · rw [strs_snoc, List.length_append]; exact hown'
        · exact (HB.out.alloc (by omega) _).grown hgrow (by simp; omega) (fun k hk => (HO.out.lt k hk).1)
      obtain ⟨o', c', rfl⟩ : ∃ o c, v' = .slice o (done.length + 1) c := by
        rcases hown'.2 with ⟨h, h0⟩ | ⟨g, cap, cur, h, _⟩
        · omega
        · exact ⟨_, _, h⟩
      have hnew2 : ∃ c2, Value.slice o' (done.length + 1) c' = .slice o' (done ++ [r.take i]).length c2 ∧ SplitInv l w (done ++ [r.take i]) (r.drop (i + 1)) (.slice o' (done ++ [r.take i]).length c2) w2 := ⟨c', by simp, by simpa using hnew⟩
      obtain ⟨c2, hv2, hnew3⟩ := hnew2
      have HN := Lib.hid (And.intro hv2 hnew3)
      clear hnew hown' hgrow hv2 hnew3
      go_wp2_with fail
      exact ⟨⟨_, _, _, _, rfl, HN.out.1, Lib.hid HN.out.2⟩, by simp [bs_size]; omega⟩
    · have hsp := Pos.split_none hn
      have HSP := Lib.hid hsp
      clear hn hsp
      have q1 : decide ((-1 : Int) < 0) = true := by decide
      go_wp2_with (at_builtin; refine wpList_append_own _ rfl _ _ 34 rfl w.heap.size 9 i0 (.string ⟨#[]⟩) 1 16 Tryz.underlying34 hi hz0 hz1 hz2 rfl (by decide) _ _ _ rfl (HO.out.alloc _) ⟨w1.heap.size, 0, none⟩ 1 1 [.string (Nm.bs r)] rfl rfl ?d1 ?d2 ?d3 ?d4 ?d5 ?_)
      case d1 =>
        intro j u hj
        match j, hj with
        | 0, hj => simp at hj; subst hj; simp [Addr.add]
      case d2 => intro u hu; simp at hu; subst hu; rfl
      case d3 => unfold maxLen; omega
      case d4 => omega
      case d5 => simp; omega
      intro v' w2 hown' hgrow _
      have hfin : (w2.ownsRow w.heap.size 9 1 v' (Pos.split l).length (strs (Pos.split l)) ∧ (Pos.split l).length ≤ l.length + 1) ∧ Below w.heap.size w w2 := by
        refine ⟨⟨?_, ?_⟩, ?_⟩
        · rw [HALL.out, HSP.out, strs_snoc, List.length_append]; exact hown'
        · rw [HALL.out, HSP.out]; simp; omega
        · exact (HB.out.alloc (by omega) _).grown hgrow (by simp; omega) (fun k hk => (HO.out.lt k hk).1)
      have HN := Lib.hid hfin
      clear hfin hown' hgrow
      go_wp2_with fail
      go_ret
      exact ⟨⟨_, rfl, HN.out.1.1⟩, HN.out.1.2, HN.out.2⟩
end Go.Proofs.YtjmahgefijncaaaGreatFmt
