/- nameOf: plain data of one package as that of another. -/
import Derived.Test.YtjmahgefijncaaaGreatFmtJ3
import Derived.Test.YtjmahgefijncaaaGreatFmtJ36
import Derived.Test.YtjmahgefijncaaaGreatFmtJ37
import Derived.Test.YtjmahgefijncaaaGreatFmtJ38
set_option linter.unusedVariables false
set_option linter.unusedSimpArgs false
namespace Go.Proofs.YtjmahgefijncaaaGreatFmt
open Go Go.RowKit

theorem info_spart : ∃ i, Tryz.prog.info? 78 = some i ∧ i.zero = some (.agg #[.string ⟨#[]⟩, .string ⟨#[]⟩]) ∧ i.size = 2 ∧ i.bytes = 32 := info_parts (by kernel_rfl)
theorem info_sparts1 : ∃ i, Tryz.prog.info? 77 = some i ∧ i.zero = some (.slice none 0 0) ∧ i.size = 1 ∧ i.bytes = 24 := info_parts (by kernel_rfl)

/-- The outer round's head. -/
structure OfInv (n : Nm.Name) (w : World) (i : Nat) (vout : Value) (vs : List Value) (wr : World) : Prop where
  own : wr.ownsRow w.heap.size 77 1 vout i vs
  rows : RowsOwn 78 w.heap.size wr vs (n.take i)
  bel : Below w.heap.size w wr
def OfE (n : Nm.Name) (w : World) (i : Nat) (vout : Value) (wr : World) : Prop := ∃ vs, OfInv n w i vout vs wr

set_option maxRecDepth 100000 in
set_option maxHeartbeats 16000000 in
theorem name_of (v : Value) (n : Nm.Name) (w : World) (hN : NameIn w v n) (hn : n.length < 1000000000) (hps : ∀ ps ∈ n, ps.length < 1000000000) :
    Calls Tryz.prog 15 #[v] w fun e w' => ∃ v', e = .returned v' ∧ NameOwn 77 78 w.heap.size w' v' n ∧ Below w.heap.size w w' := by
  have HN := Lib.hid hN
  obtain ⟨od, cd, rfl, _⟩ := hN
  obtain ⟨i1, hi1, hz10, hz11, hz12⟩ := info_spart
  obtain ⟨i2, hi2, hz20, hz21, hz22⟩ := info_sparts1
  go_enter Tryz.func15, Tryz.ntmps15
  go_wp2_with fail
  go_loopw [3, 11] (fun t3 t11 wr => ∃ (i : Nat), t11 = .int .i64 i ∧ i ≤ n.length ∧ Hid (OfE n w i t3 wr)) (fun _ t11 _ => n.length - (intOf t11).toNat)
  case atStart => exact ⟨0, rfl, Nat.zero_le _, Lib.hid ⟨[], owns_start _ _ _ _, rfl, Below.refl _ _⟩⟩
  case round =>
    obtain ⟨i, rfl, hi, HE⟩ := hrel
    obtain ⟨vs, hinv⟩ := HE.out
    have HI := Lib.hid hinv
    clear hinv
    have hsz1 := HI.out.bel.size
    obtain ⟨o3, c3, rfl⟩ : ∃ o c, u3 = .slice o i c := by
      rcases HI.out.own.2 with ⟨h, h0⟩ | ⟨g, cap, cur, h, _⟩
      · exact ⟨none, 0, by rw [h, h0]⟩
      · exact ⟨_, _, h⟩
    by_cases hend : i = n.length
    · subst hend
      have t1 : decide ((n.length : Int) < (n.length : Int)) = false := by simp
      have hE : NameOwn 77 78 w.heap.size wr (.slice o3 n.length c3) n ∧ Below w.heap.size w wr := by
        refine ⟨⟨vs, HI.out.own, ?_⟩, HI.out.bel⟩
        have := HI.out.rows
        rw [List.take_length] at this
        exact this
      have HEE := Lib.hid hE
      clear hE
      go_wp2_with fail
      go_ret
      exact ⟨_, rfl, HEE.out.1, HEE.out.2⟩
    · have hlt : i < n.length := by omega
      have t1 : decide ((i : Int) < (n.length : Int)) = true := by simp; omega
      obtain ⟨ps, hp⟩ : ∃ ps, n[i]? = some ps := ⟨_, List.getElem?_eq_getElem hlt⟩
      have hpl : ps.length < 1000000000 := hps ps (List.mem_of_getElem? hp)
      obtain ⟨od', cd', e0, hrd⟩ := HN.out.stays HI.out.bel
      injection e0 with e0 _ e0'
      subst e0
      subst e0'
      obtain ⟨g, off, u, rfl, cr, hpa⟩ := hrd i ps hp
      obtain ⟨ov, cv, rfl, hpc⟩ := hpa
      have HPC := Lib.hid hpc
      have HP := Lib.hid hp
      clear hrd hpc hp HE hend
      go_wp2_with fail
      obtain ⟨wo, rfl⟩ : ∃ wo : World, wo = wr := ⟨_, rfl⟩
      go_loopw [6, 17] (fun t6 t17 wr => ∃ (j : Nat), t17 = .int .i64 j ∧ j ≤ ps.length ∧ Hid (wr.ownsRow wo.heap.size 78 2 t6 j (cellsOf (ps.take j)) ∧ Below wo.heap.size wo wr)) (fun _ t17 _ => ps.length - (intOf t17).toNat)
      case atStart => exact ⟨0, rfl, Nat.zero_le _, Lib.hid ⟨owns_start _ _ _ _, Below.refl _ _⟩⟩
      case round =>
        clear t1
        obtain ⟨j, rfl, hj, HJ⟩ := hrel
        have hsz2 := HJ.out.2.size
        obtain ⟨o6, c6, rfl⟩ : ∃ o c, u6 = .slice o j c := by
          rcases HJ.out.1.2 with ⟨h, h0⟩ | ⟨g, cap, cur, h, _⟩
          · exact ⟨none, 0, by rw [h, h0]⟩
          · exact ⟨_, _, h⟩
        by_cases hje : j = ps.length
        · subst hje
          have t2 : decide ((ps.length : Int) < (ps.length : Int)) = false := by simp
          have hown6 := HJ.out.1
          rw [List.take_length] at hown6
          have hb2 := HI.out.bel.trans (HJ.out.2.mono hsz1)
          have hout : wr.ownsRow w.heap.size 77 1 (.slice o3 i c3) i vs := owns_stays HI.out.own (fun g hg => HJ.out.2.block g (owns_lt HI.out.own g hg))
          have hrows : RowsOwn 78 w.heap.size wr vs (n.take i) := HI.out.rows.stays (fun g c hg => HJ.out.2.block g (blockLt hg))
          have hin : PartsOwn 78 wo.heap.size wr (.slice o6 ps.length c6) ps := hown6
          have hownW : (wr.alloc (.cells #[(.slice o6 ps.length c6)] 77)).ownsRow w.heap.size 77 1 (.slice o3 i c3) i vs := hout.alloc _
          have hnews : ∀ k u, ([(.slice o6 ps.length c6)] : List Value)[k]? = some u → (wr.alloc (.cells #[(.slice o6 ps.length c6)] 77)).cell? ((⟨wr.heap.size, 0, none⟩ : Addr).add k) = some u := by
            intro k u hk
            exact World.news_of_block (B := wr.heap.size) (heap_alloc_new wr _) k u (by simpa using hk)
          have h1c : ∀ u ∈ ([(.slice o6 ps.length c6)] : List Value), u.oneCell' = true := by
            intro u hu; simp at hu; subst hu
            obtain ⟨o, c, e⟩ := owns_form hin
            rw [e]; rfl
          have h63 : i + 1 ≤ maxLen := by simp only [maxLen]; omega
          have hby : (i + 1) * 24 ≤ 140737488355328 := by omega
          have hbase : w.heap.size ≤ (wr.alloc (.cells #[(.slice o6 ps.length c6)] 77)).heap.size := by simp; omega
          have HIN := Lib.hid hin
          have HB2 := Lib.hid hb2
          have HOUT := Lib.hid hout
          have HROWS := Lib.hid hrows
          clear hin hb2 hout hrows hown6
          go_wp2_with (at_builtin; go_loud (refine wpList_append_lies _ (by rfl) _ _ _ (by rfl) w.heap.size 77 i2 (.slice none 0 0) 1 24 Tryz.underlying22 hi2 hz20 hz21 hz22 rfl (by decide) (.slice o3 i c3) i vs (by rfl) hownW ⟨wr.heap.size, 0, none⟩ 1 1 [(.slice o6 ps.length c6)] (by rfl) rfl hnews h1c (by decide) h63 hby hbase (wr.heap.size + 1) (by simp) ?_))
          intro g' cap w4 hown' hgr hat hlt'
          have hE : OfE n w (i + 1) (.slice (some ⟨g', 0, none⟩) (i + 1) cap) w4 := by
            refine ⟨vs ++ [(.slice o6 ps.length c6)], hown', ?_, ?_⟩
            · rw [take_snoc HP.out]
              refine RowsOwn.snoc ((HIN.out.lower hsz1).stays fun k c hk => ?_) (HROWS.out.grown HOUT.out (by decide) hgr)
              rw [hgr.block k (by have := blockLt hk; simp; omega) (fun e => own_ne HOUT.out hk (by decide) e.symm), Below.heap_alloc _ _ _ (blockLt hk)]
            · exact (HB2.out.alloc (by omega) _).grown hgr (by simp; omega) (fun k hk => HOUT.out.lt k hk |>.1)
          have HE := Lib.hid hE
          clear hE hown' hgr hat hownW hnews h1c hby hbase
          go_wp2_with fail
          exact ⟨⟨i + 1, by go_num, by omega, HE⟩, by simp [intOf]; omega⟩
        · have hjl : j < ps.length := by omega
          have t2 : decide ((j : Int) < (ps.length : Int)) = true := by simp; omega
          obtain ⟨p, hp⟩ : ∃ p, ps[j]? = some p := ⟨_, List.getElem?_eq_getElem hjl⟩
          obtain ⟨gv, offv, rfl, ca, cb⟩ := HPC.out j p hp
          have cp0 : wr.cell? ⟨gv, offv + j * 2, none⟩ = some (.string (Nm.bs p.1)) := (HJ.out.2.cell (World.block_lt_of_cell? wo ⟨gv, offv + j * 2, none⟩ ca)).trans ca
          have cp1 : wr.cell? ⟨gv, offv + j * 2 + 1, none⟩ = some (.string (Nm.bs p.2)) := (HJ.out.2.cell (World.block_lt_of_cell? wo ⟨gv, offv + j * 2 + 1, none⟩ cb)).trans cb
          have hown6 := HJ.out.1
          have hts := take_snoc hp
          obtain ⟨W, hW⟩ : ∃ W, W = (wr.alloc (.cells #[.string (Nm.bs p.1), .string (Nm.bs p.2)] 70)).alloc (.cells #[.string (Nm.bs p.1), .string (Nm.bs p.2)] 78) := ⟨_, rfl⟩
          have hownW : W.ownsRow wo.heap.size 78 2 (.slice o6 j c6) j (cellsOf (ps.take j)) := by rw [hW]; exact (hown6.alloc _).alloc _
          have hnews : ∀ k u, ([.string (Nm.bs p.1), .string (Nm.bs p.2)] : List Value)[k]? = some u → W.cell? ((⟨wr.heap.size + 1, 0, none⟩ : Addr).add k) = some u := by
            intro k u hk
            exact World.news_of_block (w := W) (B := wr.heap.size + 1) (by rw [hW]; have := heap_alloc_new (wr.alloc (.cells #[.string (Nm.bs p.1), .string (Nm.bs p.2)] 70)) (.cells #[.string (Nm.bs p.1), .string (Nm.bs p.2)] 78); simpa using this) k u (by simpa using hk)
          have h1c : ∀ u ∈ ([.string (Nm.bs p.1), .string (Nm.bs p.2)] : List Value), u.oneCell' = true := by intro u hu; simp at hu; rcases hu with rfl | rfl <;> rfl
          have h63 : j + 1 ≤ maxLen := by simp only [maxLen]; omega
          have hby : (j + 1) * 32 ≤ 140737488355328 := by omega
          have hbase : wo.heap.size ≤ W.heap.size := by rw [hW]; simp; omega
          subst hW
          have HTS := Lib.hid hts
          clear hp hts ca cb
          go_wp2_with (at_builtin; go_loud (refine wpList_append_lies _ (by rfl) _ _ _ (by rfl) wo.heap.size 78 i1 (.agg #[.string ⟨#[]⟩, .string ⟨#[]⟩]) 2 32 Tryz.underlying77 hi1 hz10 hz11 hz12 rfl (by decide) _ j (cellsOf (ps.take j)) (by rfl) hownW ⟨wr.heap.size + 1, 0, none⟩ 1 1 [.string (Nm.bs p.1), .string (Nm.bs p.2)] (by rfl) rfl hnews h1c (by decide) h63 hby hbase (wr.heap.size + 1 + 1) (by simp) ?_))
          intro g' cap w4 hown' hgr hat hlt'
          have hE : w4.ownsRow wo.heap.size 78 2 (.slice (some ⟨g', 0, none⟩) (j + 1) cap) (j + 1) (cellsOf (ps.take (j + 1))) ∧ Below wo.heap.size wo w4 := by
            refine ⟨by rw [HTS.out, cellsOf_snoc]; exact hown', ?_⟩
            exact (((HJ.out.2.alloc (by omega) _).alloc (by simp; omega) _).grown hgr (by simp; omega) (fun k hk => hown6.lt k hk |>.1))
          have HE := Lib.hid hE
          clear hE hown' hgr hat hownW hnews h1c hby hbase
          go_wp2_with fail
          exact ⟨⟨j + 1, by go_num, by omega, HE⟩, by simp [intOf]; omega⟩
end Go.Proofs.YtjmahgefijncaaaGreatFmt

/- spec.nameReader: part. -/
namespace Go.Proofs.YtjmahgefijncaaaGreatFmt
open Go Go.RowKit

def POut (R : Nat) (l : List UInt8) (o : Bool) (x : Sp.O Nm.Part) (e : Ending) (w' : World) : Prop :=
  match x with
  | .opn => ∃ t v b i', e = .returned (.tuple #[.agg #[.string t, .string v], .bool b]) ∧ i' ≤ l.length ∧ NRd w' R l i' true
  | .bad => ∃ t v i', e = .returned (.tuple #[.agg #[.string t, .string v], .bool false]) ∧ i' ≤ l.length ∧ NRd w' R l i' o
  | .ok p rest => ∃ i', e = .returned (.tuple #[.agg #[.string (Nm.bs p.1), .string (Nm.bs p.2)], .bool true]) ∧ i' ≤ l.length ∧ rest = l.drop i' ∧ NRd w' R l i' o
theorem POut.open {R : Nat} {l : List UInt8} {o : Bool} {x : Sp.O Nm.Part} {e : Ending} {w' : World} (h : POut R l true x e w') : POut R l o .opn e w' := by
  cases x with
  | opn => exact h
  | bad => obtain ⟨t, v, i', h1, h2, h3⟩ := h; exact ⟨t, v, _, i', h1, h2, h3⟩
  | ok p rest => obtain ⟨i', h1, h2, -, h3⟩ := h; exact ⟨_, _, _, i', h1, h2, h3⟩

def rest (T : List UInt8 → Bool) (F : Nat) (t : List UInt8) : List UInt8 → Sp.O Nm.Part
  | [] => if t ≠ [] ∧ T t = false then .opn else .bad
  | c :: s1 =>
    if c = 61 then
      if T t = true then
        if s1[0]? = some 32 then .opn
        else if s1[0]? = some 35 then Sp.mapO t (Sp.hexs F (s1.drop 1) [])
        else Sp.mapO t (Sp.value F s1 [] false)
      else .opn
    else if t ≠ [] ∧ T t = false then .opn else .bad
theorem take_drop_while (p : UInt8 → Bool) : ∀ (A B : List UInt8), (∀ c ∈ A, p c = true) → (B = [] ∨ ∃ c s, B = c :: s ∧ p c = false) → (A ++ B).takeWhile p = A ∧ (A ++ B).dropWhile p = B
  | [], B, _, h => by
    rcases h with rfl | ⟨c, s, rfl, h⟩
    · exact ⟨rfl, rfl⟩
    · simp [List.takeWhile_cons, List.dropWhile_cons, h]
  | a :: A, B, hA, h => by
    obtain ⟨h1, h2⟩ := take_drop_while p A B (fun c hc => hA c (List.mem_cons_of_mem _ hc)) h
    have ha := hA a (List.mem_cons_self ..)
    simp [List.takeWhile_cons, List.dropWhile_cons, ha, h1, h2]
theorem spart_eq (T : List UInt8 → Bool) (F : Nat) {L A B : List UInt8} (hL : L = A ++ B) (hA : ∀ c ∈ A, Sp.ends c = false) (hB : B = [] ∨ ∃ c s, B = c :: s ∧ Sp.ends c = true) : Sp.part T F L = if A.any Sp.flag then .opn else rest T F A B := by
  obtain ⟨h1, h2⟩ := take_drop_while (fun c => !Sp.ends c) A B (fun c hc => by simp [hA c hc]) (by
    rcases hB with h | ⟨c, s, h, h3⟩
    · exact Or.inl h
    · exact Or.inr ⟨c, s, h, by simp [h3]⟩)
  subst hL
  unfold Sp.part
  rw [h1, h2]
  cases B with
  | nil => rfl
  | cons c s => rfl

/-- What has been seen of flags. -/
def og (l : List UInt8) (i0 j : Nat) (o : Bool) : Bool := o || ((l.drop i0).take (j - i0)).any Sp.flag
theorem sg_snoc {l : List UInt8} {i0 j : Nat} {c : UInt8} (h : i0 ≤ j) (hc : l[j]? = some c) : (l.drop i0).take (j + 1 - i0) = (l.drop i0).take (j - i0) ++ [c] := by
  rw [show j + 1 - i0 = (j - i0) + 1 by omega]
  refine take_snoc ?_
  rw [List.getElem?_drop, show i0 + (j - i0) = j by omega]; exact hc
theorem og_step {l : List UInt8} {i0 j : Nat} {o : Bool} {c : UInt8} (h : i0 ≤ j) (hc : l[j]? = some c) : og l i0 (j + 1) o = (og l i0 j o || Sp.flag c) := by
  unfold og
  rw [sg_snoc h hc, List.any_append]
  simp [Bool.or_assoc]
structure PI (w : World) (R N : Nat) (l : List UInt8) (o : Bool) (i0 j : Nat) (wr : World) : Prop where
  lo : i0 ≤ j
  le : j ≤ l.length
  non : ∀ c ∈ (l.drop i0).take (j - i0), Sp.ends c = false
  rd : NRd wr R l j (og l i0 j o)
  only : Only (· = R) w wr
  hN : wr.heap[N]? = some (.cells #[.string ⟨#[]⟩, .string ⟨#[]⟩] 78 (0, 0))
  hlo : w.heap.size ≤ N
/-- Behind the type: p lies in block P. -/
structure PS (w : World) (R N P : Nat) (l : List UInt8) (o : Bool) (j : Nat) (t : List UInt8) (wr : World) : Prop where
  rd : NRd wr R l j o
  only : Only (· = R) w wr
  hN : wr.heap[N]? = some (.cells #[.string ⟨#[]⟩, .string ⟨#[]⟩] 78 (0, 0))
  hP : wr.heap[P]? = some (.cells #[.string (Nm.bs t), .string ⟨#[]⟩] 78 (0, 0))
  nlo : w.heap.size ≤ N
  plo : w.heap.size ≤ P
  ne : N ≠ P
  nR : R < w.heap.size
theorem PS.step {w wr w2 : World} {R N P : Nat} {l t : List UInt8} {o o2 : Bool} {j j2 : Nat} (h : PS w R N P l o j t wr) (k : Only (· = R) wr w2) (hr : NRd w2 R l j2 o2) : PS w R N P l o2 j2 t w2 :=
  ⟨hr, h.only.trans k, (k.block N (blockLt h.hN) (by have := h.nlo; have := h.nR; simp; omega)).trans h.hN, (k.block P (blockLt h.hP) (by have := h.plo; have := h.nR; simp; omega)).trans h.hP, h.nlo, h.plo, h.ne, h.nR⟩
theorem PS.below {w wr w2 : World} {R N P : Nat} {l t : List UInt8} {o : Bool} {j : Nat} (h : PS w R N P l o j t wr) (k : Below wr.heap.size wr w2) : PS w R N P l o j t w2 :=
  h.step (Only.ofKeep (Keep.ofBelow (R := R) k)) (h.rd.stays k)
theorem set_other {w : World} {N R j : Nat} {v : Value} (h : N ≠ R) : (w.setCell ⟨R, j, none⟩ v).heap[N]? = w.heap[N]? := Below.heap_setCell _ _ _ _ (by intro e; exact h e)

/-- What a value's reading hands back. -/
def VForm (l : List UInt8) (o : Bool) (x : Sp.O (List UInt8)) (v : ByteArray) (b : Bool) (i' : Nat) (o' : Bool) : Prop :=
  match x with
  | .opn => o' = true
  | .bad => o' = o ∧ b = false
  | .ok a rest => o' = o ∧ b = true ∧ v = Nm.bs a ∧ rest = l.drop i'
theorem VOut.form {R : Nat} {l : List UInt8} {o : Bool} {x : Sp.O (List UInt8)} {e : Ending} {w' : World} (h : VOut R l o x e w') : ∃ v b i' o', e = .returned (.tuple #[.string v, .bool b]) ∧ i' ≤ l.length ∧ NRd w' R l i' o' ∧ VForm l o x v b i' o' := by
  cases x with
  | opn => obtain ⟨v, b, i', h1, h2, h3⟩ := h; exact ⟨v, b, i', true, h1, h2, h3, rfl⟩
  | bad => obtain ⟨v, i', h1, h2, h3⟩ := h; exact ⟨v, false, i', o, h1, h2, h3, rfl, rfl⟩
  | ok a r => obtain ⟨i', h1, h2, h3, h4⟩ := h; exact ⟨_, true, i', o, h1, h2, h4, rfl, rfl, rfl, h3⟩
theorem VForm.map {R : Nat} {l t : List UInt8} {o o' b : Bool} {x : Sp.O (List UInt8)} {v : ByteArray} {i' : Nat} {w' : World} (h : VForm l o x v b i' o') (hr : NRd w' R l i' o') (hi : i' ≤ l.length) :
    POut R l o (Sp.mapO t x) (.returned (.tuple #[.agg #[.string (Nm.bs t), .string v], .bool b])) w' := by
  cases x with
  | opn => have h : o' = true := h; subst h; exact ⟨_, _, _, i', rfl, hi, hr⟩
  | bad => obtain ⟨rfl, rfl⟩ := h; exact ⟨_, _, i', rfl, hi, hr⟩
  | ok a r => obtain ⟨rfl, rfl, rfl, h3⟩ := h; exact ⟨i', rfl, hi, h3, hr⟩
theorem peek_iff {l : List UInt8} {j : Nat} (d : UInt8) (hd : d.toNat ≠ 0) : (l[j]? = some d) ↔ peekN l j = d.toNat := by
  unfold peekN
  cases h : l[j]? with
  | none => simp; omega
  | some c => simp; exact ⟨fun e => by rw [e], fun e => UInt8.toNat_inj.1 e⟩
theorem two_set {w : World} {g : Nat} {x0 x1 : Value} {t : TypeId} {fr : Nat × Nat} (h : w.heap[g]? = some (.cells #[x0, x1] t fr)) (a b : Value) :
    ((w.setCell ⟨g, 0, none⟩ a).setCell ⟨g, 1, none⟩ b).heap[g]? = some (.cells #[a, b] t fr) := by
  have e := blockSet (blockSet h 0 a) 1 b
  simpa using e
theorem results_cell_one {P : Program} {fn : Func} {p a : Tmp} {ty : TypeId} (h : fn.results = #[.cell p ty, .tmp a]) (tmps : Array Value) (w : World) (g : Nat) (t : TypeId) (cs : Array Value) (fr : Nat × Nat) (d : TypeDesc)
    (hp : tmps.getD p undef = .pointer (some ⟨g, 0, none⟩)) (hg : w.heap[g]? = some (.cells cs t fr))
    (hu : P.underlying ty = some d) (hd : (match d with | .struct _ | .array _ _ => true | _ => false) = true) (hi : (P.info? ty).map (·.size) = some cs.size) :
    (results fn tmps).run P w = .ok (.tuple #[.agg cs, tmps.getD a undef]) w := by
  have hp' : tmps[p]?.getD undef = .pointer (some ⟨g, 0, none⟩) := by simpa using hp
  simp [results, h, hp', asAddr, run_loadVar_row w g t ty cs fr d hg hu hd hi]
theorem PS.cells {w wr : World} {R N P : Nat} {l t : List UInt8} {o : Bool} {j : Nat} (h : PS w R N P l o j t wr) :
    wr.cell? ⟨P, 0, none⟩ = some (.string (Nm.bs t)) ∧ wr.cell? ⟨P, 1, none⟩ = some (.string ⟨#[]⟩) ∧ wr.frozen? ⟨P, 1, none⟩ = false ∧ wr.cell? ⟨N, 0, none⟩ = some (.string ⟨#[]⟩) ∧ wr.cell? ⟨N, 1, none⟩ = some (.string ⟨#[]⟩) ∧ wr.frozen? ⟨N, 0, none⟩ = false ∧ wr.frozen? ⟨N, 1, none⟩ = false ∧
    wr.cell? ⟨R, 1, none⟩ = some (.int .i64 j) ∧ wr.frozen? ⟨R, 1, none⟩ = false ∧ wr.cell? ⟨R, 2, none⟩ = some (.bool o) ∧ wr.frozen? ⟨R, 2, none⟩ = false :=
  ⟨blockCell h.hP 0, blockCell h.hP 1, blockFrozen h.hP 1, blockCell h.hN 0, blockCell h.hN 1, blockFrozen h.hN 0, blockFrozen h.hN 1, blockCell h.rd 1, blockFrozen h.rd 1, blockCell h.rd 2, blockFrozen h.rd 2⟩
theorem PS.set {w wr : World} {R N P : Nat} {l t : List UInt8} {o o2 : Bool} {j j2 : Nat} (h : PS w R N P l o j t wr) (i : Nat) (v : Value) (hr : NRd (wr.setCell ⟨R, i, none⟩ v) R l j2 o2) : PS w R N P l o2 j2 t (wr.setCell ⟨R, i, none⟩ v) :=
  h.step ((Only.refl (· = R) wr).setOne i v) hr
/-- The result is laid. -/
theorem PS.put {w wr : World} {R N P : Nat} {l t : List UInt8} {o : Bool} {j : Nat} (h : PS w R N P l o j t wr) (a b : Value) :
    ((wr.setCell ⟨N, 0, none⟩ a).setCell ⟨N, 1, none⟩ b).heap[N]? = some (.cells #[a, b] 78 (0, 0)) ∧ NRd ((wr.setCell ⟨N, 0, none⟩ a).setCell ⟨N, 1, none⟩ b) R l j o ∧ Only (· = R) w ((wr.setCell ⟨N, 0, none⟩ a).setCell ⟨N, 1, none⟩ b) := by
  have hne : R ≠ N := by have := h.nlo; have := h.nR; omega
  exact ⟨two_set h.hN a b, (set_other hne).trans ((set_other hne).trans h.rd), (h.only.setCell (p := ⟨N, 0, none⟩) (Or.inl h.nlo) a).setCell (p := ⟨N, 1, none⟩) (Or.inl h.nlo) b⟩
theorem PS.put2 {w wr : World} {R N P : Nat} {l t : List UInt8} {o : Bool} {j : Nat} (h : PS w R N P l o j t wr) (v a b : Value) :
    (((wr.setCell ⟨P, 1, none⟩ v).setCell ⟨N, 0, none⟩ a).setCell ⟨N, 1, none⟩ b).heap[N]? = some (.cells #[a, b] 78 (0, 0)) ∧ NRd (((wr.setCell ⟨P, 1, none⟩ v).setCell ⟨N, 0, none⟩ a).setCell ⟨N, 1, none⟩ b) R l j o ∧ Only (· = R) w (((wr.setCell ⟨P, 1, none⟩ v).setCell ⟨N, 0, none⟩ a).setCell ⟨N, 1, none⟩ b) := by
  have hne : R ≠ N := by have := h.nlo; have := h.nR; omega
  have hnp : R ≠ P := by have := h.plo; have := h.nR; omega
  exact ⟨two_set ((set_other h.ne).trans h.hN) a b, (set_other hne).trans ((set_other hne).trans ((set_other hnp).trans h.rd)), ((h.only.setCell (p := ⟨P, 1, none⟩) (Or.inl h.plo) v).setCell (p := ⟨N, 0, none⟩) (Or.inl h.nlo) a).setCell (p := ⟨N, 1, none⟩) (Or.inl h.nlo) b⟩
theorem PS.cells2 {w wr : World} {R N P : Nat} {l t : List UInt8} {o : Bool} {j : Nat} (h : PS w R N P l o j t wr) (v : Value) :
    (wr.setCell ⟨P, 1, none⟩ v).cell? ⟨P, 0, none⟩ = some (.string (Nm.bs t)) ∧ (wr.setCell ⟨P, 1, none⟩ v).cell? ⟨P, 1, none⟩ = some v ∧ (wr.setCell ⟨P, 1, none⟩ v).cell? ⟨N, 0, none⟩ = some (.string ⟨#[]⟩) ∧ (wr.setCell ⟨P, 1, none⟩ v).cell? ⟨N, 1, none⟩ = some (.string ⟨#[]⟩) ∧ (wr.setCell ⟨P, 1, none⟩ v).frozen? ⟨N, 0, none⟩ = false ∧ (wr.setCell ⟨P, 1, none⟩ v).frozen? ⟨N, 1, none⟩ = false := by
  have hb := blockSet h.hP 1 v
  have hn := (set_other (w := wr) (R := P) (j := 1) (v := v) h.ne).trans h.hN
  exact ⟨blockCell hb 0, blockCell hb 1, blockCell hn 0, blockCell hn 1, blockFrozen hn 0, blockFrozen hn 1⟩
theorem rest_no {T : List UInt8 → Bool} {F : Nat} {A B : List UInt8} (h : B[0]? ≠ some 61) : rest T F A B = if A ≠ [] ∧ T A = false then .opn else .bad := by
  cases B with
  | nil => rfl
  | cons c s =>
    have hc : c ≠ 61 := fun e => h (by rw [e]; rfl)
    show (if c = 61 then _ else _) = _
    rw [if_neg hc]
theorem rest_yes (T : List UInt8 → Bool) (F : Nat) (A s1 : List UInt8) : rest T F A (61 :: s1) = if T A = true then (if s1[0]? = some 32 then .opn else if s1[0]? = some 35 then Sp.mapO A (Sp.hexs F (s1.drop 1) []) else Sp.mapO A (Sp.value F s1 [] false)) else .opn := by
  exact (show rest T F A (61 :: s1) = if (61 : UInt8) = 61 then (if T A = true then (if s1[0]? = some 32 then .opn else if s1[0]? = some 35 then Sp.mapO A (Sp.hexs F (s1.drop 1) []) else Sp.mapO A (Sp.value F s1 [] false)) else .opn) else (if A ≠ [] ∧ T A = false then .opn else .bad) from rfl).trans (if_pos rfl)
theorem head_drop (l : List UInt8) (j : Nat) : (l.drop j)[0]? = l[j]? := by rw [List.getElem?_drop, Nat.add_zero]
theorem or9 : ∀ b32 b59 b34 b60 b62 b0 b92 b35 b128 : Bool, (b32 = true) ∨ (b32 = false ∧ b59 = true) ∨ (b32 = false ∧ b59 = false ∧ b34 = true) ∨ (b32 = false ∧ b59 = false ∧ b34 = false ∧ b60 = true) ∨ (b32 = false ∧ b59 = false ∧ b34 = false ∧ b60 = false ∧ b62 = true) ∨ (b32 = false ∧ b59 = false ∧ b34 = false ∧ b60 = false ∧ b62 = false ∧ b0 = true) ∨ (b32 = false ∧ b59 = false ∧ b34 = false ∧ b60 = false ∧ b62 = false ∧ b0 = false ∧ b92 = true) ∨ (b32 = false ∧ b59 = false ∧ b34 = false ∧ b60 = false ∧ b62 = false ∧ b0 = false ∧ b92 = false ∧ b35 = true) ∨ (b32 = false ∧ b59 = false ∧ b34 = false ∧ b60 = false ∧ b62 = false ∧ b0 = false ∧ b92 = false ∧ b35 = false ∧ b128 = true) ∨ (b32 = false ∧ b59 = false ∧ b34 = false ∧ b60 = false ∧ b62 = false ∧ b0 = false ∧ b92 = false ∧ b35 = false ∧ b128 = false) := by
  intro b32 b59 b34 b60 b62 b0 b92 b35 b128
  cases b32 <;> simp <;> cases b59 <;> simp <;> cases b34 <;> simp <;> cases b60 <;> simp <;> cases b62 <;> simp <;> cases b0 <;> simp <;> cases b92 <;> simp <;> cases b35 <;> simp <;> cases b128 <;> simp
end Go.Proofs.YtjmahgefijncaaaGreatFmt

