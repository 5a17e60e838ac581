/- dn: a name as plain data becomes one with pointers. -/
import Derived.Test.YtjmahgefijncaaaGreatFmtNIn
import Derived.Test.YtjmahgefijncaaaGreatFmtAdd
import Derived.Test.YtjmahgefijncaaaGreatFmtRowsOf
namespace Go.Proofs.YtjmahgefijncaaaGreatFmt
open Go Go.RowKit

/-- The relative name at hand, in block R: all that it needs lies above R. -/
structure MkR (R : Nat) (ps : List Nm.Part) (v : Value) (xs : List Value) (w1 w : World) : Prop where
  hR : w.heap[R]? = some (.cells #[v] 118 (0, 0))
  own : w.ownsRow 0 119 1 v xs.length xs
  low : ∀ k, v.ownBlock = some k → R < k
  parts : PartsAt w (fun k => R < k ∧ k < w.heap.size ∧ v.ownBlock ≠ some k) xs ps
  bel : Below R w1 w
structure MkD (D : Nat) (n : Nm.Name) (v : Value) (xs : List Value) (w1 w : World) : Prop where
  hD : w.heap[D]? = some (.cells #[v] 114 (0, 0))
  own : w.ownsRow 0 115 1 v xs.length xs
  low : ∀ k, v.ownBlock = some k → D < k
  rdns : RdnsAt w (fun k => D < k ∧ k < w.heap.size ∧ v.ownBlock ≠ some k) xs n
  bel : Below D w1 w

theorem only_below {S : Nat → Prop} {B : Nat} {w w' : World} (h : Only S w w') (hB : B ≤ w.heap.size) (hS : ∀ k, S k → B ≤ k) : Below B w w' :=
  ⟨h.os, h.tape, h.output, h.size, fun k hk => h.block k (by omega) (fun e => by have := hS k e; omega)⟩

theorem MkR.step {R : Nat} {ps : List Nm.Part} {v v' : Value} {xs : List Value} {w1 w w' : World} (h : MkR R ps v xs w1 w) {oA : Obj} {p : Nm.Part}
    (k : Longer 119 118 R v xs (.pointer (some ⟨w.heap.size + 1, 0, none⟩)) ((w.alloc oA).alloc (.cells #[.string (Nm.bs p.1), .string (Nm.bs p.2)] 120 (0, 0))) w' v') :
    MkR R (ps ++ [p]) v' (xs ++ [.pointer (some ⟨w.heap.size + 1, 0, none⟩)]) w1 w' := by
  have hRlt := blockLt h.hR
  obtain ⟨wb, hwb⟩ : ∃ wb, wb = (w.alloc oA).alloc (.cells #[.string (Nm.bs p.1), .string (Nm.bs p.2)] 120 (0, 0)) := ⟨_, rfl⟩
  rw [← hwb] at k
  have hz : wb.heap.size = w.heap.size + 2 := by rw [hwb]; simp
  have hold : ∀ i, i < w.heap.size → wb.heap[i]? = w.heap[i]? := fun i hi => by
    rw [hwb, Below.heap_alloc _ _ _ (by simp; omega), Below.heap_alloc _ _ _ hi]
  have hp : wb.heap[w.heap.size + 1]? = some (.cells #[.string (Nm.bs p.1), .string (Nm.bs p.2)] 120 (0, 0)) := by
    rw [hwb]
    have := heap_alloc_new (w.alloc oA) (.cells #[.string (Nm.bs p.1), .string (Nm.bs p.2)] 120 (0, 0))
    rwa [World.size_alloc] at this
  have hvl := owns_lt h.own
  have hsz := k.only.size
  have hat : ∀ g, v'.ownBlock = some g → v.ownBlock = some g ∨ wb.heap.size ≤ g := fun g hg => by
    rcases k.at' with e | ⟨g', e, hle⟩
    · exact Or.inl (e ▸ hg)
    · rw [e] at hg; right; rw [← Option.some.inj hg]; exact hle
  have hkeep : ∀ i, i < wb.heap.size → i ≠ R → v.ownBlock ≠ some i → w'.heap[i]? = wb.heap[i]? := fun i hi h1 h2 => k.only.block i hi (by rintro (e | e); exact h1 e; exact h2 e)
  have hpne : v.ownBlock ≠ some (w.heap.size + 1) := fun e => by have := hvl _ e; omega
  refine ⟨k.block, by rw [List.length_append]; exact k.own, fun g hg => ?_, ?_, ?_⟩
  · rcases hat g hg with e | e
    · exact h.low g e
    · omega
  · refine PartsAt.snoc ?_ ((hkeep _ (by omega) (by omega) hpne).trans hp) (h.parts.stays (fun i hi => ?_) (fun i hi => ?_))
    · refine ⟨by omega, by omega, fun e => ?_⟩
      rcases hat _ e with e | e
      · exact hpne e
      · omega
    · rw [hkeep i (by omega) (by omega) hi.2.2, hold i hi.2.1]
    · refine ⟨hi.1, by omega, fun e => ?_⟩
      rcases hat _ e with e | e
      · exact hi.2.2 e
      · omega
  · have h1 : Below R w1 wb := by rw [hwb]; exact (h.bel.alloc (by omega) _).alloc (by simp; omega) _
    exact h1.trans (only_below k.only (by omega) (fun i hi => by
      rcases hi with e | e
      · omega
      · have := h.low i e; omega))

theorem MkR.done {R : Nat} {ps : List Nm.Part} {v : Value} {xs : List Value} {w1 w : World} (h : MkR R ps v xs w1 w) {T : Nat → Prop} (hT : ∀ k, R ≤ k → k < w.heap.size → T k) : RdnAt w T R ps := by
  have hRlt := blockLt h.hR
  refine ⟨hT R (Nat.le_refl _) hRlt, v, xs, h.hR, h.own, fun k hk => hT k (by have := h.low k hk; omega) (owns_lt h.own k hk), h.parts.stays (fun _ _ => rfl) (fun i hi => hT i (by omega) hi.2.1)⟩

/-- The name at hand while a relative name is made above it. -/
theorem MkD.stays {D : Nat} {n : Nm.Name} {v : Value} {xs : List Value} {w1 w w' : World} {B : Nat} (h : MkD D n v xs w1 w) (k : Below B w w') (hB : w.heap.size ≤ B) : MkD D n v xs w1 w' := by
  have hDlt := blockLt h.hD
  have hvl := owns_lt h.own
  have hsz := k.size
  refine ⟨(k.block D (by omega)).trans h.hD, owns_stays h.own (fun g hg => k.block g (by have := hvl g hg; omega)), h.low, h.rdns.stays (fun i hi => k.block i (by have := hi.2.1; omega)) (fun i hi => ⟨hi.1, by have := hi.2.1; omega, hi.2.2⟩), h.bel.trans (k.mono (by omega))⟩

theorem MkD.step {D R : Nat} {n : Nm.Name} {ps : List Nm.Part} {v v' : Value} {xs : List Value} {w1 w w' : World} (h : MkD D n v xs w1 w) (hr : RdnAt w (fun k => D < k ∧ k < w.heap.size ∧ v.ownBlock ≠ some k) R ps)
    (k : Longer 115 114 D v xs (.pointer (some ⟨R, 0, none⟩)) w w' v') : MkD D (n ++ [ps]) v' (xs ++ [.pointer (some ⟨R, 0, none⟩)]) w1 w' := by
  have hDlt := blockLt h.hD
  have hvl := owns_lt h.own
  have hsz := k.only.size
  have hat : ∀ g, v'.ownBlock = some g → v.ownBlock = some g ∨ w.heap.size ≤ g := fun g hg => by
    rcases k.at' with e | ⟨g', e, hle⟩
    · exact Or.inl (e ▸ hg)
    · rw [e] at hg; right; rw [← Option.some.inj hg]; exact hle
  have hkeep : ∀ i, (D < i ∧ i < w.heap.size ∧ v.ownBlock ≠ some i) → w'.heap[i]? = w.heap[i]? := fun i hi => k.only.block i hi.2.1 (by rintro (e | e); omega; exact hi.2.2 e)
  have hT : ∀ i, (D < i ∧ i < w.heap.size ∧ v.ownBlock ≠ some i) → (D < i ∧ i < w'.heap.size ∧ v'.ownBlock ≠ some i) := fun i hi => ⟨hi.1, by have := hi.2.1; omega, fun e => by
    rcases hat _ e with e | e
    · exact hi.2.2 e
    · have := hi.2.1; omega⟩
  refine ⟨k.block, by rw [List.length_append]; exact k.own, fun g hg => ?_, RdnsAt.snoc (hr.stays hkeep hT) (h.rdns.stays hkeep hT), ?_⟩
  · rcases hat g hg with e | e
    · exact h.low g e
    · omega
  · exact h.bel.trans (only_below k.only (by omega) (fun i hi => by
      rcases hi with e | e
      · omega
      · have := h.low i e; omega))

theorem MkD.done {D : Nat} {n : Nm.Name} {v : Value} {xs : List Value} {w1 w : World} (h : MkD D n v xs w1 w) : DnIn w D n :=
  DnAt.in' (S := fun _ => True) ⟨trivial, v, xs, h.hD, h.own, fun _ _ => trivial, h.rdns.stays (fun _ _ => rfl) (fun _ _ => trivial)⟩

theorem longer_end2 {e t : TypeId} {R : Nat} {v : Value} {xs : List Value} {u : Value} {w w4 : World} {o : Obj} {g cap : Nat} (hR : w.heap[R]? = some (.cells #[v] t (0, 0))) (hvR : v.ownBlock ≠ some R)
    (hown : w4.ownsRow 0 e 1 (.slice (some ⟨g, 0, none⟩) (xs.length + 1) cap) (xs.length + 1) (xs ++ [u])) (hgr : (w.alloc o).grownBy w4 v.ownBlock) (hat : v.ownBlock = some g ∨ g = w.heap.size + 1) :
    LongerSome e t R v xs u w (w4.setCell ⟨R, 0, none⟩ (.slice (some ⟨g, 0, none⟩) (xs.length + 1) cap)) :=
  longer_end hR hvR hown ⟨hgr.os, hgr.tape, hgr.output, hgr.size, hgr.block⟩ hat

def MkRE (R : Nat) (ps : List Nm.Part) (w1 w : World) : Prop := ∃ v xs, MkR R ps v xs w1 w
def MkDE (D : Nat) (n : Nm.Name) (w1 w : World) : Prop := ∃ v xs, MkD D n v xs w1 w

set_option maxRecDepth 100000 in
set_option maxHeartbeats 16000000 in
theorem dn_mk (v : Value) (n : Nm.Name) (w : World) (hN : NameIn w v n) (hn : n.length < 1000000000) (hps : ∀ ps ∈ n, ps.length < 1000000000) :
    Calls Tryz.prog 56 #[v] w fun e w' => ∃ d, e = .returned (.pointer (some ⟨d, 0, none⟩)) ∧ DnIn w' d n ∧ Below w.heap.size w w' := by
  have HN := Lib.hid hN
  obtain ⟨od, cd, rfl, _⟩ := hN
  obtain ⟨i1, hi1, hz10, hz11, hz12⟩ := info_atv
  obtain ⟨i2, hi2, hz20, hz21, hz22⟩ := info_rdn
  have HPS := Lib.hid hps
  clear hps
  go_enter Tryz.func56, Tryz.ntmps56
  go_wp2_with fail
  have h0 : MkDE w.heap.size [] w (w.alloc (.cells #[.slice none 0 0] 114 (0, 0))) := ⟨_, _, heap_alloc_new w _, owns_start _ _ _ _, fun k hk => by simp [Value.ownBlock] at hk, rfl, (Below.refl _ w).alloc (Nat.le_refl _) _⟩
  have H0 := Lib.hid h0
  clear h0
  go_loopw [13] (fun t13 wr => ∃ (i : Nat), t13 = .int .i64 i ∧ i ≤ n.length ∧ Hid (MkDE w.heap.size (n.take i) w wr)) (fun t13 _ => n.length - (intOf t13).toNat)
  case atStart => exact ⟨0, rfl, Nat.zero_le _, H0⟩
  case round =>
    clear H0
    obtain ⟨i, rfl, hi, HE⟩ := hrel
    obtain ⟨vd, ds, hinv⟩ := HE.out
    have HI := Lib.hid hinv
    have hszD := blockLt hinv.hD
    have hsz1 := hinv.bel.size
    clear hinv HE
    by_cases hend : i = n.length
    · have t1 : decide ((i : Int) < (n.length : Int)) = false := by simp; omega
      have hE : DnIn wr w.heap.size n ∧ Below w.heap.size w wr := by
        refine ⟨?_, HI.out.bel⟩
        have := HI.out.done
        rwa [hend, List.take_length] at this
      have HEE := Lib.hid hE
      clear hE
      go_wp2_with fail
      go_ret
      exact ⟨_, rfl, HEE.out.1, HEE.out.2⟩
    · have hlt : i < n.length := by omega
      have t1 : decide ((i : Int) < (n.length : Int)) = true := by simp; omega
      obtain ⟨ps, hp⟩ : ∃ ps, n[i]? = some ps := ⟨_, List.getElem?_eq_getElem hlt⟩
      have hpl : ps.length < 1000000000 := HPS.out ps (List.mem_of_getElem? hp)
      obtain ⟨od', cd', e0, hrd⟩ := HN.out.stays HI.out.bel
      injection e0 with e0 _ e0'
      subst e0
      subst e0'
      obtain ⟨g, off, u, rfl, cr, hpa⟩ := hrd i ps hp
      obtain ⟨ov, cv, rfl, hpc⟩ := hpa
      have HPC := Lib.hid hpc
      have HP := Lib.hid hp
      clear hrd hpc hp hend
      go_wp2_with fail
      obtain ⟨wo, rfl⟩ : ∃ wo : World, wo = wr := ⟨_, rfl⟩
      obtain ⟨w1, hw1⟩ : ∃ w1, w1 = wo.alloc (.cells #[.slice none 0 0] 118 (0, 0)) := ⟨_, rfl⟩
      have h0 : MkRE wo.heap.size [] wo w1 := by
        rw [hw1]; exact ⟨_, _, heap_alloc_new wo _, owns_start _ _ _ _, fun k hk => by simp [Value.ownBlock] at hk, rfl, (Below.refl _ wo).alloc (Nat.le_refl _) _⟩
      have H0 := Lib.hid h0
      rw [← hw1]
      clear h0 hw1
      go_loopw [21] (fun t21 wr => ∃ (j : Nat), t21 = .int .i64 j ∧ j ≤ ps.length ∧ Hid (MkRE wo.heap.size (ps.take j) wo wr)) (fun t21 _ => ps.length - (intOf t21).toNat)
      case atStart => exact ⟨0, rfl, Nat.zero_le _, H0⟩
      case round =>
        clear t1 H0
        obtain ⟨j, rfl, hj, HJ⟩ := hrel
        obtain ⟨vr, xs, hinv⟩ := HJ.out
        have HJ2 := Lib.hid hinv
        have hRl := blockLt hinv.hR
        have hbz := hinv.bel.size
        have hxl : xs.length = j := by rw [hinv.parts.len, List.length_take]; omega
        clear hinv HJ
        by_cases hje : j = ps.length
        · have t2 : decide ((j : Int) < (ps.length : Int)) = false := by simp; omega
          have hMD := HI.out.stays HJ2.out.bel (Nat.le_refl _)
          have hRD : RdnAt wr (fun k => w.heap.size < k ∧ k < wr.heap.size ∧ vd.ownBlock ≠ some k) wo.heap.size ps := by
            have := HJ2.out
            rw [hje, List.take_length] at this
            exact this.done (fun k h1 h2 => ⟨by omega, h2, fun e => by have := owns_lt HI.out.own k e; omega⟩)
          obtain ⟨o, cp, rfl⟩ := own_len hMD.own
          have hdl : ds.length = i := by rw [hMD.rdns.len, List.length_take]; omega
          have hvR : (Value.slice o ds.length cp).ownBlock ≠ some w.heap.size := own_ne hMD.own hMD.hD (by decide)
          have c2 : wr.cell? ⟨w.heap.size, 0, none⟩ = some (.slice o ds.length cp) := blockCell hMD.hD 0
          have hownW : (wr.alloc (.cells #[.pointer (some ⟨wo.heap.size, 0, none⟩)] 115 (0, 0))).ownsRow 0 115 1 (.slice o ds.length cp) ds.length ds := hMD.own.alloc _
          have hnews : ∀ k u, ([.pointer (some ⟨wo.heap.size, 0, none⟩)] : List Value)[k]? = some u → (wr.alloc (.cells #[.pointer (some ⟨wo.heap.size, 0, none⟩)] 115 (0, 0))).cell? ((⟨wr.heap.size, 0, none⟩ : Addr).add k) = some u :=
            fun k u hk => World.news_of_block (B := wr.heap.size) (heap_alloc_new wr _) k u (by simpa using hk)
          have h1c : ∀ u ∈ ([.pointer (some ⟨wo.heap.size, 0, none⟩)] : List Value), u.oneCell' = true := by intro u hu; simp at hu; subst hu; rfl
          have h63 : ds.length + 1 ≤ maxLen := by simp only [maxLen]; omega
          have hby : (ds.length + 1) * 8 ≤ 140737488355328 := by omega
          have HMD := Lib.hid hMD
          have HRD := Lib.hid hRD
          clear hMD hRD hdl hxl
          go_wp2_with (at_builtin; go_loud (refine wpList_append_lies _ (by rfl) _ _ _ (by rfl) 0 115 i2 (.pointer none) 1 8 Tryz.underlying112 hi2 hz20 hz21 hz22 rfl (by decide) (.slice o ds.length cp) ds.length ds (by rfl) hownW ⟨wr.heap.size, 0, none⟩ 1 1 [.pointer (some ⟨wo.heap.size, 0, none⟩)] (by rfl) rfl hnews h1c (by decide) h63 hby (Nat.zero_le _) (wr.heap.size + 1) (by simp) ?_))
          intro g' cap w4 hown' hgr hat hlt'
          have hD4 : w4.heap[w.heap.size]? = some (.cells #[.slice o ds.length cp] 114 (0, 0)) := (hgr.block _ (by simp; omega) (fun e => hvR e.symm)).trans ((Below.heap_alloc _ _ _ (by omega)).trans HMD.out.hD)
          have e2 : w4.cell? ⟨w.heap.size, 0, none⟩ = some (.slice o ds.length cp) := blockCell hD4 0
          have g2 := blockFrozen hD4 0
          have HE := Lib.hid (longer_end2 HMD.out.hD hvR hown' hgr hat)
          clear hown' hgr hat hownW hnews h1c hby hD4
          go_wp2_with fail
          obtain ⟨v', hl⟩ := HE.out
          have hnext := HMD.out.step HRD.out hl
          rw [← take_snoc HP.out] at hnext
          exact ⟨⟨i + 1, by go_num, by omega, Lib.hid ⟨_, _, hnext⟩⟩, by simp [intOf]; omega⟩
        · have hjl : j < ps.length := by omega
          have t2 : decide ((j : Int) < (ps.length : Int)) = true := by simp; omega
          obtain ⟨p, hp⟩ : ∃ p, ps[j]? = some p := ⟨_, List.getElem?_eq_getElem hjl⟩
          obtain ⟨gv, offv, rfl, ca, cb⟩ := HPC.out j p hp
          have cp0 : wr.cell? ⟨gv, offv + j * 2, none⟩ = some (.string (Nm.bs p.1)) := (HJ2.out.bel.cell (World.block_lt_of_cell? wo ⟨gv, offv + j * 2, none⟩ ca)).trans ca
          have cp1 : wr.cell? ⟨gv, offv + j * 2 + 1, none⟩ = some (.string (Nm.bs p.2)) := (HJ2.out.bel.cell (World.block_lt_of_cell? wo ⟨gv, offv + j * 2 + 1, none⟩ cb)).trans cb
          have hts := take_snoc hp
          have HTS := Lib.hid hts
          clear hts ca cb hp
          go_wp2_with fail
          obtain ⟨o, cp, rfl⟩ := own_len HJ2.out.own
          have hR0 := HJ2.out.hR
          have hvR : (Value.slice o xs.length cp).ownBlock ≠ some wo.heap.size := own_ne HJ2.out.own hR0 (by decide)
          have h63 : xs.length + 1 ≤ maxLen := by simp only [maxLen]; omega
          have hby : (xs.length + 1) * 8 ≤ 140737488355328 := by omega
          obtain ⟨oA, hoA⟩ : ∃ oA : Obj, oA = .cells #[.string (Nm.bs p.1), .string (Nm.bs p.2)] 70 (0, 0) := ⟨_, rfl⟩
          obtain ⟨oB, hoB⟩ : ∃ oB : Obj, oB = .cells #[.string (Nm.bs p.1), .string (Nm.bs p.2)] 120 (0, 0) := ⟨_, rfl⟩
          obtain ⟨oC, hoC⟩ : ∃ oC : Obj, oC = .cells #[.pointer (some ⟨wr.heap.size + 1, 0, none⟩)] 119 (0, 0) := ⟨_, rfl⟩
          have b1 : (wr.alloc oA).heap[wo.heap.size]? = some (.cells #[.slice o xs.length cp] 118 (0, 0)) := (Below.heap_alloc _ _ _ hRl).trans hR0
          have b2 : ((wr.alloc oA).alloc oB).heap[wo.heap.size]? = some (.cells #[.slice o xs.length cp] 118 (0, 0)) := (Below.heap_alloc _ _ _ (by simp; omega)).trans b1
          have b3 : (((wr.alloc oA).alloc oB).alloc oC).heap[wo.heap.size]? = some (.cells #[.slice o xs.length cp] 118 (0, 0)) := (Below.heap_alloc _ _ _ (by simp; omega)).trans b2
          have a1 : (wr.alloc oA).heap[wr.heap.size]? = some oA := heap_alloc_new wr oA
          have a2 : ((wr.alloc oA).alloc oB).heap[wr.heap.size]? = some oA := (Below.heap_alloc _ _ _ (by simp)).trans a1
          have hnewC : (((wr.alloc oA).alloc oB).alloc oC).heap[wr.heap.size + 1 + 1]? = some oC := by
            have := heap_alloc_new ((wr.alloc oA).alloc oB) oC
            simpa using this
          have hownC : (((wr.alloc oA).alloc oB).alloc oC).drew.ownsRow 0 119 1 (.slice o xs.length cp) xs.length xs := ((HJ2.out.own.alloc _).alloc _).alloc _
          have hcB : (((wr.alloc oA).alloc oB).alloc oC).drew.heap[wo.heap.size]? = some (.cells #[.slice o xs.length cp] 118 (0, 0)) := b3
          have hgrow : ∀ w4 : World, (((wr.alloc oA).alloc oB).alloc oC).drew.grownBy w4 (Value.slice o xs.length cp).ownBlock → w4.heap[wo.heap.size]? = some (.cells #[.slice o xs.length cp] 118 (0, 0)) :=
            fun w4 hgr => (hgr.block _ (by simp; omega) (fun e => hvR e.symm)).trans hcB
          rw [hoA] at a1 a2
          rw [hoC] at hnewC
          subst hoA hoB hoC
          have c1 := blockCell b1 0
          have c2 := blockCell b2 0
          have c3 := blockCell b3 0
          have d1 := blockCell a1 0
          have d2 := blockCell a2 0
          have d3 := blockCell a1 1
          have d4 := blockCell a2 1
          have hnews : ∀ k u, ([.pointer (some ⟨wr.heap.size + 1, 0, none⟩)] : List Value)[k]? = some u → ((((wr.alloc (.cells #[.string (Nm.bs p.1), .string (Nm.bs p.2)] 70 (0, 0))).alloc (.cells #[.string (Nm.bs p.1), .string (Nm.bs p.2)] 120 (0, 0))).alloc (.cells #[.pointer (some ⟨wr.heap.size + 1, 0, none⟩)] 119 (0, 0))).drew).cell? ((⟨wr.heap.size + 1 + 1, 0, none⟩ : Addr).add k) = some u :=
            fun k u hk => World.news_of_block (B := wr.heap.size + 1 + 1) hnewC k u (by simpa using hk)
          have h1c : ∀ u ∈ ([.pointer (some ⟨wr.heap.size + 1, 0, none⟩)] : List Value), u.oneCell' = true := by intro u hu; simp at hu; subst hu; rfl
          clear hxl
          go_region_law ((refine step_append_lies _ (by rfl) _ _ _ (by rfl) 0 119 i1 (.pointer none) 1 8 Tryz.underlying116 hi1 hz10 hz11 hz12 rfl (by decide) (.slice o xs.length cp) xs.length xs (by rfl) hownC ⟨wr.heap.size + 1 + 1, 0, none⟩ 1 1 [.pointer (some ⟨wr.heap.size + 1, 0, none⟩)] (by rfl) rfl hnews h1c (by decide) h63 hby (Nat.zero_le _) (wr.heap.size + 1 + 1 + 1) (by simp) ?_; intro g cap w4 hown' hgr hat hlt; have hR4 := hgrow w4 hgr; have e2 : w4.cell? ⟨wo.heap.size, 0, none⟩ = some (.slice o xs.length cp) := blockCell hR4 0; have g2 := blockFrozen hR4 0; have HQ := Lib.hid (And.intro hown' (And.intro hgr hat)); clear hown' hgr hat hR4))
          all_goals
            have HE := Lib.hid (longer_end b2 hvR HQ.out.1 HQ.out.2.1 (HQ.out.2.2.imp id (fun e => by rw [e]; simp)))
            obtain ⟨v', hl⟩ := HE.out
            have hnext := HJ2.out.step hl
            rw [← HTS.out] at hnext
            have HN2 : Hid (MkRE wo.heap.size (ps.take (j + 1)) wo _) := Lib.hid ⟨_, _, hnext⟩
            clear HQ HE hl hnext hnews h1c hownC hcB hgrow hnewC a1 a2 b1 b2 b3 c1 c2 c3 d1 d2 d3 d4 e2 g2
            go_wp2_with fail
            exact ⟨⟨j + 1, by go_num, by omega, HN2⟩, by simp [intOf]; omega⟩
end Go.Proofs.YtjmahgefijncaaaGreatFmt
