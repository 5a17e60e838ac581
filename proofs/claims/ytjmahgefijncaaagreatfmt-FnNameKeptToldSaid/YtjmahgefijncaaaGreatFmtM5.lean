/- dn: a name as plain data becomes one with pointers. -/
import Derived.Test.YtjmahgefijncaaaGreatFmtM4
import Derived.Test.YtjmahgefijncaaaGreatFmtJ30
import Derived.Test.YtjmahgefijncaaaGreatFmtJ2
import Derived.StillTailTactics
import Derived.Test.YtjmahgefijncaaaGreatFmtJ4
import Derived.SliceStrings
import Derived.Deep.Slices
import Derived.ChangeArms
import Derived.Test.YtjmahgefijncaaaGreatFmtCards
import Derived.Test.YtjmahgefijncaaaGreatFmtTie
import Derived.Test.YtjmahgefijncaaaGreatFmtJ1
import Derived.Stop.LaidErr
import Derived.Stop.LaidTwo
import Derived.MakeChecks
import Derived.RowKit
import Derived.OpenShut
import Derived.Below
import Derived.Stop.JoinedTold
import Derived.Deep.DeepWitnessRef
import Derived.LaidMore
import Derived.Lay
import Derived.SevenTiedAt
import Derived.Deep.DeepHandedRow
import Derived.WideKeyArgs
import Derived.ProofKit
import Derived.Test.YtjmahgefijncaaaGreatFmtJ11
import Derived.Test.YtjmahgefijncaaaGreatFmtJ16
import Derived.Lib.LaidU8T
import Derived.Lib.LaidTab
set_option linter.unusedVariables false
set_option linter.unusedSimpArgs false
namespace Go.Proofs.YtjmahgefijncaaaGreatFmt
open Go Go.RowKit

/-- The relative name at hand, in block R: all that it needs lies above R. -/
structure MkR (R : Nat) (ps : List Nm.Part) (v : Value) (xs : List Value) (w1 w : World) : Prop where
  hR : w.heap[R]? = some (.cells #[v] 118 (0, 0))
  own : w.ownsRow 0 119 1 v xs.length xs
  low : ∀ k, v.ownBlock = some k → R < k
  parts : PartsAt w (fun k => R < k ∧ k < w.heap.size ∧ v.ownBlock ≠ some k) xs ps
  bel : Below R w1 w
structure MkD (D : Nat) (n : Nm.Name) (v : Value) (xs : List Value) (w1 w : World) : Prop where
  hD : w.heap[D]? = some (.cells #[v] 114 (0, 0))
  own : w.ownsRow 0 115 1 v xs.length xs
  low : ∀ k, v.ownBlock = some k → D < k
  rdns : RdnsAt w (fun k => D < k ∧ k < w.heap.size ∧ v.ownBlock ≠ some k) xs n
  bel : Below D w1 w

theorem only_below {S : Nat → Prop} {B : Nat} {w w' : World} (h : Only S w w') (hB : B ≤ w.heap.size) (hS : ∀ k, S k → B ≤ k) : Below B w w' :=
  ⟨h.os, h.tape, h.output, h.size, fun k hk => h.block k (by omega) (fun e => by have := hS k e; omega)⟩

theorem MkR.step {R : Nat} {ps : List Nm.Part} {v v' : Value} {xs : List Value} {w1 w w' : World} (h : MkR R ps v xs w1 w) {oA : Obj} {p : Nm.Part}
    (k : Longer 119 118 R v xs (.pointer (some ⟨w.heap.size + 1, 0, none⟩)) ((w.alloc oA).alloc (.cells #[.string (Nm.bs p.1), .string (Nm.bs p.2)] 120 (0, 0))) w' v') :
    MkR R (ps ++ [p]) v' (xs ++ [.pointer (some ⟨w.heap.size + 1, 0, none⟩)]) w1 w' := by
  have hRlt := blockLt h.hR
  obtain ⟨wb, hwb⟩ : ∃ wb, wb = (w.alloc oA).alloc (.cells #[.string (Nm.bs p.1), .string (Nm.bs p.2)] 120 (0, 0)) := ⟨_, rfl⟩
  rw [← hwb] at k
  have hz : wb.heap.size = w.heap.size + 2 := by rw [hwb]; simp
  have hold : ∀ i, i < w.heap.size → wb.heap[i]? = w.heap[i]? := fun i hi => by
    rw [hwb, Below.heap_alloc _ _ _ (by simp; omega), Below.heap_alloc _ _ _ hi]
  have hp : wb.heap[w.heap.size + 1]? = some (.cells #[.string (Nm.bs p.1), .string (Nm.bs p.2)] 120 (0, 0)) := by
    rw [hwb]
    have := heap_alloc_new (w.alloc oA) (.cells #[.string (Nm.bs p.1), .string (Nm.bs p.2)] 120 (0, 0))
    rwa [World.size_alloc] at this
  have hvl := owns_lt h.own
  have hsz := k.only.size
  have hat : ∀ g, v'.ownBlock = some g → v.ownBlock = some g ∨ wb.heap.size ≤ g := fun g hg => by
    rcases k.at' with e | ⟨g', e, hle⟩
    · exact Or.inl (e ▸ hg)
    · rw [e] at hg; right; rw [← Option.some.inj hg]; exact hle
  have hkeep : ∀ i, i < wb.heap.size → i ≠ R → v.ownBlock ≠ some i → w'.heap[i]? = wb.heap[i]? := fun i hi h1 h2 => k.only.block i hi (by rintro (e | e); exact h1 e; exact h2 e)
  have hpne : v.ownBlock ≠ some (w.heap.size + 1) := fun e => by have := hvl _ e; omega
  refine ⟨k.block, by rw [List.length_append]; exact k.own, fun g hg => ?_, ?_, ?_⟩
  · rcases hat g hg with e | e
    · exact h.low g e
    · omega
  · refine PartsAt.snoc ?_ ((hkeep _ (by omega) (by omega) hpne).trans hp) (h.parts.stays (fun i hi => ?_) (fun i hi => ?_))
    · refine ⟨by omega, by omega, fun e => ?_⟩
      rcases hat _ e with e | e
      · exact hpne e
      · omega
    · rw [hkeep i (by omega) (by omega) hi.2.2, hold i hi.2.1]
    · refine ⟨hi.1, by omega, fun e => ?_⟩
      rcases hat _ e with e | e
      · exact hi.2.2 e
      · omega
  · have h1 : Below R w1 wb := by rw [hwb]; exact (h.bel.alloc (by omega) _).alloc (by simp; omega) _
    exact h1.trans (only_below k.only (by omega) (fun i hi => by
      rcases hi with e | e
      · omega
      · have := h.low i e; omega))

theorem MkR.done {R : Nat} {ps : List Nm.Part} {v : Value} {xs : List Value} {w1 w : World} (h : MkR R ps v xs w1 w) {T : Nat → Prop} (hT : ∀ k, R ≤ k → k < w.heap.size → T k) : RdnAt w T R ps := by
  have hRlt := blockLt h.hR
  refine ⟨hT R (Nat.le_refl _) hRlt, v, xs, h.hR, h.own, fun k hk => hT k (by have := h.low k hk; omega) (owns_lt h.own k hk), h.parts.stays (fun _ _ => rfl) (fun i hi => hT i (by omega) hi.2.1)⟩

/-- The name at hand while a relative name is made above it. -/
theorem MkD.stays {D : Nat} {n : Nm.Name} {v : Value} {xs : List Value} {w1 w w' : World} {B : Nat} (h : MkD D n v xs w1 w) (k : Below B w w') (hB : w.heap.size ≤ B) : MkD D n v xs w1 w' := by
  have hDlt := blockLt h.hD
  have hvl := owns_lt h.own
  have hsz := k.size
  refine ⟨(k.block D (by omega)).trans h.hD, owns_stays h.own (fun g hg => k.block g (by have := hvl g hg; omega)), h.low, h.rdns.stays (fun i hi => k.block i (by have := hi.2.1; omega)) (fun i hi => ⟨hi.1, by have := hi.2.1; omega, hi.2.2⟩), h.bel.trans (k.mono (by omega))⟩

theorem MkD.step {D R : Nat} {n : Nm.Name} {ps : List Nm.Part} {v v' : Value} {xs : List Value} {w1 w w' : World} (h : MkD D n v xs w1 w) (hr : RdnAt w (fun k => D < k ∧ k < w.heap.size ∧ v.ownBlock ≠ some k) R ps)
    (k : Longer 115 114 D v xs (.pointer (some ⟨R, 0, none⟩)) w w' v') : MkD D (n ++ [ps]) v' (xs ++ [.pointer (some ⟨R, 0, none⟩)]) w1 w' := by
  have hDlt := blockLt h.hD
  have hvl := owns_lt h.own
  have hsz := k.only.size
  have hat : ∀ g, v'.ownBlock = some g → v.ownBlock = some g ∨ w.heap.size ≤ g := fun g hg => by
    rcases k.at' with e | ⟨g', e, hle⟩
    · exact Or.inl (e ▸ hg)
    · rw [e] at hg; right; rw [← Option.some.inj hg]; exact hle
  have hkeep : ∀ i, (D < i ∧ i < w.heap.size ∧ v.ownBlock ≠ some i) → w'.heap[i]? = w.heap[i]? := fun i hi => k.only.block i hi.2.1 (by rintro (e | e); omega; exact hi.2.2 e)
  have hT : ∀ i, (D < i ∧ i < w.heap.size ∧ v.ownBlock ≠ some i) → (D < i ∧ i < w'.heap.size ∧ v'.ownBlock ≠ some i) := fun i hi => ⟨hi.1, by have := hi.2.1; omega, fun e => by
    rcases hat _ e with e | e
    · exact hi.2.2 e
    · have := hi.2.1; omega⟩
  refine ⟨k.block, by rw [List.length_append]; exact k.own, fun g hg => ?_, RdnsAt.snoc (hr.stays hkeep hT) (h.rdns.stays hkeep hT), ?_⟩
  · rcases hat g hg with e | e
    · exact h.low g e
    · omega
  · exact h.bel.trans (only_below k.only (by omega) (fun i hi => by
      rcases hi with e | e
      · omega
      · have := h.low i e; omega))

theorem MkD.done {D : Nat} {n : Nm.Name} {v : Value} {xs : List Value} {w1 w : World} (h : MkD D n v xs w1 w) : DnIn w D n :=
  DnAt.in' (S := fun _ => True) ⟨trivial, v, xs, h.hD, h.own, fun _ _ => trivial, h.rdns.stays (fun _ _ => rfl) (fun _ _ => trivial)⟩

theorem longer_end2 {e t : TypeId} {R : Nat} {v : Value} {xs : List Value} {u : Value} {w w4 : World} {o : Obj} {g cap : Nat} (hR : w.heap[R]? = some (.cells #[v] t (0, 0))) (hvR : v.ownBlock ≠ some R)
    (hown : w4.ownsRow 0 e 1 (.slice (some ⟨g, 0, none⟩) (xs.length + 1) cap) (xs.length + 1) (xs ++ [u])) (hgr : (w.alloc o).grownBy w4 v.ownBlock) (hat : v.ownBlock = some g ∨ g = w.heap.size + 1) :
    LongerSome e t R v xs u w (w4.setCell ⟨R, 0, none⟩ (.slice (some ⟨g, 0, none⟩) (xs.length + 1) cap)) :=
  longer_end hR hvR hown ⟨hgr.os, hgr.tape, hgr.output, hgr.size, hgr.block⟩ hat

def MkRE (R : Nat) (ps : List Nm.Part) (w1 w : World) : Prop := ∃ v xs, MkR R ps v xs w1 w
def MkDE (D : Nat) (n : Nm.Name) (w1 w : World) : Prop := ∃ v xs, MkD D n v xs w1 w

set_option maxRecDepth 100000 in
set_option maxHeartbeats 16000000 in
theorem dn_mk (v : Value) (n : Nm.Name) (w : World) (hN : NameIn w v n) (hn : n.length < 1000000000) (hps : ∀ ps ∈ n, ps.length < 1000000000) :
    Calls Tryz.prog 56 #[v] w fun e w' => ∃ d, e = .returned (.pointer (some ⟨d, 0, none⟩)) ∧ DnIn w' d n ∧ Below w.heap.size w w' := by
  have HN := Lib.hid hN
  obtain ⟨od, cd, rfl, _⟩ := hN
  obtain ⟨i1, hi1, hz10, hz11, hz12⟩ := info_atv
  obtain ⟨i2, hi2, hz20, hz21, hz22⟩ := info_rdn
  have HPS := Lib.hid hps
  clear hps
  go_enter Tryz.func56, Tryz.ntmps56
  go_wp2_with fail
  have h0 : MkDE w.heap.size [] w (w.alloc (.cells #[.slice none 0 0] 114 (0, 0))) := ⟨_, _, heap_alloc_new w _, owns_start _ _ _ _, fun k hk => by simp [Value.ownBlock] at hk, rfl, (Below.refl _ w).alloc (Nat.le_refl _) _⟩
  have H0 := Lib.hid h0
  clear h0
  go_loopw [13] (fun t13 wr => ∃ (i : Nat), t13 = .int .i64 i ∧ i ≤ n.length ∧ Hid (MkDE w.heap.size (n.take i) w wr)) (fun t13 _ => n.length - (intOf t13).toNat)
  case atStart => exact ⟨0, rfl, Nat.zero_le _, H0⟩
  case round =>
    clear H0
    obtain ⟨i, rfl, hi, HE⟩ := hrel
    obtain ⟨vd, ds, hinv⟩ := HE.out
    have HI := Lib.hid hinv
    have hszD := blockLt hinv.hD
    have hsz1 := hinv.bel.size
    clear hinv HE
    by_cases hend : i = n.length
    · have t1 : decide ((i : Int) < (n.length : Int)) = false := by simp; omega
      have hE : DnIn wr w.heap.size n ∧ Below w.heap.size w wr := by
        refine ⟨?_, HI.out.bel⟩
        have := HI.out.done
        rwa [hend, List.take_length] at this
      have HEE := Lib.hid hE
      clear hE
      go_wp2_with fail
      go_ret
      exact ⟨_, rfl, HEE.out.1, HEE.out.2⟩
    · have hlt : i < n.length := by omega
      have t1 : decide ((i : Int) < (n.length : Int)) = true := by simp; omega
      obtain ⟨ps, hp⟩ : ∃ ps, n[i]? = some ps := ⟨_, List.getElem?_eq_getElem hlt⟩
      have hpl : ps.length < 1000000000 := HPS.out ps (List.mem_of_getElem? hp)
      obtain ⟨od', cd', e0, hrd⟩ := HN.out.stays HI.out.bel
      injection e0 with e0 _ e0'
      subst e0
      subst e0'
      obtain ⟨g, off, u, rfl, cr, hpa⟩ := hrd i ps hp
      obtain ⟨ov, cv, rfl, hpc⟩ := hpa
      have HPC := Lib.hid hpc
      have HP := Lib.hid hp
      clear hrd hpc hp hend
      go_wp2_with fail
      obtain ⟨wo, rfl⟩ : ∃ wo : World, wo = wr := ⟨_, rfl⟩
      obtain ⟨w1, hw1⟩ : ∃ w1, w1 = wo.alloc (.cells #[.slice none 0 0] 118 (0, 0)) := ⟨_, rfl⟩
      have h0 : MkRE wo.heap.size [] wo w1 := by
        rw [hw1]; exact ⟨_, _, heap_alloc_new wo _, owns_start _ _ _ _, fun k hk => by simp [Value.ownBlock] at hk, rfl, (Below.refl _ wo).alloc (Nat.le_refl _) _⟩
      have H0 := Lib.hid h0
      rw [← hw1]
      clear h0 hw1
      go_loopw [21] (fun t21 wr => ∃ (j : Nat), t21 = .int .i64 j ∧ j ≤ ps.length ∧ Hid (MkRE wo.heap.size (ps.take j) wo wr)) (fun t21 _ => ps.length - (intOf t21).toNat)
      case atStart => exact ⟨0, rfl, Nat.zero_le _, H0⟩
      case round =>
        clear t1 H0
        obtain ⟨j, rfl, hj, HJ⟩ := hrel
        obtain ⟨vr, xs, hinv⟩ := HJ.out
        have HJ2 := Lib.hid hinv
        have hRl := blockLt hinv.hR
        have hbz := hinv.bel.size
        have hxl : xs.length = j := by rw [hinv.parts.len, List.length_take]; omega
        clear hinv HJ
        by_cases hje : j = ps.length
        · have t2 : decide ((j : Int) < (ps.length : Int)) = false := by simp; omega
          have hMD := HI.out.stays HJ2.out.bel (Nat.le_refl _)
          have hRD : RdnAt wr (fun k => w.heap.size < k ∧ k < wr.heap.size ∧ vd.ownBlock ≠ some k) wo.heap.size ps := by
            have := HJ2.out
            rw [hje, List.take_length] at this
            exact this.done (fun k h1 h2 => ⟨by omega, h2, fun e => by have := owns_lt HI.out.own k e; omega⟩)
          obtain ⟨o, cp, rfl⟩ := own_len hMD.own
          have hdl : ds.length = i := by rw [hMD.rdns.len, List.length_take]; omega
          have hvR : (Value.slice o ds.length cp).ownBlock ≠ some w.heap.size := own_ne hMD.own hMD.hD (by decide)
          have c2 : wr.cell? ⟨w.heap.size, 0, none⟩ = some (.slice o ds.length cp) := blockCell hMD.hD 0
          have hownW : (wr.alloc (.cells #[.pointer (some ⟨wo.heap.size, 0, none⟩)] 115 (0, 0))).ownsRow 0 115 1 (.slice o ds.length cp) ds.length ds := hMD.own.alloc _
          have hnews : ∀ k u, ([.pointer (some ⟨wo.heap.size, 0, none⟩)] : List Value)[k]? = some u → (wr.alloc (.cells #[.pointer (some ⟨wo.heap.size, 0, none⟩)] 115 (0, 0))).cell? ((⟨wr.heap.size, 0, none⟩ : Addr).add k) = some u :=
            fun k u hk => World.news_of_block (B := wr.heap.size) (heap_alloc_new wr _) k u (by simpa using hk)
          have h1c : ∀ u ∈ ([.pointer (some ⟨wo.heap.size, 0, none⟩)] : List Value), u.oneCell' = true := by intro u hu; simp at hu; subst hu; rfl
          have h63 : ds.length + 1 ≤ maxLen := by simp only [maxLen]; omega
          have hby : (ds.length + 1) * 8 ≤ 140737488355328 := by omega
          have HMD := Lib.hid hMD
          have HRD := Lib.hid hRD
          clear hMD hRD hdl hxl
          go_wp2_with (at_builtin; go_loud (refine wpList_append_lies _ (by rfl) _ _ _ (by rfl) 0 115 i2 (.pointer none) 1 8 Tryz.underlying112 hi2 hz20 hz21 hz22 rfl (by decide) (.slice o ds.length cp) ds.length ds (by rfl) hownW ⟨wr.heap.size, 0, none⟩ 1 1 [.pointer (some ⟨wo.heap.size, 0, none⟩)] (by rfl) rfl hnews h1c (by decide) h63 hby (Nat.zero_le _) (wr.heap.size + 1) (by simp) ?_))
          intro g' cap w4 hown' hgr hat hlt'
          have hD4 : w4.heap[w.heap.size]? = some (.cells #[.slice o ds.length cp] 114 (0, 0)) := (hgr.block _ (by simp; omega) (fun e => hvR e.symm)).trans ((Below.heap_alloc _ _ _ (by omega)).trans HMD.out.hD)
          have e2 : w4.cell? ⟨w.heap.size, 0, none⟩ = some (.slice o ds.length cp) := blockCell hD4 0
          have g2 := blockFrozen hD4 0
          have HE := Lib.hid (longer_end2 HMD.out.hD hvR hown' hgr hat)
          clear hown' hgr hat hownW hnews h1c hby hD4
          go_wp2_with fail
          obtain ⟨v', hl⟩ := HE.out
          have hnext := HMD.out.step HRD.out hl
          rw [← take_snoc HP.out] at hnext
          exact ⟨⟨i + 1, by go_num, by omega, Lib.hid ⟨_, _, hnext⟩⟩, by simp [intOf]; omega⟩
        · have hjl : j < ps.length := by omega
          have t2 : decide ((j : Int) < (ps.length : Int)) = true := by simp; omega
          obtain ⟨p, hp⟩ : ∃ p, ps[j]? = some p := ⟨_, List.getElem?_eq_getElem hjl⟩
          obtain ⟨gv, offv, rfl, ca, cb⟩ := HPC.out j p hp
          have cp0 : wr.cell? ⟨gv, offv + j * 2, none⟩ = some (.string (Nm.bs p.1)) := (HJ2.out.bel.cell (World.block_lt_of_cell? wo ⟨gv, offv + j * 2, none⟩ ca)).trans ca
          have cp1 : wr.cell? ⟨gv, offv + j * 2 + 1, none⟩ = some (.string (Nm.bs p.2)) := (HJ2.out.bel.cell (World.block_lt_of_cell? wo ⟨gv, offv + j * 2 + 1, none⟩ cb)).trans cb
          have hts := take_snoc hp
          have HTS := Lib.hid hts
          clear hts ca cb hp
          go_wp2_with fail
          obtain ⟨o, cp, rfl⟩ := own_len HJ2.out.own
          have hR0 := HJ2.out.hR
          have hvR : (Value.slice o xs.length cp).ownBlock ≠ some wo.heap.size := own_ne HJ2.out.own hR0 (by decide)
          have h63 : xs.length + 1 ≤ maxLen := by simp only [maxLen]; omega
          have hby : (xs.length + 1) * 8 ≤ 140737488355328 := by omega
          obtain ⟨oA, hoA⟩ : ∃ oA : Obj, oA = .cells #[.string (Nm.bs p.1), .string (Nm.bs p.2)] 70 (0, 0) := ⟨_, rfl⟩
          obtain ⟨oB, hoB⟩ : ∃ oB : Obj, oB = .cells #[.string (Nm.bs p.1), .string (Nm.bs p.2)] 120 (0, 0) := ⟨_, rfl⟩
          obtain ⟨oC, hoC⟩ : ∃ oC : Obj, oC = .cells #[.pointer (some ⟨wr.heap.size + 1, 0, none⟩)] 119 (0, 0) := ⟨_, rfl⟩
          have b1 : (wr.alloc oA).heap[wo.heap.size]? = some (.cells #[.slice o xs.length cp] 118 (0, 0)) := (Below.heap_alloc _ _ _ hRl).trans hR0
          have b2 : ((wr.alloc oA).alloc oB).heap[wo.heap.size]? = some (.cells #[.slice o xs.length cp] 118 (0, 0)) := (Below.heap_alloc _ _ _ (by simp; omega)).trans b1
          have b3 : (((wr.alloc oA).alloc oB).alloc oC).heap[wo.heap.size]? = some (.cells #[.slice o xs.length cp] 118 (0, 0)) := (Below.heap_alloc _ _ _ (by simp; omega)).trans b2
          have a1 : (wr.alloc oA).heap[wr.heap.size]? = some oA := heap_alloc_new wr oA
          have a2 : ((wr.alloc oA).alloc oB).heap[wr.heap.size]? = some oA := (Below.heap_alloc _ _ _ (by simp)).trans a1
          have hnewC : (((wr.alloc oA).alloc oB).alloc oC).heap[wr.heap.size + 1 + 1]? = some oC := by
            have := heap_alloc_new ((wr.alloc oA).alloc oB) oC
            simpa using this
          have hownC : (((wr.alloc oA).alloc oB).alloc oC).drew.ownsRow 0 119 1 (.slice o xs.length cp) xs.length xs := ((HJ2.out.own.alloc _).alloc _).alloc _
          have hcB : (((wr.alloc oA).alloc oB).alloc oC).drew.heap[wo.heap.size]? = some (.cells #[.slice o xs.length cp] 118 (0, 0)) := b3
          have hgrow : ∀ w4 : World, (((wr.alloc oA).alloc oB).alloc oC).drew.grownBy w4 (Value.slice o xs.length cp).ownBlock → w4.heap[wo.heap.size]? = some (.cells #[.slice o xs.length cp] 118 (0, 0)) :=
            fun w4 hgr => (hgr.block _ (by simp; omega) (fun e => hvR e.symm)).trans hcB
          rw [hoA] at a1 a2
          rw [hoC] at hnewC
          subst hoA hoB hoC
          have c1 := blockCell b1 0
          have c2 := blockCell b2 0
          have c3 := blockCell b3 0
          have d1 := blockCell a1 0
          have d2 := blockCell a2 0
          have d3 := blockCell a1 1
          have d4 := blockCell a2 1
          have hnews : ∀ k u, ([.pointer (some ⟨wr.heap.size + 1, 0, none⟩)] : List Value)[k]? = some u → ((((wr.alloc (.cells #[.string (Nm.bs p.1), .string (Nm.bs p.2)] 70 (0, 0))).alloc (.cells #[.string (Nm.bs p.1), .string (Nm.bs p.2)] 120 (0, 0))).alloc (.cells #[.pointer (some ⟨wr.heap.size + 1, 0, none⟩)] 119 (0, 0))).drew).cell? ((⟨wr.heap.size + 1 + 1, 0, none⟩ : Addr).add k) = some u :=
            fun k u hk => World.news_of_block (B := wr.heap.size + 1 + 1) hnewC k u (by simpa using hk)
          have h1c : ∀ u ∈ ([.pointer (some ⟨wr.heap.size + 1, 0, none⟩)] : List Value), u.oneCell' = true := by intro u hu; simp at hu; subst hu; rfl
          clear hxl
          go_region_law ((refine step_append_lies _ (by rfl) _ _ _ (by rfl) 0 119 i1 (.pointer none) 1 8 Tryz.underlying116 hi1 hz10 hz11 hz12 rfl (by decide) (.slice o xs.length cp) xs.length xs (by rfl) hownC ⟨wr.heap.size + 1 + 1, 0, none⟩ 1 1 [.pointer (some ⟨wr.heap.size + 1, 0, none⟩)] (by rfl) rfl hnews h1c (by decide) h63 hby (Nat.zero_le _) (wr.heap.size + 1 + 1 + 1) (by simp) ?_; intro g cap w4 hown' hgr hat hlt; have hR4 := hgrow w4 hgr; have e2 : w4.cell? ⟨wo.heap.size, 0, none⟩ = some (.slice o xs.length cp) := blockCell hR4 0; have g2 := blockFrozen hR4 0; have HQ := Lib.hid (And.intro hown' (And.intro hgr hat)); clear hown' hgr hat hR4))
          all_goals
            have HE := Lib.hid (longer_end b2 hvR HQ.out.1 HQ.out.2.1 (HQ.out.2.2.imp id (fun e => by rw [e]; simp)))
            obtain ⟨v', hl⟩ := HE.out
            have hnext := HJ2.out.step hl
            rw [← HTS.out] at hnext
            have HN2 : Hid (MkRE wo.heap.size (ps.take (j + 1)) wo _) := Lib.hid ⟨_, _, hnext⟩
            clear HQ HE hl hnext hnews h1c hownC hcB hgrow hnewC a1 a2 b1 b2 b3 c1 c2 c3 d1 d2 d3 d4 e2 g2
            go_wp2_with fail
            exact ⟨⟨j + 1, by go_num, by omega, HN2⟩, by simp [intOf]; omega⟩
end Go.Proofs.YtjmahgefijncaaaGreatFmt

/- Equal, EqualFold of names. -/
namespace Go.Proofs.YtjmahgefijncaaaGreatFmt
open Go Go.RowKit

theorem DnIn.cell {w : World} {d : Nat} {n : Nm.Name} (h : DnIn w d n) : ∃ o c, w.cell? ⟨d, 0, none⟩ = some (.slice o n.length c) ∧ PtrRdns w (.slice o n.length c) n ∧ d < w.heap.size ∧ n.length ≤ c := by
  obtain ⟨v, h1, o, c, rfl, hc, h2⟩ := h
  exact ⟨o, c, blockCell h1 0, ⟨o, c, rfl, hc, h2⟩, blockLt h1, hc⟩
theorem PtrRdns.nth {w : World} {o : Option Addr} {c k : Nat} {n : Nm.Name} (h : PtrRdns w (.slice o k c) n) {j : Nat} {ps : List Nm.Part} (hj : n[j]? = some ps) : ∃ b off a, o = some ⟨b, off, none⟩ ∧ w.cell? ⟨b, off + j, none⟩ = some (.pointer (some ⟨a, 0, none⟩)) ∧ RdnIn w a ps := by
  obtain ⟨o', c', hv, _, h1⟩ := h
  injection hv with e1 e2 e3
  obtain ⟨b, off, a, h2, h3⟩ := h1 j ps hj
  exact ⟨b, off, a, e1.trans h2, h3⟩
theorem drop_at {α : Type} {l : List α} {i : Nat} {x : α} (h : l[i]? = some x) : l.drop i = x :: l.drop (i + 1) := by
  have hi : i < l.length := by
    rcases Nat.lt_or_ge i l.length with h2 | h2
    · exact h2
    · rw [List.getElem?_eq_none h2] at h; cases h
  rw [List.drop_eq_getElem_cons hi]
  rw [List.getElem?_eq_getElem hi] at h
  rw [Option.some.inj h]

structure EqInv (fold : Bool) (n m : Nm.Name) (w : World) (i : Nat) (wr : World) : Prop where
  le : i ≤ n.length
  rest : NC.namesEq fold (n.drop i) (m.drop i) = NC.namesEq fold n m
  bel : Below w.heap.size w wr

set_option maxRecDepth 100000 in
set_option maxHeartbeats 4000000 in
theorem dn_eq (a b : Nat) (n m : Nm.Name) (w : World) (hA : DnIn w a n) (hB : DnIn w b m) (fn : NameFits n) (fm : NameFits m) :
    Calls Tryz.prog 57 #[.pointer (some ⟨a, 0, none⟩), .pointer (some ⟨b, 0, none⟩)] w fun e w' => e = .returned (.bool (NC.namesEq false n m)) ∧ Below w.heap.size w w' := by
  obtain ⟨oa, ca, cA, hpa, hal, -⟩ := hA.cell
  obtain ⟨ob, cb, cB, hpb, hbl, -⟩ := hB.cell
  by_cases hlen : n.length = m.length
  case neg =>
    have t0 : ((n.length : Int) != (m.length : Int)) = true := by rw [bne_iff_ne]; omega
    rw [NC.namesEq_false hlen]
    clear hA hB hpa hpb fn fm hlen
    go_enter Tryz.func57, Tryz.ntmps57
    go_wp2_with fail
    go_quiet (fail)
    go_wp2_with fail
    go_ret
    exact ⟨rfl, drewN_below w nq⟩
  have t0 : ((n.length : Int) != (m.length : Int)) = false := by simp [hlen]
  have KA := Lib.hid (fun (w' : World) (hb : Below w.heap.size w w') => (hb.cell (p := ⟨a, 0, none⟩) hal).trans cA)
  have KB := Lib.hid (fun (w' : World) (hb : Below w.heap.size w w') => (hb.cell (p := ⟨b, 0, none⟩) hbl).trans cB)
  have HN := Lib.hid hpa
  have HM := Lib.hid hpb
  have FN := Lib.hid fn.2
  have FM := Lib.hid fm.2
  have hn9 := fn.1
  clear hA hB hpa hpb fn fm
  go_enter Tryz.func57, Tryz.ntmps57
  go_wp2_with fail
  go_quiet (fail)
  have hb0 := drewN_below w nq
  have c1 := KA.out _ hb0
  have c2 := KB.out _ hb0
  have HB0 := Lib.hid hb0
  clear cA cB hb0
  generalize w.drewN nq = w1 at *
  go_wp2_with fail
  go_loopw [22] (fun t22 wr => ∃ (i : Nat), t22 = .int .i64 i ∧ Hid (EqInv false n m w i wr)) (fun t22 _ => n.length - (intOf t22).toNat)
  case atStart => exact ⟨0, rfl, Lib.hid ⟨Nat.zero_le _, rfl, HB0.out⟩⟩
  case round =>
    clear HB0 c1 c2
    obtain ⟨i, rfl, HI⟩ := hrel
    have hle := HI.out.le
    have hbz := HI.out.bel.size
    by_cases hend : i = n.length
    · have t1 : decide ((i : Int) < (n.length : Int)) = false := by simp; omega
      have hres : NC.namesEq false n m = true := by
        rw [← HI.out.rest, hend, List.drop_length, List.drop_of_length_le (by omega)]; rfl
      have HRS := Lib.hid hres
      clear hres
      go_wp2_with fail
      go_ret
      exact ⟨by rw [HRS.out]; rfl, HI.out.bel⟩
    · have hlt : i < n.length := by omega
      have hltm : i < m.length := by omega
      have t1 : decide ((i : Int) < (n.length : Int)) = true := by simp; omega
      obtain ⟨ps, hp⟩ : ∃ ps, n[i]? = some ps := ⟨_, List.getElem?_eq_getElem hlt⟩
      obtain ⟨qs, hq⟩ : ∃ qs, m[i]? = some qs := ⟨_, List.getElem?_eq_getElem hltm⟩
      obtain ⟨ba, fa, aa, rfl, ca0, hra⟩ := HN.out.nth hp
      obtain ⟨bb, fb, ab, rfl, cb0, hrb⟩ := HM.out.nth hq
      have k1 : wr.cell? ⟨ba, fa + i, none⟩ = some (.pointer (some ⟨aa, 0, none⟩)) := (HI.out.bel.cell (World.block_lt_of_cell? w ⟨ba, fa + i, none⟩ ca0)).trans ca0
      have k2 := (HI.out.bel.cell (World.block_lt_of_cell? w _ cb0)).trans cb0
      have k3 := KA.out _ HI.out.bel
      have k4 := KB.out _ HI.out.bel
      have i0 : (0 : Int) ≤ (i : Int) := by omega
      have i1 : (i : Int) < (n.length : Int) := by omega
      have i2 : (i : Int) < (m.length : Int) := by omega
      have HC := Lib.hid (fun w' (hb : Below w.heap.size w w') => rdn_eq aa ab ps qs w' (hra.stays hb) (hrb.stays hb) (FN.out ps (List.mem_of_getElem? hp)) (FM.out qs (List.mem_of_getElem? hq)))
      have hrest := HI.out.rest
      rw [drop_at hp, drop_at hq, NC.namesEq] at hrest
      have HREST := Lib.hid hrest
      clear hrest ca0 cb0 hra hrb hp hq hend
      cases hr : NC.rdnEq false ps qs with
      | false =>
        rw [hr] at HC HREST
        clear hr
        go_wp2_with fail
        go_still_tail 14, (by kernel_rfl)
        go_wp2_with fail
        refine (HC.out _ (HI.out.bel.trans ((drewN_below wr 1).mono hbz))).mono ?_
        rintro e w2 ⟨rfl, hb2⟩
        have HE := Lib.hid ((HI.out.bel.trans ((drewN_below wr 1).mono hbz)).trans (hb2.mono hbz))
        clear hb2
        go_wp2_with fail
        go_ret
        exact ⟨by rw [← HREST.out]; rfl, HE.out⟩
      | true =>
        rw [hr] at HC HREST
        clear hr
        go_wp2_with fail
        go_still_tail 14, (by kernel_rfl)
        go_wp2_with fail
        refine (HC.out _ (HI.out.bel.trans ((drewN_below wr 1).mono hbz))).mono ?_
        rintro e w2 ⟨rfl, hb2⟩
        have HE := Lib.hid ((HI.out.bel.trans ((drewN_below wr 1).mono hbz)).trans (hb2.mono hbz))
        clear hb2
        go_wp2_with fail
        exact ⟨⟨i + 1, by go_num, Lib.hid ⟨hlt, HREST.out, HE.out⟩⟩, by simp [intOf]; omega⟩

set_option maxRecDepth 100000 in
set_option maxHeartbeats 4000000 in
theorem dn_eq_fold (a b : Nat) (n m : Nm.Name) (w : World) (hA : DnIn w a n) (hB : DnIn w b m) (fn : NameFits n) (fm : NameFits m) :
    Calls Tryz.prog 58 #[.pointer (some ⟨a, 0, none⟩), .pointer (some ⟨b, 0, none⟩)] w fun e w' => e = .returned (.bool (NC.namesEq true n m)) ∧ Below w.heap.size w w' := by
  obtain ⟨oa, ca, cA, hpa, hal, -⟩ := hA.cell
  obtain ⟨ob, cb, cB, hpb, hbl, -⟩ := hB.cell
  by_cases hlen : n.length = m.length
  case neg =>
    have t0 : ((n.length : Int) != (m.length : Int)) = true := by rw [bne_iff_ne]; omega
    rw [NC.namesEq_false hlen]
    clear hA hB hpa hpb fn fm hlen
    go_enter Tryz.func58, Tryz.ntmps58
    go_wp2_with fail
    go_quiet (fail)
    go_wp2_with fail
    go_ret
    exact ⟨rfl, drewN_below w nq⟩
  have t0 : ((n.length : Int) != (m.length : Int)) = false := by simp [hlen]
  have KA := Lib.hid (fun (w' : World) (hb : Below w.heap.size w w') => (hb.cell (p := ⟨a, 0, none⟩) hal).trans cA)
  have KB := Lib.hid (fun (w' : World) (hb : Below w.heap.size w w') => (hb.cell (p := ⟨b, 0, none⟩) hbl).trans cB)
  have HN := Lib.hid hpa
  have HM := Lib.hid hpb
  have FN := Lib.hid fn.2
  have FM := Lib.hid fm.2
  have hn9 := fn.1
  clear hA hB hpa hpb fn fm
  go_enter Tryz.func58, Tryz.ntmps58
  go_wp2_with fail
  go_quiet (fail)
  have hb0 := drewN_below w nq
  have c1 := KA.out _ hb0
  have c2 := KB.out _ hb0
  have HB0 := Lib.hid hb0
  clear cA cB hb0
  generalize w.drewN nq = w1 at *
  go_wp2_with fail
  go_loopw [22] (fun t22 wr => ∃ (i : Nat), t22 = .int .i64 i ∧ Hid (EqInv true n m w i wr)) (fun t22 _ => n.length - (intOf t22).toNat)
  case atStart => exact ⟨0, rfl, Lib.hid ⟨Nat.zero_le _, rfl, HB0.out⟩⟩
  case round =>
    clear HB0 c1 c2
    obtain ⟨i, rfl, HI⟩ := hrel
    have hle := HI.out.le
    have hbz := HI.out.bel.size
    by_cases hend : i = n.length
    · have t1 : decide ((i : Int) < (n.length : Int)) = false := by simp; omega
      have hres : NC.namesEq true n m = true := by
        rw [← HI.out.rest, hend, List.drop_length, List.drop_of_length_le (by omega)]; rfl
      have HRS := Lib.hid hres
      clear hres
      go_wp2_with fail
      go_ret
      exact ⟨by rw [HRS.out]; rfl, HI.out.bel⟩
    · have hlt : i < n.length := by omega
      have hltm : i < m.length := by omega
      have t1 : decide ((i : Int) < (n.length : Int)) = true := by simp; omega
      obtain ⟨ps, hp⟩ : ∃ ps, n[i]? = some ps := ⟨_, List.getElem?_eq_getElem hlt⟩
      obtain ⟨qs, hq⟩ : ∃ qs, m[i]? = some qs := ⟨_, List.getElem?_eq_getElem hltm⟩
      obtain ⟨ba, fa, aa, rfl, ca0, hra⟩ := HN.out.nth hp
      obtain ⟨bb, fb, ab, rfl, cb0, hrb⟩ := HM.out.nth hq
      have k1 : wr.cell? ⟨ba, fa + i, none⟩ = some (.pointer (some ⟨aa, 0, none⟩)) := (HI.out.bel.cell (World.block_lt_of_cell? w ⟨ba, fa + i, none⟩ ca0)).trans ca0
      have k2 := (HI.out.bel.cell (World.block_lt_of_cell? w _ cb0)).trans cb0
      have k3 := KA.out _ HI.out.bel
      have k4 := KB.out _ HI.out.bel
      have i0 : (0 : Int) ≤ (i : Int) := by omega
      have i1 : (i : Int) < (n.length : Int) := by omega
      have i2 : (i : Int) < (m.length : Int) := by omega
      have HC := Lib.hid (fun w' (hb : Below w.heap.size w w') => rdn_eq_fold aa ab ps qs w' (hra.stays hb) (hrb.stays hb) (FN.out ps (List.mem_of_getElem? hp)) (FM.out qs (List.mem_of_getElem? hq)))
      have hrest := HI.out.rest
      rw [drop_at hp, drop_at hq, NC.namesEq] at hrest
      have HREST := Lib.hid hrest
      clear hrest ca0 cb0 hra hrb hp hq hend
      cases hr : NC.rdnEq true ps qs with
      | false =>
        rw [hr] at HC HREST
        clear hr
        go_wp2_with fail
        go_still_tail 14, (by kernel_rfl)
        go_wp2_with fail
        refine (HC.out _ (HI.out.bel.trans ((drewN_below wr 1).mono hbz))).mono ?_
        rintro e w2 ⟨rfl, hb2⟩
        have HE := Lib.hid ((HI.out.bel.trans ((drewN_below wr 1).mono hbz)).trans (hb2.mono hbz))
        clear hb2
        go_wp2_with fail
        go_ret
        exact ⟨by rw [← HREST.out]; rfl, HE.out⟩
      | true =>
        rw [hr] at HC HREST
        clear hr
        go_wp2_with fail
        go_still_tail 14, (by kernel_rfl)
        go_wp2_with fail
        refine (HC.out _ (HI.out.bel.trans ((drewN_below wr 1).mono hbz))).mono ?_
        rintro e w2 ⟨rfl, hb2⟩
        have HE := Lib.hid ((HI.out.bel.trans ((drewN_below wr 1).mono hbz)).trans (hb2.mono hbz))
        clear hb2
        go_wp2_with fail
        exact ⟨⟨i + 1, by go_num, Lib.hid ⟨hlt, HREST.out, HE.out⟩⟩, by simp [intOf]; omega⟩

end Go.Proofs.YtjmahgefijncaaaGreatFmt

/- AncestorOf, AncestorOfFold of names. -/
namespace Go.Proofs.YtjmahgefijncaaaGreatFmt
open Go Go.RowKit

theorem ptr_drop {w : World} {b off c k : Nat} {n : Nm.Name} (h : PtrRdns w (.slice (some ⟨b, off, none⟩) n.length c) n) (hk : k ≤ n.length) : PtrRdns w (.slice (some ⟨b, off + k, none⟩) (n.drop k).length (c - k)) (n.drop k) := by
  obtain ⟨o', c', hv, hc, h1⟩ := h
  injection hv with e1 e2 e3
  refine ⟨_, _, rfl, by rw [List.length_drop]; omega, fun j ps hj => ?_⟩
  rw [List.getElem?_drop] at hj
  obtain ⟨b', off', a, h2, h3, h4⟩ := h1 (k + j) ps hj
  rw [← e1] at h2
  injection h2 with h2
  injection h2 with h2 h5
  subst h2 h5
  exact ⟨_, _, a, rfl, by rw [show off + k + j = off + (k + j) by omega]; exact h3, h4⟩

set_option maxRecDepth 100000 in
set_option maxHeartbeats 4000000 in
theorem dn_above (a b : Nat) (n m : Nm.Name) (w : World) (hA : DnIn w a n) (hB : DnIn w b m) (fn : NameFits n) (fm : NameFits m) :
    Calls Tryz.prog 59 #[.pointer (some ⟨a, 0, none⟩), .pointer (some ⟨b, 0, none⟩)] w fun e w' => e = .returned (.bool (NC.above false n m)) ∧ Below w.heap.size w w' := by
  obtain ⟨oa, ca, cA, hpa, hal, -⟩ := hA.cell
  obtain ⟨ob, cb, cB, hpb, hbl, hcb⟩ := hB.cell
  by_cases hlen : n.length < m.length
  case neg =>
    have t0 : m.length ≤ n.length := by omega
    have hr : NC.above false n m = false := by unfold NC.above; rw [decide_eq_false hlen]; rfl
    rw [hr]
    clear hr hA hB hpa hpb fn fm hlen
    go_enter Tryz.func59, Tryz.ntmps59
    go_wp2_with fail
    go_quiet (fail)
    go_wp2_with fail
    go_ret
    exact ⟨rfl, drewN_below w nq⟩
  have t0 : ¬ m.length ≤ n.length := by omega
  have KA := Lib.hid (fun (w' : World) (hb : Below w.heap.size w w') => (hb.cell (p := ⟨a, 0, none⟩) hal).trans cA)
  have KB := Lib.hid (fun (w' : World) (hb : Below w.heap.size w w') => (hb.cell (p := ⟨b, 0, none⟩) hbl).trans cB)
  have HN := Lib.hid hpa
  have FN := Lib.hid fn.2
  have hn9 := fn.1
  have hm9 := fm.1
  obtain ⟨k, hk⟩ : ∃ k, k = m.length - n.length := ⟨_, rfl⟩
  have hkm : k ≤ m.length := by omega
  have s0 : (0 : Int) ≤ (m.length : Int) - (n.length : Int) := by omega
  have s1 : (m.length : Int) - (n.length : Int) ≤ (m.length : Int) := by omega
  have s2 : ((m.length : Int) - (n.length : Int)).toNat = k := by omega
  have s3 : m.length - k = n.length := by omega
  have hr : NC.above false n m = NC.namesEq false n (m.drop k) := by unfold NC.above; rw [decide_eq_true hlen, hk]; rfl
  have FM := Lib.hid (fun ps (h : ps ∈ m.drop k) => fm.2 ps (List.mem_of_mem_drop h))
  obtain ⟨bm, fom, rfl⟩ : ∃ bm fom, ob = some ⟨bm, fom, none⟩ := by
    obtain ⟨q, hq⟩ : ∃ q, m[0]? = some q := ⟨_, List.getElem?_eq_getElem (by omega)⟩
    obtain ⟨bb, fb, _, h, _⟩ := hpb.nth hq
    exact ⟨_, _, h⟩
  have HM0 := Lib.hid (ptr_drop hpb hkm)
  have hl2 : (m.drop k).length = n.length := by rw [List.length_drop]; omega
  rw [hr]
  rw [hl2] at HM0
  have HK := Lib.hid hk
  clear hA hB hpa hpb fn fm hr hk
  generalize m.drop k = m2 at *
  go_enter Tryz.func59, Tryz.ntmps59
  go_wp2_with fail
  go_quiet (fail)
  have hb0 := drewN_below w nq
  have c1 := KA.out _ hb0
  have c2 := KB.out _ hb0
  have HB0 := Lib.hid hb0
  clear cA cB hb0
  generalize w.drewN nq = w1 at *
  go_wp2_with fail
  by_cases hcap : cb = k
  · have hn0 : n.length = 0 := by have := HK.out; omega
    have HM : Hid (PtrRdns w (.slice (some ⟨bm, fom, none⟩) n.length (cb - k)) m2) := Lib.hid ⟨_, _, by rw [hl2], by omega, fun j ps hj => by
      rw [List.length_eq_zero_iff.1 (hl2.trans hn0)] at hj; simp at hj⟩
    clear HM0
    go_quiet (fail)
    have hb0 := HB0.out.trans ((drewN_below w1 nq).mono HB0.out.size)
    have c1 := KA.out _ hb0
    have c2 := KB.out _ hb0
    have HB0 := Lib.hid hb0
    clear hb0
    generalize w1.drewN nq = w2 at *
    go_wp2_with fail
    go_loopw [39] (fun t39 wr => ∃ (i : Nat), t39 = .int .i64 i ∧ Hid (EqInv false n m2 w i wr)) (fun t39 _ => n.length - (intOf t39).toNat)
    case atStart => exact ⟨0, rfl, Lib.hid ⟨Nat.zero_le _, rfl, HB0.out⟩⟩
    case round =>
      clear HB0 c1 c2
      obtain ⟨i, rfl, HI⟩ := hrel
      have hle := HI.out.le
      have hbz := HI.out.bel.size
      by_cases hend : i = n.length
      · have t1 : decide ((i : Int) < (n.length : Int)) = false := by simp; omega
        have hres : NC.namesEq false n m2 = true := by
          rw [← HI.out.rest, hend, List.drop_length, List.drop_of_length_le (by omega)]; rfl
        have HRS := Lib.hid hres
        clear hres
        go_wp2_with fail
        go_ret
        exact ⟨by rw [HRS.out]; rfl, HI.out.bel⟩
      · exact absurd (show i = n.length by omega) hend
  · have HM := HM0
    clear HM0
    go_quiet (fail)
    have hb0 := HB0.out.trans ((drewN_below w1 nq).mono HB0.out.size)
    have c1 := KA.out _ hb0
    have c2 := KB.out _ hb0
    have HB0 := Lib.hid hb0
    clear hb0
    generalize w1.drewN nq = w2 at *
    go_wp2_with fail
    go_loopw [39] (fun t39 wr => ∃ (i : Nat), t39 = .int .i64 i ∧ Hid (EqInv false n m2 w i wr)) (fun t39 _ => n.length - (intOf t39).toNat)
    case atStart => exact ⟨0, rfl, Lib.hid ⟨Nat.zero_le _, rfl, HB0.out⟩⟩
    case round =>
      clear HB0 c1 c2
      obtain ⟨i, rfl, HI⟩ := hrel
      have hle := HI.out.le
      have hbz := HI.out.bel.size
      by_cases hend : i = n.length
      · have t1 : decide ((i : Int) < (n.length : Int)) = false := by simp; omega
        have hres : NC.namesEq false n m2 = true := by
          rw [← HI.out.rest, hend, List.drop_length, List.drop_of_length_le (by omega)]; rfl
        have HRS := Lib.hid hres
        clear hres
        go_wp2_with fail
        go_ret
        exact ⟨by rw [HRS.out]; rfl, HI.out.bel⟩
      · have hlt : i < n.length := by omega
        have hltm : i < m2.length := by omega
        have t1 : decide ((i : Int) < (n.length : Int)) = true := by simp; omega
        obtain ⟨ps, hp⟩ : ∃ ps, n[i]? = some ps := ⟨_, List.getElem?_eq_getElem hlt⟩
        obtain ⟨qs, hq⟩ : ∃ qs, m2[i]? = some qs := ⟨_, List.getElem?_eq_getElem hltm⟩
        obtain ⟨ba, fa, aa, rfl, ca0, hra⟩ := HN.out.nth hp
        obtain ⟨bb, fb, ab, hbb, cb0, hrb⟩ := HM.out.nth hq
        injection hbb with hbb
        injection hbb with hbb1 hbb2
        subst hbb1 hbb2
        have k1 : wr.cell? ⟨ba, fa + i, none⟩ = some (.pointer (some ⟨aa, 0, none⟩)) := (HI.out.bel.cell (World.block_lt_of_cell? w ⟨ba, fa + i, none⟩ ca0)).trans ca0
        have k2 := (HI.out.bel.cell (World.block_lt_of_cell? w _ cb0)).trans cb0
        have k3 := KA.out _ HI.out.bel
        have k4 := KB.out _ HI.out.bel
        have i0 : (0 : Int) ≤ (i : Int) := by omega
        have i1 : (i : Int) < (n.length : Int) := by omega
        have i2 : (i : Int) < (m2.length : Int) := by omega
        have HC := Lib.hid (fun w' (hb : Below w.heap.size w w') => rdn_eq aa ab ps qs w' (hra.stays hb) (hrb.stays hb) (FN.out ps (List.mem_of_getElem? hp)) (FM.out qs (List.mem_of_getElem? hq)))
        have hrest := HI.out.rest
        rw [drop_at hp, drop_at hq, NC.namesEq] at hrest
        have HREST := Lib.hid hrest
        clear hrest ca0 cb0 hra hrb hp hq hend
        cases hr : NC.rdnEq false ps qs with
        | false =>
          rw [hr] at HC HREST
          clear hr
          go_wp2_with fail
          go_still_tail 11, (by kernel_rfl)
          go_wp2_with fail
          refine (HC.out _ (HI.out.bel.trans ((drewN_below wr 1).mono hbz))).mono ?_
          rintro e w2 ⟨rfl, hb2⟩
          have HE := Lib.hid ((HI.out.bel.trans ((drewN_below wr 1).mono hbz)).trans (hb2.mono hbz))
          clear hb2
          go_wp2_with fail
          go_ret
          exact ⟨by rw [← HREST.out]; rfl, HE.out⟩
        | true =>
          rw [hr] at HC HREST
          clear hr
          go_wp2_with fail
          go_still_tail 11, (by kernel_rfl)
          go_wp2_with fail
          refine (HC.out _ (HI.out.bel.trans ((drewN_below wr 1).mono hbz))).mono ?_
          rintro e w2 ⟨rfl, hb2⟩
          have HE := Lib.hid ((HI.out.bel.trans ((drewN_below wr 1).mono hbz)).trans (hb2.mono hbz))
          clear hb2
          go_wp2_with fail
          exact ⟨⟨i + 1, by go_num, Lib.hid ⟨hlt, HREST.out, HE.out⟩⟩, by simp [intOf]; omega⟩

set_option maxRecDepth 100000 in
set_option maxHeartbeats 4000000 in
theorem dn_above_fold (a b : Nat) (n m : Nm.Name) (w : World) (hA : DnIn w a n) (hB : DnIn w b m) (fn : NameFits n) (fm : NameFits m) :
    Calls Tryz.prog 60 #[.pointer (some ⟨a, 0, none⟩), .pointer (some ⟨b, 0, none⟩)] w fun e w' => e = .returned (.bool (NC.above true n m)) ∧ Below w.heap.size w w' := by
  obtain ⟨oa, ca, cA, hpa, hal, -⟩ := hA.cell
  obtain ⟨ob, cb, cB, hpb, hbl, hcb⟩ := hB.cell
  by_cases hlen : n.length < m.length
  case neg =>
    have t0 : m.length ≤ n.length := by omega
    have hr : NC.above true n m = false := by unfold NC.above; rw [decide_eq_false hlen]; rfl
    rw [hr]
    clear hr hA hB hpa hpb fn fm hlen
    go_enter Tryz.func60, Tryz.ntmps60
    go_wp2_with fail
    go_quiet (fail)
    go_wp2_with fail
    go_ret
    exact ⟨rfl, drewN_below w nq⟩
  have t0 : ¬ m.length ≤ n.length := by omega
  have KA := Lib.hid (fun (w' : World) (hb : Below w.heap.size w w') => (hb.cell (p := ⟨a, 0, none⟩) hal).trans cA)
  have KB := Lib.hid (fun (w' : World) (hb : Below w.heap.size w w') => (hb.cell (p := ⟨b, 0, none⟩) hbl).trans cB)
  have HN := Lib.hid hpa
  have FN := Lib.hid fn.2
  have hn9 := fn.1
  have hm9 := fm.1
  obtain ⟨k, hk⟩ : ∃ k, k = m.length - n.length := ⟨_, rfl⟩
  have hkm : k ≤ m.length := by omega
  have s0 : (0 : Int) ≤ (m.length : Int) - (n.length : Int) := by omega
  have s1 : (m.length : Int) - (n.length : Int) ≤ (m.length : Int) := by omega
  have s2 : ((m.length : Int) - (n.length : Int)).toNat = k := by omega
  have s3 : m.length - k = n.length := by omega
  have hr : NC.above true n m = NC.namesEq true n (m.drop k) := by unfold NC.above; rw [decide_eq_true hlen, hk]; rfl
  have FM := Lib.hid (fun ps (h : ps ∈ m.drop k) => fm.2 ps (List.mem_of_mem_drop h))
  obtain ⟨bm, fom, rfl⟩ : ∃ bm fom, ob = some ⟨bm, fom, none⟩ := by
    obtain ⟨q, hq⟩ : ∃ q, m[0]? = some q := ⟨_, List.getElem?_eq_getElem (by omega)⟩
    obtain ⟨bb, fb, _, h, _⟩ := hpb.nth hq
    exact ⟨_, _, h⟩
  have HM0 := Lib.hid (ptr_drop hpb hkm)
  have hl2 : (m.drop k).length = n.length := by rw [List.length_drop]; omega
  rw [hr]
  rw [hl2] at HM0
  have HK := Lib.hid hk
  clear hA hB hpa hpb fn fm hr hk
  generalize m.drop k = m2 at *
  go_enter Tryz.func60, Tryz.ntmps60
  go_wp2_with fail
  go_quiet (fail)
  have hb0 := drewN_below w nq
  have c1 := KA.out _ hb0
  have c2 := KB.out _ hb0
  have HB0 := Lib.hid hb0
  clear cA cB hb0
  generalize w.drewN nq = w1 at *
  go_wp2_with fail
  by_cases hcap : cb = k
  · have hn0 : n.length = 0 := by have := HK.out; omega
    have HM : Hid (PtrRdns w (.slice (some ⟨bm, fom, none⟩) n.length (cb - k)) m2) := Lib.hid ⟨_, _, by rw [hl2], by omega, fun j ps hj => by
      rw [List.length_eq_zero_iff.1 (hl2.trans hn0)] at hj; simp at hj⟩
    clear HM0
    go_quiet (fail)
    have hb0 := HB0.out.trans ((drewN_below w1 nq).mono HB0.out.size)
    have c1 := KA.out _ hb0
    have c2 := KB.out _ hb0
    have HB0 := Lib.hid hb0
    clear hb0
    generalize w1.drewN nq = w2 at *
    go_wp2_with fail
    go_loopw [39] (fun t39 wr => ∃ (i : Nat), t39 = .int .i64 i ∧ Hid (EqInv true n m2 w i wr)) (fun t39 _ => n.length - (intOf t39).toNat)
    case atStart => exact ⟨0, rfl, Lib.hid ⟨Nat.zero_le _, rfl, HB0.out⟩⟩
    case round =>
      clear HB0 c1 c2
      obtain ⟨i, rfl, HI⟩ := hrel
      have hle := HI.out.le
      have hbz := HI.out.bel.size
      by_cases hend : i = n.length
      · have t1 : decide ((i : Int) < (n.length : Int)) = false := by simp; omega
        have hres : NC.namesEq true n m2 = true := by
          rw [← HI.out.rest, hend, List.drop_length, List.drop_of_length_le (by omega)]; rfl
        have HRS := Lib.hid hres
        clear hres
        go_wp2_with fail
        go_ret
        exact ⟨by rw [HRS.out]; rfl, HI.out.bel⟩
      · exact absurd (show i = n.length by omega) hend
  · have HM := HM0
    clear HM0
    go_quiet (fail)
    have hb0 := HB0.out.trans ((drewN_below w1 nq).mono HB0.out.size)
    have c1 := KA.out _ hb0
    have c2 := KB.out _ hb0
    have HB0 := Lib.hid hb0
    clear hb0
    generalize w1.drewN nq = w2 at *
    go_wp2_with fail
    go_loopw [39] (fun t39 wr => ∃ (i : Nat), t39 = .int .i64 i ∧ Hid (EqInv true n m2 w i wr)) (fun t39 _ => n.length - (intOf t39).toNat)
    case atStart => exact ⟨0, rfl, Lib.hid ⟨Nat.zero_le _, rfl, HB0.out⟩⟩
    case round =>
      clear HB0 c1 c2
      obtain ⟨i, rfl, HI⟩ := hrel
      have hle := HI.out.le
      have hbz := HI.out.bel.size
      by_cases hend : i = n.length
      · have t1 : decide ((i : Int) < (n.length : Int)) = false := by simp; omega
        have hres : NC.namesEq true n m2 = true := by
          rw [← HI.out.rest, hend, List.drop_length, List.drop_of_length_le (by omega)]; rfl
        have HRS := Lib.hid hres
        clear hres
        go_wp2_with fail
        go_ret
        exact ⟨by rw [HRS.out]; rfl, HI.out.bel⟩
      · have hlt : i < n.length := by omega
        have hltm : i < m2.length := by omega
        have t1 : decide ((i : Int) < (n.length : Int)) = true := by simp; omega
        obtain ⟨ps, hp⟩ : ∃ ps, n[i]? = some ps := ⟨_, List.getElem?_eq_getElem hlt⟩
        obtain ⟨qs, hq⟩ : ∃ qs, m2[i]? = some qs := ⟨_, List.getElem?_eq_getElem hltm⟩
        obtain ⟨ba, fa, aa, rfl, ca0, hra⟩ := HN.out.nth hp
        obtain ⟨bb, fb, ab, hbb, cb0, hrb⟩ := HM.out.nth hq
        injection hbb with hbb
        injection hbb with hbb1 hbb2
        subst hbb1 hbb2
        have k1 : wr.cell? ⟨ba, fa + i, none⟩ = some (.pointer (some ⟨aa, 0, none⟩)) := (HI.out.bel.cell (World.block_lt_of_cell? w ⟨ba, fa + i, none⟩ ca0)).trans ca0
        have k2 := (HI.out.bel.cell (World.block_lt_of_cell? w _ cb0)).trans cb0
        have k3 := KA.out _ HI.out.bel
        have k4 := KB.out _ HI.out.bel
        have i0 : (0 : Int) ≤ (i : Int) := by omega
        have i1 : (i : Int) < (n.length : Int) := by omega
        have i2 : (i : Int) < (m2.length : Int) := by omega
        have HC := Lib.hid (fun w' (hb : Below w.heap.size w w') => rdn_eq_fold aa ab ps qs w' (hra.stays hb) (hrb.stays hb) (FN.out ps (List.mem_of_getElem? hp)) (FM.out qs (List.mem_of_getElem? hq)))
        have hrest := HI.out.rest
        rw [drop_at hp, drop_at hq, NC.namesEq] at hrest
        have HREST := Lib.hid hrest
        clear hrest ca0 cb0 hra hrb hp hq hend
        cases hr : NC.rdnEq true ps qs with
        | false =>
          rw [hr] at HC HREST
          clear hr
          go_wp2_with fail
          go_still_tail 11, (by kernel_rfl)
          go_wp2_with fail
          refine (HC.out _ (HI.out.bel.trans ((drewN_below wr 1).mono hbz))).mono ?_
          rintro e w2 ⟨rfl, hb2⟩
          have HE := Lib.hid ((HI.out.bel.trans ((drewN_below wr 1).mono hbz)).trans (hb2.mono hbz))
          clear hb2
          go_wp2_with fail
          go_ret
          exact ⟨by rw [← HREST.out]; rfl, HE.out⟩
        | true =>
          rw [hr] at HC HREST
          clear hr
          go_wp2_with fail
          go_still_tail 11, (by kernel_rfl)
          go_wp2_with fail
          refine (HC.out _ (HI.out.bel.trans ((drewN_below wr 1).mono hbz))).mono ?_
          rintro e w2 ⟨rfl, hb2⟩
          have HE := Lib.hid ((HI.out.bel.trans ((drewN_below wr 1).mono hbz)).trans (hb2.mono hbz))
          clear hb2
          go_wp2_with fail
          exact ⟨⟨i + 1, by go_num, Lib.hid ⟨hlt, HREST.out, HE.out⟩⟩, by simp [intOf]; omega⟩

end Go.Proofs.YtjmahgefijncaaaGreatFmt

/- NamesCompared. -/
namespace Go.Proofs.YtjmahgefijncaaaGreatFmt
open Go Go.RowKit

theorem four_set2 {w : World} {b : Nat} {a1 a2 a3 a4 : Value} {t : TypeId} (h : w.heap[b]? = some (.cells #[a1, a2, a3, a4] t (0, 0))) (x1 x2 x3 x4 : Value) :
    ((((w.setCell ⟨b, 0, none⟩ x1).setCell ⟨b, 1, none⟩ x2).setCell ⟨b, 2, none⟩ x3).setCell ⟨b, 3, none⟩ x4).heap[b]? = some (.cells #[x1, x2, x3, x4] t (0, 0)) := by
  have h1 := blockSet h 0 x1
  have h2 := blockSet h1 1 x2
  have h3 := blockSet h2 2 x3
  have h4 := blockSet h3 3 x4
  simpa using h4

def Cmp (n m : Nm.Name) : Value := .agg #[.bool (NC.namesEq false n m), .bool (NC.namesEq true n m), .bool (NC.above false n m), .bool (NC.above true n m)]

set_option maxRecDepth 100000 in
set_option maxHeartbeats 8000000 in
theorem names_cmp (va vb : Value) (n m : Nm.Name) (w : World) (hA : NameIn w va n) (hB : NameIn w vb m) (fn : NameFits n) (fm : NameFits m) :
    Calls Tryz.prog 30 #[va, vb] w fun e w' => e = .returned (Cmp n m) ∧ Below w.heap.size w w' := by
  have HA := Lib.hid (fun w' (hb : Below w.heap.size w w') => dn_mk va n w' (hA.stays hb) fn.1 (fun ps h => (fn.2 ps h).1))
  have HB := Lib.hid (fun w' (hb : Below w.heap.size w w') => dn_mk vb m w' (hB.stays hb) fm.1 (fun ps h => (fm.2 ps h).1))
  have HE := Lib.hid (fun a b w' (h1 : DnIn w' a n) (h2 : DnIn w' b m) => And.intro (dn_eq a b n m w' h1 h2 fn fm) (And.intro (dn_eq_fold a b n m w' h1 h2 fn fm) (And.intro (dn_above a b n m w' h1 h2 fn fm) (dn_above_fold a b n m w' h1 h2 fn fm))))
  unfold Cmp
  generalize NC.namesEq false n m = r1 at *
  generalize NC.namesEq true n m = r2 at *
  generalize NC.above false n m = r3 at *
  generalize NC.above true n m = r4 at *
  clear hA hB fn fm
  go_enter Tryz.func30, Tryz.ntmps30
  go_wp2_with fail
  have hb0 := (Below.refl w.heap.size w).alloc (Nat.le_refl _) (.cells #[.bool false, .bool false, .bool false, .bool false] 55 (0, 0))
  have hC0 := heap_alloc_new w (.cells #[.bool false, .bool false, .bool false, .bool false] 55 (0, 0))
  have hz0 : w.heap.size < (w.alloc (.cells #[.bool false, .bool false, .bool false, .bool false] 55 (0, 0))).heap.size := by simp
  have HB0 := Lib.hid hb0
  have HC0 := Lib.hid hC0
  clear hb0 hC0
  generalize w.alloc (.cells #[.bool false, .bool false, .bool false, .bool false] 55 (0, 0)) = w0 at *
  generalize hC : w.heap.size = C at *
  have hz1 : C ≤ w0.heap.size := by omega
  refine (HA.out w0 HB0.out).mono ?_
  rintro e w1 ⟨a, rfl, hda, hb1⟩
  have hs1 := hb1.size
  have HK1 := Lib.hid hb1
  have HD1 := Lib.hid hda
  clear hb1 hda HA
  go_wp2_with fail
  refine (HB.out w1 (HB0.out.trans (HK1.out.mono hz1))).mono ?_
  rintro e w2 ⟨b, rfl, hdb, hb2⟩
  have hs2 := hb2.size
  have HK2 := Lib.hid (HK1.out.trans (hb2.mono hs1))
  have HD2 := Lib.hid (And.intro (HD1.out.stays hb2) hdb)
  clear hb2 hdb HB HD1 HK1
  go_wp2_with fail
  refine ((HE.out a b w2 HD2.out.1 HD2.out.2).1).mono ?_
  rintro e w3 ⟨rfl, hb3⟩
  have hs3 := hb3.size
  have HK3 := Lib.hid (HK2.out.trans (hb3.mono (by have := HK2.out.size; omega)))
  have HD3 := Lib.hid (And.intro (HD2.out.1.stays hb3) (HD2.out.2.stays hb3))
  clear hb3 HD2 HK2
  go_wp2_with fail
  refine ((HE.out a b w3 HD3.out.1 HD3.out.2).2.1).mono ?_
  rintro e w4 ⟨rfl, hb4⟩
  have hs4 := hb4.size
  have HK4 := Lib.hid (HK3.out.trans (hb4.mono (by have := HK3.out.size; omega)))
  have HD4 := Lib.hid (And.intro (HD3.out.1.stays hb4) (HD3.out.2.stays hb4))
  clear hb4 HD3 HK3
  go_wp2_with fail
  refine ((HE.out a b w4 HD4.out.1 HD4.out.2).2.2.1).mono ?_
  rintro e w5 ⟨rfl, hb5⟩
  have hs5 := hb5.size
  have HK5 := Lib.hid (HK4.out.trans (hb5.mono (by have := HK4.out.size; omega)))
  have HD5 := Lib.hid (And.intro (HD4.out.1.stays hb5) (HD4.out.2.stays hb5))
  clear hb5 HD4 HK4
  go_wp2_with fail
  refine ((HE.out a b w5 HD5.out.1 HD5.out.2).2.2.2).mono ?_
  rintro e w6 ⟨rfl, hb6⟩
  have hs6 := hb6.size
  have HK6 := Lib.hid (HK5.out.trans (hb6.mono (by have := HK5.out.size; omega)))
  have HD6 := Lib.hid (And.intro (HD5.out.1.stays hb6) (HD5.out.2.stays hb6))
  clear hb6 HD5 HK5
  have hC6 := (HK6.out.block C hz0).trans HC0.out
  have e0 := blockCell hC6 0
  have e1 := blockCell hC6 1
  have e2 := blockCell hC6 2
  have e3 := blockCell hC6 3
  have f0 := blockFrozen hC6 0
  have f1 := blockFrozen hC6 1
  have f2 := blockFrozen hC6 2
  have f3 := blockFrozen hC6 3
  have HBE := Lib.hid (HB0.out.trans (HK6.out.mono hz1))
  have HC6 := Lib.hid hC6
  clear HK6 HD6 hC6
  go_wp2_with fail
  try simp only [Exit.inBlock, Exit.then]
  refine bodyPost_ret (results_cell_row rfl _ _ C 55 _ (0, 0) _ rfl (four_set2 HC6.out _ _ _ _) Tryz.underlying55 rfl (by kernel_rfl)) rfl ?_
  refine ⟨rfl, ?_⟩
  rw [hC]
  exact (((HBE.out.setCell (p := ⟨C, 0, none⟩) (Nat.le_refl _) _).setCell (p := ⟨C, 1, none⟩) (Nat.le_refl _) _).setCell (p := ⟨C, 2, none⟩) (Nat.le_refl _) _).setCell (p := ⟨C, 3, none⟩) (Nat.le_refl _) _
end Go.Proofs.YtjmahgefijncaaaGreatFmt

/- Arguments that are lists of texts, attributes, names, opened. -/
namespace Go.Proofs.YtjmahgefijncaaaGreatFmt
open Go Go.RowKit Go.ChangeShapes Go.WideShapes

theorem spot_none {w : World} {a : Addr} {v : Value} (h : w.cell? a = some v) : a.spot = none := by
  unfold World.cell? at h
  split at h
  · cases hs : a.spot with
    | none => rfl
    | some k => rw [hs] at h; simp at h
  · cases h
theorem add_at {a : Addr} (h : a.spot = none) (i : Nat) : a.add i = ⟨a.block, a.off + i, none⟩ := by
  unfold Addr.add
  split
  · rename_i e
    subst e
    cases a
    simp only at h
    subst h
    rfl
  · rfl
/-- A list, element by element. -/
theorem list_of {α : Type} [Inhabited α] {P : Nat → α → Prop} {n : Nat} (h : ∀ i, i < n → ∃ a, P i a) : ∃ l : List α, l.length = n ∧ ∀ (i : Nat) (a : α), l[i]? = some a → P i a := by
  induction n with
  | zero => exact ⟨[], rfl, fun i a h => by simp at h⟩
  | succ n ih =>
    obtain ⟨l, hl, hP⟩ := ih (fun i hi => h i (by omega))
    obtain ⟨a, ha⟩ := h n (by omega)
    refine ⟨l ++ [a], by simp [hl], fun i b hi => ?_⟩
    rcases Nat.lt_or_ge i l.length with hlt | hge
    · rw [List.getElem?_append_left hlt] at hi; exact hP i b hi
    · rw [List.getElem?_append_right hge] at hi
      have : i = n := by
        have := (List.getElem?_eq_some_iff.1 hi).1
        simp at this; omega
      subst this
      rw [hl, Nat.sub_self] at hi
      simp at hi
      rw [← hi]; exact ha

theorem bs_data (s : ByteArray) : Nm.bs s.data.toList = s := by
  cases s; simp [Nm.bs]

theorem cells_str : Tryz.prog.cellsOf 9 = 1 := by kernel_rfl
theorem cells_attr : Tryz.prog.cellsOf 36 = 2 := by kernel_rfl
theorem cells_strs : Tryz.prog.cellsOf 34 = 1 := by kernel_rfl

section
variable {H : Type} {enc : TypeId × Value → H} {w : World} {base : Nat} {spare : Nat → Bool} {held : Bool}
set_option maxRecDepth 100000 in
theorem open_strs {fuel : Nat} {u : Value} {x : DataW H × List MemPlace} (h : DataW.trod enc Tryz.prog w base spare held fuel 34 [u] = some x) :
    ∃ l : List (List UInt8), StrsIn w u l ∧ l.length ≤ maxLen ∧ ∀ s ∈ l, s.length ≤ maxLen := by
  rcases open_strings Tryz.underlying34 Tryz.underlying9 cells_str h with ⟨e, -⟩ | ⟨a, len, cap, ss, e, -, hl3, hm, hz, -, hc, hs⟩
  · simp only [List.cons.injEq, and_true] at e
    subst e
    exact ⟨[], ⟨none, 0, rfl, fun j s hj => by simp at hj⟩, Nat.zero_le _, by simp⟩
  · simp only [List.cons.injEq, and_true] at e
    subst e
    have hzl : len ≤ ss.length := by rw [hz]; split <;> omega
    have hlen2 : ((ss.take len).map fun s => s.data.toList).length = len := by rw [List.length_map, List.length_take]; omega
    refine ⟨(ss.take len).map fun s => s.data.toList, ⟨some a, cap, by rw [hlen2], fun j s hj => ?_⟩, by rw [hlen2]; omega, fun s hs2 => ?_⟩
    · have hjl : j < len := by
        have := (List.getElem?_eq_some_iff.1 hj).1
        rw [hlen2] at this; exact this
      have h0 := hc 0 (by omega)
      have hsp := spot_none (a := a) (by simpa [Addr.add] using h0)
      refine ⟨a.block, a.off, by cases a; simp only at hsp; subst hsp; rfl, ?_⟩
      rw [← add_at hsp, hc j (by omega)]
      simp only [List.getElem?_map, Option.map_eq_some_iff] at hj
      obtain ⟨t, ht, rfl⟩ := hj
      rw [List.getElem?_take_of_lt hjl] at ht
      rw [List.getD_eq_getElem?_getD, ht, bs_data]
      rfl
    · simp only [List.mem_map] at hs2
      obtain ⟨t, ht, rfl⟩ := hs2
      have h2 := hs t (List.mem_of_mem_take ht)
      rw [Array.length_toList]
      exact h2

set_option maxRecDepth 100000 in
theorem open_attrs {fuel : Nat} {u : Value} {x : DataW H × List MemPlace} (h : DataW.trod enc Tryz.prog w base spare held fuel 32 [u] = some x) :
    ∃ l : List Attr, AttrsIn w u l ∧ l.length ≤ maxLen ∧ ∀ a ∈ l, a.2.length ≤ maxLen := by
  rcases Deep.open_slice Tryz.underlying32 h with ⟨e, -⟩ | ⟨a, len, cap, m, n, D, Pl, e, -, hl, hm, hmm, -, hi⟩
  · simp only [List.cons.injEq, and_true] at e
    subst e
    exact ⟨[], ⟨none, 0, rfl, fun j s hj => by simp at hj⟩, Nat.zero_le _, by simp⟩
  · simp only [List.cons.injEq, and_true] at e
    subst e
    have hlm : len ≤ m := by rw [hmm]; split <;> omega
    have hel : ∀ i, i < len → ∃ p : Attr, (w.cell? (a.add (i * 2)) = some (.string (Nm.bs p.1)) ∧ ∃ v, w.cell? (a.add (i * 2 + 1)) = some v ∧ StrsIn w v p.2) ∧ p.2.length ≤ maxLen := by
      intro i hil
      obtain ⟨cs', hcs, ht⟩ := hi i (by omega)
      rw [cells_attr] at hcs
      obtain ⟨-, hcl, hat⟩ := World.cells?_some hcs
      obtain ⟨ys, n', -, -, -, hys, hf⟩ := DataW.trod_struct Tryz.underlying36 ht
      obtain ⟨u0, u1, rfl⟩ : ∃ u0 u1, cs' = [u0, u1] := by
        match cs', hcl with
        | [u0, u1], _ => exact ⟨u0, u1, rfl⟩
      have g0 := hf 0 _ rfl
      have g1 := hf 1 _ rfl
      obtain ⟨y0, e0⟩ : ∃ y, ys[0]? = some y := ⟨_, List.getElem?_eq_getElem (show 0 < ys.length by rw [hys]; decide)⟩
      obtain ⟨y1, e1⟩ : ∃ y, ys[1]? = some y := ⟨_, List.getElem?_eq_getElem (show 1 < ys.length by rw [hys]; decide)⟩
      rw [e0] at g0
      rw [e1] at g1
      have g0' : DataW.trod enc Tryz.prog w base spare held n' 9 (([u0, u1].drop 0).take (Tryz.prog.cellsOf 9)) = some y0 := g0
      have g1' : DataW.trod enc Tryz.prog w base spare held n' 34 (([u0, u1].drop 1).take (Tryz.prog.cellsOf 34)) = some y1 := g1
      rw [cells_str] at g0'
      rw [cells_strs] at g1'
      obtain ⟨s, es, -, hsz⟩ := DataW.trod_string Tryz.underlying9 g0'
      obtain ⟨l2, h2, h3, h4⟩ := open_strs (by simpa using g1')
      simp only [List.drop_zero, List.take_succ_cons, List.take_zero, List.cons.injEq, and_true] at es
      subst es
      have c0 := hat 0 (by omega)
      have c1 := hat 1 (by omega)
      rw [Deep.add_add] at c0 c1
      exact ⟨(s.data.toList, l2), ⟨by rw [bs_data]; simpa using c0, u1, by simpa using c1, h2⟩, h3⟩
    obtain ⟨l, hll, hP⟩ := list_of hel
    refine ⟨l, ⟨some a, cap, by rw [hll], fun j p hj => ?_⟩, by omega, fun p hp => ?_⟩
    · obtain ⟨⟨c0, v, c1, hv⟩, -⟩ := hP j p hj
      have hj0 : j < len := by rw [← hll]; exact (List.getElem?_eq_some_iff.1 hj).1
      obtain ⟨p0, ⟨q0, _⟩, _⟩ := hel 0 (by omega)
      have hsp := spot_none (a := a) (by simpa [Addr.add] using q0)
      refine ⟨a.block, a.off, v, by cases a; simp only at hsp; subst hsp; rfl, ?_, ?_, hv⟩
      · rw [← add_at hsp]; exact c0
      · rw [Nat.add_assoc, ← add_at hsp]; exact c1
    · obtain ⟨i, hi2⟩ := List.getElem?_of_mem hp
      exact (hP i p hi2).2
end
end Go.Proofs.YtjmahgefijncaaaGreatFmt

/- The rows' posts behind calls that leave old memory alone; what the rows' lists give. -/
namespace Go.Proofs.YtjmahgefijncaaaGreatFmt
open Go Go.RowKit Go.ChangeShapes Go.WideShapes

/-- A post whose call leaves every old block as it was. -/
theorem post_below {H : Type} {enc : TypeId × Value → H} {P : Program} {f : Func} {s : ChangeSpec} {apart fresh handsOn again : Bool} {W W' : World} {args : Array Value} {v : Value} {ds gs : List (DataW H)} {before pa pv : List MemPlace}
    (hW : DataW.Whole enc P f.params.toList s.vars apart W args.toList ds gs before)
    (hres : ∀ (b : Nat) (sp : Nat → Bool) (hd : Bool), DataW.TrodAll enc P W' b sp hd f.resultTypes.toList (v.resultList f.resultTypes.size) (s.fn H (ds ++ gs)).results [])
    (hargs : ∀ sp : Nat → Bool, (∀ p ∈ before, sp p.block = true) → DataW.TrodAll enc P W' 0 sp true f.params.toList args.toList (s.fn H (ds ++ gs)).args pa)
    (hvars : ∀ sp : Nat → Bool, (∀ p ∈ before, sp p.block = true) → DataW.TrodVars enc P W' sp s.vars (s.fn H (ds ++ gs)).vars pv)
    (hps : before = pa ++ pv) (hb : Below W.heap.size W W')
    (hok : ∀ (j : Nat) (t : TypeId) (r : Value), f.resultTypes[j]? = some t → (v.resultList f.resultTypes.size)[j]? = some r → Value.okWide P W' .any 0 t r) :
    s.post enc P f apart fresh handsOn again W args v W' := by
  have hlt := hW.lt
  have hold : ∀ p ∈ before, (fun b => decide (b < W.heap.size)) p.block = true := fun p hp => decide_eq_true (hlt p hp)
  refine ⟨ds, gs, before, [], pa, pv, hW, hres _ _ _, hargs _ hold, hvars _ hold, World.keptBut_mono (fun p hp => ⟨hp, Or.inr (List.mem_append.1 (hps ▸ hp))⟩) (hb.frame (· ∈ before)), fun _ => ?_⟩
  obtain ⟨_, _, _, _, _, hz, hn⟩ := hW
  refine ⟨hok, _, _, ([] ++ pa) ++ pv, ⟨[] ++ pa, pv, trodAll_append (hargs _ (fun _ _ => rfl)) (hres _ _ _), hvars _ (fun _ _ => rfl), rfl, fun b off hp => ?_, fun ha => ?_⟩, fun p hp _ => by rw [hps]; simpa using hp⟩
  · have hm : MemPlace.cell b off ∈ before := by rw [hps]; simpa using hp
    exact (hb.frozen (p := ⟨b, off, none⟩) (hlt _ hm)).trans (hz b off hm)
  · have := hn ha
    rw [hps] at this
    simpa using this

theorem err_star : "*" ++ "errors.errorString" = "*errors.errorString" := by decide
theorem err_row (u : TypeId) (h : Tryz.prog.typeName? 3 u = some "*errors.errorString") : u = 144 :=
  typeName_ptr_named (nm := "errors.errorString") (by rw [err_star]; kernel_rfl) (by kernel_rfl) (by decide) u (by rw [err_star]; exact h)

/-- encoding/hex.ErrLength's cell. -/
theorem hex_len {W : World} {r : List (String × DataW Unit)} (h : laidMet Tryz.prog (("encoding/hex.ErrLength", Rows.laid_encoding_hex_ErrLength) :: r) W) : ∃ ev, W.cell? ⟨1, 0, none⟩ = some ev := by
  have g1 : Tryz.prog.globalNamed "encoding/hex.ErrLength" = some 1 := by kernel_rfl
  obtain ⟨a, s, hv, -⟩ := laid_sentinel (g := 1) h g1 (show (Tryz.prog.globals[1]?).map (·.type) = some 83 by kernel_rfl) Tryz.underlying83 err_row Tryz.underlying144 Tryz.underlying146 rfl rfl Tryz.underlying9 (by kernel_rfl) (by kernel_rfl)
  exact ⟨_, (World.var?_cell g1 hv 0).trans rfl⟩

theorem own_knobN : ownKnob Tryz.prog.godebug = none := by kernel_rfl
theorem laid_outN : laidOutB Tryz.prog = true := by kernel_rfl
theorem stopsN : Tryz.pinned.checked.prog.stops = ["fmt.Sprintf"] := by kernel_rfl
theorem stopKnobsN : Tryz.pinned.checked.prog.stopKnobs = [] := by kernel_rfl
theorem quietN (os : Os) : Stop.quiet Tryz.pinned.checked.prog os := by
  intro k hk
  rw [stopKnobsN] at hk
  cases hk
end Go.Proofs.YtjmahgefijncaaaGreatFmt

/- io.EOF and io.ErrUnexpectedEOF, as the rows' lists lay them. -/
namespace Go.Proofs.YtjmahgefijncaaaGreatFmt
open Go Go.RowKit Go.ChangeShapes Go.WideShapes

theorem env_laid {W : World} {r : List (String × DataW Unit)} (h5 : laidMet Tryz.prog (("io.EOF", Rows.laid_io_EOF) :: ("io.ErrUnexpectedEOF", Rows.laid_io_ErrUnexpectedEOF) :: r) W) : Env W.heap.size W := by
  have g0 : Tryz.prog.globalNamed "io.EOF" = some 2 := by kernel_rfl
  have g1 : Tryz.prog.globalNamed "io.ErrUnexpectedEOF" = some 3 := by kernel_rfl
  obtain ⟨a0, a1, s0, s1, c0, c1, t0, t1, hv0, hv1, k0, e0, -, k1, e1, -, -, b0, b1⟩ := laid_sentinels2 h5 g0 (show (Tryz.prog.globals[2]?).map (·.type) = some 83 by kernel_rfl) g1 (show (Tryz.prog.globals[3]?).map (·.type) = some 83 by kernel_rfl)
    Tryz.underlying83 err_row Tryz.underlying144 Tryz.underlying146 rfl rfl Tryz.underlying9 (by kernel_rfl) (by kernel_rfl)
  have z0 : s0.size = 3 := by have := congrArg List.length e0; simpa using this
  have z1 : s1.size = 14 := by have := congrArg List.length e1; simpa using this
  have w0 := World.var?_cell g0 hv0 0
  have w1 := World.var?_cell g1 hv1 0
  refine ⟨⟨a0, w0.trans rfl, blockLt b0, s0, c0, t0, b0, k0, by omega, by omega⟩, ⟨a1, w1.trans rfl, blockLt b1, s1, c1, t1, b1, k1, by omega, by omega⟩, World.block_lt_of_cell? W ⟨2, 0, none⟩ (w0.trans rfl), World.block_lt_of_cell? W ⟨3, 0, none⟩ (w1.trans rfl)⟩
end Go.Proofs.YtjmahgefijncaaaGreatFmt

/- The tables that the whole reading asks for, as the rows' lists lay them. -/
namespace Go.Proofs.YtjmahgefijncaaaGreatFmt
open Go Go.RowKit Go.ChangeShapes Go.WideShapes

def renU : Go.Shelf.Ren := ⟨fun n => n, fun | 5 => 5 | 119 => 222 | 138 => 224 | 139 => 225 | n => n, fun | 3 => 4 | 4 => 5 | n => n⟩
theorem renU_types : Go.Proofs.U8Types Tryz.prog renU := ⟨by kernel_rfl, by kernel_rfl, by kernel_rfl, by kernel_rfl⟩
theorem renU_extra : Go.Proofs.U8Extra Tryz.prog renU := ⟨by kernel_rfl, by kernel_rfl, by kernel_rfl, by kernel_rfl, by kernel_rfl, by kernel_rfl, by kernel_rfl⟩
theorem first_eq : Rows.laid_unicode_utf8_first = Lib.firstData := by kernel_rfl
theorem accept_eq : (Rows.laid_unicode_utf8_acceptRanges : DataW Unit) = Lib.acceptData := by kernel_rfl
theorem pow_eq : (Rows.laid_internal_strconv_uint64pow10 : DataW Unit) = Lib.tabData .u64 Lib.pow10Tab := by kernel_rfl

theorem tab_laid {W : World} {l : List (String × DataW Unit)} (h : laidMet Tryz.prog l W) (h1 : ("unicode/utf8.first", Rows.laid_unicode_utf8_first) ∈ l) (h2 : ("unicode/utf8.acceptRanges", Rows.laid_unicode_utf8_acceptRanges) ∈ l) : UtvTab W := by
  have r1 := Go.Lib.laidMet.reads h h1
  have r2 := Go.Lib.laidMet.reads h h2
  rw [first_eq] at r1
  rw [accept_eq] at r2
  have ht := Go.Proofs.utf8Tabs_of_readsT renU_types renU_extra r1 r2
  refine ⟨fun c hc => ?_, fun k hk => ?_⟩
  · refine ⟨_, ?_, ht.1 c hc⟩
    have := Go.Lib.firstT_cases c
    omega
  · obtain ⟨h1, h2⟩ := ht.2 k hk
    exact ⟨_, _, by rw [Nat.mul_comm]; exact h1, by rw [Nat.mul_comm]; exact h2⟩
theorem envT_laid {W : World} {r : List (String × DataW Unit)} {l : List (String × DataW Unit)} (hE : Env W.heap.size W) (h : laidMet Tryz.prog l W) (h1 : ("unicode/utf8.first", Rows.laid_unicode_utf8_first) ∈ l) (h2 : ("unicode/utf8.acceptRanges", Rows.laid_unicode_utf8_acceptRanges) ∈ l)
    (h3 : laidMet Tryz.prog (("internal/strconv.uint64pow10", Rows.laid_internal_strconv_uint64pow10) :: r) W) : EnvT W.heap.size W := by
  refine ⟨hE, Lib.tabBelow_of_tabIs ?_, fun w' hb => (tab_laid h h1 h2).stays hb⟩
  rw [pow_eq] at h3
  exact Lib.tabIs_of_head (g := 9) (t := 243) (e := 165) (n := 20) (by kernel_rfl) (by kernel_rfl) (by kernel_rfl) (by kernel_rfl) (by kernel_rfl) (by kernel_rfl) h3

/-- hex.ErrLength is an error value. -/
theorem hex_err {W : World} {r : List (String × DataW Unit)} (h : laidMet Tryz.prog (("encoding/hex.ErrLength", Rows.laid_encoding_hex_ErrLength) :: r) W) : ∃ et eu, W.cell? ⟨1, 0, none⟩ = some (.iface et eu) := by
  have g1 : Tryz.prog.globalNamed "encoding/hex.ErrLength" = some 1 := by kernel_rfl
  obtain ⟨a, s, hv, -⟩ := laid_sentinel (g := 1) h g1 (show (Tryz.prog.globals[1]?).map (·.type) = some 83 by kernel_rfl) Tryz.underlying83 err_row Tryz.underlying144 Tryz.underlying146 rfl rfl Tryz.underlying9 (by kernel_rfl) (by kernel_rfl)
  exact ⟨_, _, (World.var?_cell g1 hv 0).trans rfl⟩
end Go.Proofs.YtjmahgefijncaaaGreatFmt

