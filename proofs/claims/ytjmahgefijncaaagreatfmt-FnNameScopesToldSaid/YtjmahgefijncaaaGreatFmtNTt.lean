/- NameText. -/
import Derived.Test.YtjmahgefijncaaaGreatFmtNNx
import Derived.Test.YtjmahgefijncaaaGreatFmtNEs
import Derived.Test.YtjmahgefijncaaaGreatFmtNIn
import Derived.Test.YtjmahgefijncaaaGreatFmtRowsOf
import Derived.Test.YtjmahgefijncaaaGreatFmtParse
import Derived.Test.YtjmahgefijncaaaGreatFmtNMk
import Derived.Test.YtjmahgefijncaaaGreatFmtNDn
namespace Go.Proofs.YtjmahgefijncaaaGreatFmt
open Go Go.RowKit

namespace NT
variable (st : Nat → UInt8)
theorem val_le : ∀ (v : List UInt8) (f : Bool) (k : Nat), k ≤ (valText st v f k).2
  | [], _, _ => Nat.le_refl _
  | c :: r, f, k => by
    rw [valText]
    split
    · exact val_le r false k
    · have := val_le r false (k + 1); show k ≤ (valText st r false (k + 1)).2; omega
theorem side_le (v : List UInt8) (k : Nat) : k < (sideText st v k).2 := by
  unfold sideText
  split
  · exact Nat.lt_succ_self k
  · have := val_le st v true (k + 1); omega
theorem parts_le : ∀ (ps : List Nm.Part) (s : Bool) (k : Nat), k ≤ (partsText st ps s k).2
  | [], _, _ => Nat.le_refl _
  | p :: r, s, k => by
    have h1 := side_le st p.2 k
    have h2 := parts_le r true (partText st p k).2
    rw [partsText]
    show k ≤ (partsText st r true (partText st p k).2).2
    exact Nat.le_trans (Nat.le_of_lt h1) h2
theorem name_le : ∀ (n : Nm.Name) (s : Bool) (k : Nat), k ≤ (nameText st n s k).2
  | [], _, _ => Nat.le_refl _
  | ps :: r, s, k => by
    have h1 := parts_le st ps false k
    have h2 := name_le r true (partsText st ps false k).2
    rw [nameText]
    show k ≤ (nameText st r true (partsText st ps false k).2).2
    exact Nat.le_trans h1 h2
/-- What comes behind a part. -/
def after (ps : List Nm.Part) (n : Nm.Name) (k : Nat) : List UInt8 × Nat :=
  ((partsText st ps true k).1 ++ (nameText st n true (partsText st ps true k).2).1, (nameText st n true (partsText st ps true k).2).2)
theorem after_le (ps : List Nm.Part) (n : Nm.Name) (k : Nat) : k ≤ (after st ps n k).2 := Nat.le_trans (parts_le st ps true k) (name_le st n true _)
theorem parts_cons (p : Nm.Part) (r : List Nm.Part) (s : Bool) (k : Nat) : partsText st (p :: r) s k = ((if s then [43] else []) ++ (p.1 ++ [61]) ++ ((sideText st p.2 k).1 ++ (partsText st r true (sideText st p.2 k).2).1), (partsText st r true (sideText st p.2 k).2).2) := by
  rw [partsText]
  simp [partText]
end NT

/-- The state of NameText: the counter, and nothing else has changed. -/
structure TxI (l : List UInt8) (ab k : Nat) (w1 w : World) : Prop where
  hA : w.heap[ab]? = some (.cells #[.int .i64 (atOf l k : Nat)] 3 (0, 0))
  only : Only (· = ab) w1 w
theorem TxI.alloc {l : List UInt8} {ab k : Nat} {w1 w : World} (h : TxI l ab k w1 w) (o : Obj) : TxI l ab k w1 (w.alloc o) :=
  ⟨(Below.heap_alloc _ _ _ (blockLt h.hA)).trans h.hA, h.only.alloc o⟩
theorem TxI.below {l : List UInt8} {ab k : Nat} {w1 w w' : World} (h : TxI l ab k w1 w) (b : Below w.heap.size w w') : TxI l ab k w1 w' :=
  ⟨(b.block _ (blockLt h.hA)).trans h.hA, h.only.trans ⟨b.os, b.tape, b.output, b.size, fun i hi _ => b.block i hi⟩⟩

/-- What is read in all rounds. -/
structure TxS (v : Value) (n : Nm.Name) (l : List UInt8) (o : Option Addr) (cap sb ab : Nat) (w w1 : World) : Prop where
  bel : Below w.heap.size w w1
  name : NameIn w v n
  bytes : BytesIn w (.slice o l.length cap) l
  cell : w1.cell? ⟨sb, 0, none⟩ = some (.slice o l.length cap)
  ne : sb ≠ ab
  low : w.heap.size ≤ ab
theorem TxS.below {v : Value} {n : Nm.Name} {l : List UInt8} {o : Option Addr} {cap sb ab : Nat} {w w1 wr : World} {k : Nat} (h : TxS v n l o cap sb ab w w1) (i : TxI l ab k w1 wr) : Below w.heap.size w wr :=
  h.bel.trans (only_below i.only (by have := h.bel.size; omega) (fun j hj => by have := h.low; omega))
theorem TxS.next {v : Value} {n : Nm.Name} {l : List UInt8} {o : Option Addr} {cap sb ab : Nat} {w w1 wr : World} {k : Nat} (h : TxS v n l o cap sb ab w w1) (i : TxI l ab k w1 wr) (hl : l.length < 1000000000) (hk : k < 1000000000000) :
    Calls Tryz.prog 53 #[.pointer (some ⟨sb, 0, none⟩), .pointer (some ⟨ab, 0, none⟩)] wr fun e w' => e = .returned (.int .u8 ((stAt l k).toNat : Int)) ∧ TxI l ab (k + 1) w1 w' ∧ Only (· = ab) wr w' := by
  have hb := h.below i
  refine (next_any l o cap sb ab k wr ((i.only.cell (p := ⟨sb, 0, none⟩) (World.block_lt_of_cell? w1 ⟨sb, 0, none⟩ h.cell) h.ne).trans h.cell) (h.bytes.stays hb) i.hA h.ne ?_ hl hk).mono fun e w' ⟨h1, h2, h3⟩ => ⟨h1, ⟨h2, i.only.trans h3⟩, h3⟩
  intro hnil g off hg e
  obtain ⟨o', c', hv, hr⟩ := h.bytes
  injection hv with e1 e2 _
  have hpos : 0 < l.length := by cases l with | nil => exact absurd rfl hnil | cons _ _ => simp
  obtain ⟨g', off', e3, hc⟩ := hr 0 _ (List.getElem?_eq_getElem hpos)
  rw [← e1, hg] at e3
  injection e3 with e3
  injection e3 with e3 _ _
  subst e3
  have := World.block_lt_of_cell? w _ hc
  have := h.low
  simp at *
  omega

/-- The rounds' heads. -/
structure T1 (l : List UInt8) (n : Nm.Name) (T : List UInt8) (K i k : Nat) (out : List UInt8) : Prop where
  le : i ≤ n.length
  text : out ++ (NT.nameText (stAt l) (n.drop i) (decide (0 < i)) k).1 = T
  cnt : (NT.nameText (stAt l) (n.drop i) (decide (0 < i)) k).2 = K
structure T2 (l : List UInt8) (n : Nm.Name) (ps : List Nm.Part) (T : List UInt8) (K j k : Nat) (out : List UInt8) : Prop where
  le : j ≤ ps.length
  text : out ++ ((NT.partsText (stAt l) (ps.drop j) (decide (0 < j)) k).1 ++ (NT.nameText (stAt l) n true (NT.partsText (stAt l) (ps.drop j) (decide (0 < j)) k).2).1) = T
  cnt : (NT.nameText (stAt l) n true (NT.partsText (stAt l) (ps.drop j) (decide (0 < j)) k).2).2 = K
/-- Within a value. -/
structure T3 (l : List UInt8) (n : Nm.Name) (ps : List Nm.Part) (x : List UInt8 × Nat) (T : List UInt8) (K : Nat) (out : List UInt8) : Prop where
  text : out ++ (x.1 ++ (NT.after (stAt l) ps n x.2).1) = T
  cnt : (NT.after (stAt l) ps n x.2).2 = K
theorem T1.few {l : List UInt8} {n : Nm.Name} {T : List UInt8} {K i k : Nat} {out : List UInt8} (h : T1 l n T K i k out) : out.length ≤ T.length ∧ k ≤ K := by
  refine ⟨?_, ?_⟩
  · rw [← h.text, List.length_append]; omega
  · rw [← h.cnt]; exact NT.name_le ..
theorem T2.few {l : List UInt8} {n : Nm.Name} {ps : List Nm.Part} {T : List UInt8} {K j k : Nat} {out : List UInt8} (h : T2 l n ps T K j k out) : out.length ≤ T.length ∧ k ≤ K := by
  refine ⟨?_, ?_⟩
  · rw [← h.text, List.length_append]; omega
  · rw [← h.cnt]; exact Nat.le_trans (NT.parts_le ..) (NT.name_le ..)
theorem T3.few {l : List UInt8} {n : Nm.Name} {ps : List Nm.Part} {x : List UInt8 × Nat} {T : List UInt8} {K : Nat} {out : List UInt8} (h : T3 l n ps x T K out) : out.length + x.1.length ≤ T.length ∧ x.2 ≤ K := by
  refine ⟨?_, ?_⟩
  · rw [← h.text]; simp
  · rw [← h.cnt]; exact NT.after_le ..
theorem T1.go {l : List UInt8} {n : Nm.Name} {T : List UInt8} {K i k : Nat} {out : List UInt8} {ps : List Nm.Part} (h : T1 l n T K i k out) (hp : n[i]? = some ps) :
    T2 l (n.drop (i + 1)) ps T K 0 k (out ++ if 0 < i then [44] else []) := by
  have e := drop_at hp
  refine ⟨Nat.zero_le _, ?_, ?_⟩
  · rw [← h.text, e, NT.nameText]
    by_cases hi : 0 < i <;> simp [hi]
  · rw [← h.cnt, e, NT.nameText]; rfl
theorem T2.back {l : List UInt8} {n : Nm.Name} {ps : List Nm.Part} {T : List UInt8} {K i j k : Nat} {out : List UInt8} (h : T2 l (n.drop (i + 1)) ps T K j k out) (hj : j = ps.length) (hi : i < n.length) : T1 l n T K (i + 1) k out := by
  have e : ps.drop j = [] := by rw [hj]; exact List.drop_length
  have h1 := h.text
  have h2 := h.cnt
  rw [e] at h1 h2
  refine ⟨hi, ?_, ?_⟩
  · simpa [NT.partsText] using h1
  · simpa [NT.partsText] using h2
theorem T2.go {l : List UInt8} {n : Nm.Name} {ps : List Nm.Part} {T : List UInt8} {K j k : Nat} {out : List UInt8} {p : Nm.Part} (h : T2 l n ps T K j k out) (hp : ps[j]? = some p) :
    T3 l n (ps.drop (j + 1)) (NT.sideText (stAt l) p.2 k) T K (out ++ (if 0 < j then [43] else []) ++ (p.1 ++ [61])) := by
  have e := drop_at hp
  have h1 := h.text
  have h2 := h.cnt
  rw [e, NT.parts_cons] at h1 h2
  refine ⟨?_, h2⟩
  rw [← h1]
  by_cases hj : 0 < j <;> simp [hj, NT.after]
theorem T3.back {l : List UInt8} {n : Nm.Name} {ps : List Nm.Part} {k : Nat} {T : List UInt8} {K j : Nat} {out : List UInt8} (h : T3 l n (ps.drop (j + 1)) ([], k) T K out) (hj : j < ps.length) : T2 l n ps T K (j + 1) k out := by
  have h1 := h.text
  have h2 := h.cnt
  exact ⟨hj, by simpa [NT.after] using h1, by simpa [NT.after] using h2⟩

theorem T3.high {l : List UInt8} {n : Nm.Name} {ps : List Nm.Part} {k : Nat} {T : List UInt8} {K : Nat} {out r : List UInt8} {c : UInt8} {f : Bool} (h : T3 l n ps (NT.valText (stAt l) (c :: r) f k) T K out) (hc : 128 ≤ c.toNat) : T3 l n ps (NT.valText (stAt l) r false k) T K (out ++ [c]) := by
  have h1 := h.text
  have h2 := h.cnt
  rw [NT.valText, if_pos (NT.le128.2 hc)] at h1 h2
  exact ⟨by rw [← h1]; simp, h2⟩
theorem T3.low {l : List UInt8} {n : Nm.Name} {ps : List Nm.Part} {k : Nat} {T : List UInt8} {K : Nat} {out r : List UInt8} {c : UInt8} {f : Bool} (h : T3 l n ps (NT.valText (stAt l) (c :: r) f k) T K out) (hc : c.toNat < 128) : T3 l n ps (NT.valText (stAt l) r false (k + 1)) T K (out ++ NT.escB c f r.isEmpty (stAt l k)) := by
  have h1 := h.text
  have h2 := h.cnt
  rw [NT.valText_low _ _ _ _ _ hc] at h1 h2
  exact ⟨by rw [← h1]; simp, h2⟩
theorem T3.hex {l : List UInt8} {n : Nm.Name} {ps : List Nm.Part} {k : Nat} {T : List UInt8} {K : Nat} {out r : List UInt8} {c : UInt8} (h : T3 l n ps ((c :: r).flatMap NT.hexB, k) T K out) : T3 l n ps (r.flatMap NT.hexB, k) T K (out ++ NT.hexB c) := by
  exact ⟨by rw [← h.text]; simp, h.cnt⟩

set_option maxRecDepth 100000 in
set_option maxHeartbeats 32000000 in
theorem text_any (v sv : Value) (n : Nm.Name) (l : List UInt8) (w : World) (hN : NameIn w v n) (hS : BytesIn w sv l) (hf : NameFits n) (hl : l.length < 1000000000) (T : List UInt8) (K : Nat) (hT : NT.nameText (stAt l) n false 0 = (T, K)) (hTl : T.length < 1000000000) (hK : K < 1000000000) :
    Calls Tryz.prog 29 #[v, sv] w fun e w' => e = .returned (.string (Nm.bs T)) ∧ Below w.heap.size w w' := by
  have HN := Lib.hid hN
  have HF := Lib.hid hf
  obtain ⟨so, scap, rfl, hsr⟩ := id hS
  have HSB := Lib.hid hS
  obtain ⟨od, cd, rfl, _⟩ := hN
  have h0 : T1 l n T K 0 0 [] := ⟨Nat.zero_le _, by show ([] : List UInt8) ++ (NT.nameText (stAt l) n false 0).1 = T; rw [hT]; rfl, by show (NT.nameText (stAt l) n false 0).2 = K; rw [hT]⟩
  have H0 := Lib.hid h0
  have hn9 := hf.1
  clear h0 hT hsr hS hf
  go_enter Tryz.func29, Tryz.ntmps29
  go_wp2_with fail
  obtain ⟨w1, hw1⟩ : ∃ w1, w1 = (w.alloc (.cells #[.slice so l.length scap] 51 (0, 0))).alloc (.cells #[.int .i64 0] 3 (0, 0)) := ⟨_, rfl⟩
  have hnewA : w1.heap[w.heap.size + 1]? = some (.cells #[.int .i64 0] 3 (0, 0)) := by
    rw [hw1]; have := heap_alloc_new (w.alloc (.cells #[.slice so l.length scap] 51 (0, 0))) (.cells #[.int .i64 0] 3 (0, 0)); simpa using this
  have hnewS : w1.heap[w.heap.size]? = some (.cells #[.slice so l.length scap] 51 (0, 0)) := by
    rw [hw1, Below.heap_alloc _ _ _ (by simp)]; exact heap_alloc_new w _
  have hx : TxS (.slice od n.length cd) n l so scap w.heap.size (w.heap.size + 1) w w1 :=
    ⟨by rw [hw1]; exact ((Below.refl _ w).alloc (Nat.le_refl _) _).alloc (by simp) _, HN.out, HSB.out, blockCell hnewS 0, by omega, by omega⟩
  have hz : atOf l 0 = 0 := by unfold atOf; split <;> rfl
  have hx0 : TxI l (w.heap.size + 1) 0 w1 w1 := ⟨by rw [hz]; exact hnewA, Only.refl _ _⟩
  have HX := Lib.hid hx
  have HX0 := Lib.hid hx0
  rw [← hw1]
  clear hw1 hnewA hnewS hx hx0 hz HSB
  generalize hab : w.heap.size + 1 = ab at *
  generalize hsb : w.heap.size = sb at *
  have hsab : sb < ab := by omega
  go_loopw [5, 17] (fun t5 t17 wr => ∃ (i k : Nat) (out : List UInt8), t5 = .string (Nm.bs out) ∧ t17 = .int .i64 i ∧ Hid (T1 l n T K i k out ∧ TxI l ab k w1 wr)) (fun _ t17 _ => n.length - (intOf t17).toNat)
  case atStart => exact ⟨0, 0, [], rfl, rfl, Lib.hid ⟨H0.out, HX0.out⟩⟩
  case round =>
    clear H0 HX0
    obtain ⟨i, k, out, rfl, rfl, HI⟩ := hrel
    have hle := HI.out.1.le
    have hfew := HI.out.1.few
    have hos := bs_size out
    by_cases hend : i = n.length
    · have t1 : decide ((i : Int) < (n.length : Int)) = false := by simp; omega
      have hres : out = T := by
        have := HI.out.1.text
        rw [hend, List.drop_length, NT.nameText, List.append_nil] at this
        exact this
      have HE := Lib.hid (And.intro hres (HX.out.below HI.out.2))
      clear hres
      go_wp2_with fail
      go_ret
      exact ⟨by rw [← HE.out.1]; rfl, hsb ▸ HE.out.2⟩
    · have hlt : i < n.length := by omega
      have t1 : decide ((i : Int) < (n.length : Int)) = true := by simp; omega
      obtain ⟨ps, hp⟩ : ∃ ps, n[i]? = some ps := ⟨_, List.getElem?_eq_getElem hlt⟩
      have hpf := HF.out.2 ps (List.mem_of_getElem? hp)
      have hpl := hpf.1
      have HPF := Lib.hid hpf
      have HBL := Lib.hid (HX.out.below HI.out.2)
      obtain ⟨od', cd', e0, hrd⟩ := HN.out
      injection e0 with e0 _ e0'
      subst e0
      subst e0'
      obtain ⟨g, off, u, rfl, cr0, hpa⟩ := hrd i ps hp
      have cr : wr.cell? ⟨g, off + i, none⟩ = some u := (HBL.out.cell (World.block_lt_of_cell? w ⟨g, off + i, none⟩ cr0)).trans cr0
      obtain ⟨ov, cv, rfl, hpc⟩ := hpa
      have HPC := Lib.hid hpc
      have hG := HI.out.1.go hp
      obtain ⟨bi, hbi⟩ : ∃ bi, bi = decide (0 < i) := ⟨_, rfl⟩
      have hif : (if 0 < i then [44] else [] : List UInt8) = if bi then [44] else [] := by rw [hbi]; simp
      rw [hif] at hG
      have HG := Lib.hid hG
      have HX2 := Lib.hid HI.out.2
      clear hrd hpc hp hend HI hpf
      obtain ⟨wo, rfl⟩ : ∃ wo, wo = wr := ⟨_, rfl⟩
      have hap : Nm.bs out ++ ⟨#[44]⟩ = Nm.bs (out ++ [44]) := bs_app out [44]
      have hgt : decide ((i : Int) > 0) = bi := by
        rw [hbi, Bool.eq_iff_iff, decide_eq_true_iff, decide_eq_true_iff]; omega
      clear hG hif hbi
      go_upto_region 6 with (fail)
      go_cut [23] from 22 to 22 (fun t23 wx => t23 = .bool bi ∧ wx = wo)
      case first =>
        go_wp2_with fail
        go_meet
        exact ⟨by rw [← hgt]; simp, rfl⟩
      case rest =>
      obtain ⟨rfl, rfl⟩ := hcut
      obtain ⟨wo, rfl⟩ : ∃ wo, wo = wc := ⟨_, rfl⟩
      clear hgt
      rename_i hK
      refine hK _ _ ?_
      go_cut [5] from 24 to 25 (fun t5 wx => t5 = .string (Nm.bs (out ++ if bi then [44] else [])) ∧ wx = wo)
      case first =>
        cases bi with
        | true =>
          go_wp2_with fail
          go_meet
          exact ⟨rfl, rfl⟩
        | false =>
          go_wp2_with fail
          go_meet
          exact ⟨by simp, rfl⟩
      case rest =>
        obtain ⟨rfl, rfl⟩ := hcut
        obtain ⟨wo, rfl⟩ : ∃ wo, wo = wc := ⟨_, rfl⟩
        clear hap hos hfew
        generalize (out ++ if bi then [44] else []) = out1 at *
        go_wp2_with fail
        go_loopw [5, 28] (fun t5 t28 wr => ∃ (j k : Nat) (out : List UInt8), t5 = .string (Nm.bs out) ∧ t28 = .int .i64 j ∧ Hid (T2 l (n.drop (i + 1)) ps T K j k out ∧ TxI l ab k w1 wr)) (fun _ t28 _ => ps.length - (intOf t28).toNat)
        case atStart => exact ⟨0, k, out1, rfl, rfl, Lib.hid ⟨HG.out, HX2.out⟩⟩
        case round =>
          clear HG HX2
          obtain ⟨j, k, out, rfl, rfl, HI⟩ := hrel
          have hle := HI.out.1.le
          have hfew := HI.out.1.few
          have HI0 : k ≤ K := hfew.2
          have hos := bs_size out
          by_cases hje : j = ps.length
          · have t1 : decide ((j : Int) < (ps.length : Int)) = false := by simp; omega
            have HB := Lib.hid (And.intro (HI.out.1.back hje hlt) HI.out.2)
            go_wp2_with fail
            exact ⟨⟨i + 1, k, out, rfl, by go_num, HB⟩, by simp [intOf]; omega⟩
          · have hjl : j < ps.length := by omega
            have t1 : decide ((j : Int) < (ps.length : Int)) = true := by simp; omega
            obtain ⟨p, hp⟩ : ∃ p, ps[j]? = some p := ⟨_, List.getElem?_eq_getElem hjl⟩
            have hpf := HPF.out.2 p (List.mem_of_getElem? hp)
            obtain ⟨hp1, hp2⟩ := hpf
            have hBr := HX.out.below HI.out.2
            obtain ⟨gv, offv, rfl, ca, cb⟩ := HPC.out j p hp
            have cp0 : wr.cell? ⟨gv, offv + j * 2, none⟩ = some (.string (Nm.bs p.1)) := (hBr.cell (World.block_lt_of_cell? w ⟨gv, offv + j * 2, none⟩ ca)).trans ca
            have cp1 : wr.cell? ⟨gv, offv + j * 2 + 1, none⟩ = some (.string (Nm.bs p.2)) := (hBr.cell (World.block_lt_of_cell? w ⟨gv, offv + j * 2 + 1, none⟩ cb)).trans cb
            obtain ⟨bj, hbj⟩ : ∃ bj, bj = decide (0 < j) := ⟨_, rfl⟩
            have hG := HI.out.1.go hp
            have hif : (if 0 < j then [43] else [] : List UInt8) = if bj then [43] else [] := by rw [hbj]; simp
            rw [hif] at hG
            have HG := Lib.hid hG
            have HX2 := Lib.hid (HI.out.2.alloc (.cells #[.string (Nm.bs p.1), .string (Nm.bs p.2)] 78 (0, 0)))
            have HV := Lib.hid (heap_alloc_new wr (.cells #[.string (Nm.bs p.1), .string (Nm.bs p.2)] 78 (0, 0)))
            have hVab : wr.heap.size ≠ ab := by have := blockLt HI.out.2.hA; omega
            have hap : Nm.bs out ++ ⟨#[43]⟩ = Nm.bs (out ++ [43]) := bs_app out [43]
            have hgt : decide ((j : Int) > 0) = bj := by
              rw [hbj, Bool.eq_iff_iff, decide_eq_true_iff, decide_eq_true_iff]; omega
            have hs1 := bs_size p.1
            have hs2 := bs_size p.2
            clear hG hif hbj hBr ca cb hp HI
            obtain ⟨wi, rfl⟩ : ∃ wi, wi = wr := ⟨_, rfl⟩
            go_upto_region 11 with (fail)
            obtain ⟨W0, hW0⟩ : ∃ W0, W0 = wi.alloc (.cells #[.string (Nm.bs p.1), .string (Nm.bs p.2)] 78 (0, 0)) := ⟨_, rfl⟩
            rw [← hW0]
            rw [← hW0] at HX2 HV
            clear hW0 cp0 cp1
            generalize wi.heap.size = V at *
            go_cut [34] from 33 to 33 (fun t34 wx => t34 = .bool bj ∧ wx = W0)
            case first =>
              go_wp2_with fail
              go_meet
              exact ⟨by rw [← hgt]; simp, rfl⟩
            case rest =>
            obtain ⟨rfl, rfl⟩ := hcut
            obtain ⟨W0, rfl⟩ : ∃ W0, W0 = wc := ⟨_, rfl⟩
            clear hgt
            rename_i hK2
            refine hK2 _ _ ?_
            go_cut [5] from 35 to 36 (fun t5 wx => t5 = .string (Nm.bs (out ++ if bj then [43] else [])) ∧ wx = W0)
            case first =>
              cases bj with
              | true =>
                go_wp2_with fail
                go_meet
                exact ⟨rfl, rfl⟩
              | false =>
                go_wp2_with fail
                go_meet
                exact ⟨by simp, rfl⟩
            case rest =>
            obtain ⟨rfl, rfl⟩ := hcut
            obtain ⟨W0, rfl⟩ : ∃ W0, W0 = wc := ⟨_, rfl⟩
            have hf2 := HG.out.few.1
            simp only [List.length_append] at hf2
            clear hap hos hfew
            generalize hout2 : (out ++ if bj then [43] else []) = out2 at *
            have hf3 : out2.length < 1000000000 := by rw [← hout2]; simp only [List.length_append]; omega
            clear hout2 hf2
            have cV0 : W0.cell? ⟨V, 0, none⟩ = some (.string (Nm.bs p.1)) := blockCell HV.out 0
            have hap1 : Nm.bs p.1 ++ ⟨#[61]⟩ = Nm.bs (p.1 ++ [61]) := bs_app p.1 [61]
            have hap2 := bs_app out2 (p.1 ++ [61])
            have hs3 := bs_size (p.1 ++ [61])
            rw [List.length_append, List.length_singleton] at hs3
            have hs4 := bs_size out2
            go_upto_region 14 with (fail)
            obtain ⟨out3, hout3⟩ : ∃ out3, out3 = out2 ++ (p.1 ++ [61]) := ⟨_, rfl⟩
            rw [← hout3] at HG hap2
            rw [← hout3]
            have hs5 := bs_size out3
            have hf5 : out3.length < 1000000000 := by have := HG.out.few.1; omega
            have hkK : k < 1000000000 := by have := HI0; omega
            clear hout3 hap1 hap2 hs3 hs4 hf3 cV0
            have cV1 : W0.cell? ⟨V, 1, none⟩ = some (.string (Nm.bs p.2)) := blockCell HV.out 1
            have hVl := blockLt HV.out
            obtain ⟨b6, hb6⟩ : ∃ b6, b6 = decide ((stAt l k).toNat % 7 = 6) := ⟨_, rfl⟩
            obtain ⟨hb, hhb⟩ : ∃ hb, hb = decide (stAt l k % 7 = 6 ∧ p.2.length < 128) := ⟨_, rfl⟩
            obtain ⟨m7, hm7⟩ : ∃ m7 : Nat, m7 = (stAt l k).toNat % 7 := ⟨_, rfl⟩
            have e7 : ((stAt l k).toNat : Int).tmod 7 = (m7 : Int) := by rw [Int.tmod_eq_emod_of_nonneg (by omega)]; omega
            have e8 : ((stAt l k).toNat : Int) % 7 = (m7 : Int) := by omega
            have q6 : ((m7 : Int) == 6) = b6 := by
              rw [hb6, hm7, Bool.eq_iff_iff, decide_eq_true_iff, beq_iff_eq]; omega
            have hst : (stAt l k % 7 = 6) ↔ ((stAt l k).toNat % 7 = 6) := by
              have hd : (stAt l k % 7).toNat = (stAt l k).toNat % 7 := by rw [UInt8.toNat_mod]; rfl
              rw [← hd]
              exact ⟨fun e => by rw [e]; rfl, fun e => UInt8.toNat_inj.1 (by rw [e]; rfl)⟩
            have hhb2 : hb = (b6 && decide (p.2.length < 128)) := by
              rw [hhb, hb6, Bool.eq_iff_iff, Bool.and_eq_true, decide_eq_true_iff, decide_eq_true_iff, decide_eq_true_iff, hst]
            have HHB := Lib.hid hhb
            have HNX := Lib.hid (HX.out.next HX2.out hl (by omega))
            clear hhb hst hb6 hm7
            generalize (stAt l k).toNat = sk at *
            go_cut [51] from 42 to 50 (fun t51 wx => t51 = .bool hb ∧ Hid (TxI l ab (k + 1) w1 wx ∧ wx.heap[V]? = some (.cells #[.string (Nm.bs p.1), .string (Nm.bs p.2)] 78 (0, 0))))
            case first =>
              cases b6 with
              | false =>
                go_wp2_with fail
                refine HNX.out.mono ?_
                rintro e w2 ⟨rfl, hx2, ho2⟩
                have HQ := Lib.hid (And.intro hx2 ((ho2.block V hVl hVab).trans HV.out))
                clear hx2 ho2
                go_wp2_with fail
                go_meet
                exact ⟨by rw [hhb2]; rfl, HQ⟩
              | true =>
                by_cases h128 : p.2.length < 128
                · have t128 : decide ((p.2.length : Int) < 128) = true := by simp; omega
                  go_wp2_with fail
                  refine HNX.out.mono ?_
                  rintro e w2 ⟨rfl, hx2, ho2⟩
                  have hV2 := (ho2.block V hVl hVab).trans HV.out
                  have cV2 : w2.cell? ⟨V, 1, none⟩ = some (.string (Nm.bs p.2)) := blockCell hV2 1
                  have HQ := Lib.hid (And.intro hx2 hV2)
                  clear hx2 ho2 hV2
                  go_wp2_with fail
                  go_meet
                  exact ⟨by rw [hhb2, decide_eq_true h128]; rfl, HQ⟩
                · have t128 : decide ((p.2.length : Int) < 128) = false := by simp; omega
                  go_wp2_with fail
                  refine HNX.out.mono ?_
                  rintro e w2 ⟨rfl, hx2, ho2⟩
                  have hV2 := (ho2.block V hVl hVab).trans HV.out
                  have cV2 : w2.cell? ⟨V, 1, none⟩ = some (.string (Nm.bs p.2)) := blockCell hV2 1
                  have HQ := Lib.hid (And.intro hx2 hV2)
                  clear hx2 ho2 hV2
                  go_wp2_with fail
                  go_meet
                  exact ⟨by rw [hhb2, decide_eq_false h128]; rfl, HQ⟩
            case rest =>
            obtain ⟨rfl, HQ⟩ := hcut
            obtain ⟨W1, rfl⟩ : ∃ W1, W1 = wc := ⟨_, rfl⟩
            clear HNX cV1 e7 e8 q6 hhb2
            have kV1 : W1.cell? ⟨V, 1, none⟩ = some (.string (Nm.bs p.2)) := blockCell HQ.out.2 1
            cases hb with
            | true =>
              have hh := of_decide_eq_true HHB.out.symm
              have hside : NT.sideText (stAt l) p.2 k = (NT.hashText p.2, k + 1) := by unfold NT.sideText; rw [if_pos hh]
              rw [hside] at HG
              have hlen := hh.2
              have hG3 : T3 l (n.drop (i + 1)) (ps.drop (j + 1)) ((p.2.drop 0).flatMap NT.hexB, k + 1) T K (out3 ++ ([35, 48, 52] ++ NT.hexB p.2.length.toUInt8)) := by
                refine ⟨?_, HG.out.cnt⟩
                rw [← HG.out.text]
                simp [NT.hashText]
              have HG3 := Lib.hid hG3
              have hl8 : (p.2.length.toUInt8).toNat = p.2.length := toNat_u8 (by omega)
              have HH := Lib.hid (hex_any p.2.length.toUInt8)
              rw [hl8] at HH
              have hw8 : IntKind.u8.wrap (p.2.length : Int) = (p.2.length : Int) := by rw [IntKind.wrap_u8]; omega
              have hap1 : (⟨#[35, 48, 52]⟩ : ByteArray) ++ Nm.bs (NT.hexB p.2.length.toUInt8) = Nm.bs ([35, 48, 52] ++ NT.hexB p.2.length.toUInt8) := bs_app [35, 48, 52] _
              have hap2 := bs_app out3 ([35, 48, 52] ++ NT.hexB p.2.length.toUInt8)
              have hz1 : (Nm.bs (NT.hexB p.2.length.toUInt8)).size = 2 := by rw [bs_size]; rfl
              have hz2 : (Nm.bs ([35, 48, 52] ++ NT.hexB p.2.length.toUInt8)).size = 5 := by rw [bs_size]; rfl
              clear hside hG3 hl8 hh HG HHB
              generalize NT.hexB p.2.length.toUInt8 = hx at *
              generalize ([35, 48, 52] ++ hx) = h5 at *
              go_wp2_with fail
              refine (HH.out W1).mono ?_
              rintro e w2 ⟨rfl, hb2⟩
              have hQ2 : TxI l ab (k + 1) w1 w2 ∧ w2.heap[V]? = some (.cells #[.string (Nm.bs p.1), .string (Nm.bs p.2)] 78 (0, 0)) := ⟨HQ.out.1.below hb2, (hb2.block V (blockLt HQ.out.2)).trans HQ.out.2⟩
              have c2 : w2.cell? ⟨V, 1, none⟩ = some (.string (Nm.bs p.2)) := blockCell hQ2.2 1
              have HQ2 := Lib.hid hQ2
              clear hb2 hQ2 HQ HH
              go_wp2_with fail
              clear c2 kV1
              go_loopw [5, 63] (fun t5 t63 wr => ∃ (m : Nat) (out : List UInt8), t5 = .string (Nm.bs out) ∧ t63 = .int .i64 m ∧ m ≤ p.2.length ∧ Hid (T3 l (n.drop (i + 1)) (ps.drop (j + 1)) ((p.2.drop m).flatMap NT.hexB, k + 1) T K out ∧ TxI l ab (k + 1) w1 wr ∧ wr.heap[V]? = some (.cells #[.string (Nm.bs p.1), .string (Nm.bs p.2)] 78 (0, 0)))) (fun _ t63 _ => p.2.length - (intOf t63).toNat)
              case atStart => exact ⟨0, out3 ++ h5, rfl, rfl, Nat.zero_le _, Lib.hid ⟨HG3.out, HQ2.out⟩⟩
              case round =>
                clear HG3 HQ2 hap1 hap2 hz1 hz2
                obtain ⟨m, out, rfl, rfl, hm, HI⟩ := hrel
                have hfew := HI.out.1.few
                have hos := bs_size out
                by_cases hme : m = p.2.length
                · have t2 : decide ((m : Int) < (p.2.length : Int)) = false := by simp; omega
                  have hT := HI.out.1
                  rw [hme, List.drop_length] at hT
                  have HB := Lib.hid (And.intro (T3.back (k := k + 1) hT hjl) HI.out.2.1)
                  clear hT
                  go_wp2_with fail
                  exact ⟨⟨j + 1, k + 1, out, rfl, by go_num, HB⟩, by simp [intOf]; omega⟩
                · have hml : m < p.2.length := by omega
                  have t2 : decide ((m : Int) < (p.2.length : Int)) = true := by simp; omega
                  obtain ⟨c, hc⟩ : ∃ c, p.2[m]? = some c := ⟨_, List.getElem?_eq_getElem hml⟩
                  have hm2 : m < (Nm.bs p.2).size := by omega
                  have hget : ((Nm.bs p.2)[m]'hm2).toNat = c.toNat := by
                    rw [bs_get]; rw [List.getElem?_eq_getElem hml] at hc; rw [Option.some.inj hc]
                  have m0 : (0 : Int) ≤ (m : Int) := by omega
                  have m1 : (m : Int) < ((Nm.bs p.2).size : Int) := by omega
                  have kV : wr.cell? ⟨V, 1, none⟩ = some (.string (Nm.bs p.2)) := blockCell HI.out.2.2 1
                  have hT := HI.out.1
                  rw [drop_at hc] at hT
                  have hN := hT.hex
                  have HH := Lib.hid (hex_any c wr)
                  have hap := bs_app out (NT.hexB c)
                  have hz1 : (Nm.bs (NT.hexB c)).size = 2 := by rw [bs_size]; rfl
                  have HNN := Lib.hid hN
                  clear hN hT hc
                  generalize NT.hexB c = hx at *
                  go_wp2_with fail
                  refine HH.out.mono ?_
                  rintro e w2 ⟨rfl, hb2⟩
                  have HQ2 := Lib.hid (And.intro (HI.out.2.1.below hb2) ((hb2.block V (blockLt HI.out.2.2)).trans HI.out.2.2))
                  clear hb2 HI HH
                  go_wp2_with fail
                  exact ⟨⟨m + 1, out ++ hx, rfl, by go_num, by omega, Lib.hid ⟨HNN.out, HQ2.out⟩⟩, by simp [intOf]; omega⟩
            | false =>
              have hh := of_decide_eq_false HHB.out.symm
              have hside : NT.sideText (stAt l) p.2 k = NT.valText (stAt l) p.2 true (k + 1) := by unfold NT.sideText; rw [if_neg hh]
              rw [hside] at HG
              have HG3 : Hid (T3 l (n.drop (i + 1)) (ps.drop (j + 1)) (NT.valText (stAt l) (p.2.drop 0) (decide ((0 : Nat) = 0)) (k + 1)) T K out3) := HG
              clear hside hh HG HHB
              go_wp2_with fail
              clear kV1
              go_loopw [5, 77] (fun t5 t77 wr => ∃ (m k : Nat) (out : List UInt8), t5 = .string (Nm.bs out) ∧ t77 = .int .i64 m ∧ m ≤ p.2.length ∧ Hid (T3 l (n.drop (i + 1)) (ps.drop (j + 1)) (NT.valText (stAt l) (p.2.drop m) (decide (m = 0)) k) T K out ∧ TxI l ab k w1 wr ∧ wr.heap[V]? = some (.cells #[.string (Nm.bs p.1), .string (Nm.bs p.2)] 78 (0, 0)))) (fun _ t77 _ => p.2.length - (intOf t77).toNat)
              case atStart => exact ⟨0, k + 1, out3, rfl, rfl, Nat.zero_le _, Lib.hid ⟨HG3.out, HQ.out⟩⟩
              case round =>
                clear HG3 HQ
                obtain ⟨m, k, out, rfl, rfl, hm, HI⟩ := hrel
                have hfew := HI.out.1.few
                have hos := bs_size out
                by_cases hme : m = p.2.length
                · have t2 : decide ((m : Int) < (p.2.length : Int)) = false := by simp; omega
                  have hT := HI.out.1
                  rw [hme, List.drop_length] at hT
                  have HB := Lib.hid (And.intro (T3.back (k := k) hT hjl) HI.out.2.1)
                  clear hT
                  go_wp2_with fail
                  exact ⟨⟨j + 1, k, out, rfl, by go_num, HB⟩, by simp [intOf]; omega⟩
                · have hml : m < p.2.length := by omega
                  have t2 : decide ((m : Int) < (p.2.length : Int)) = true := by simp; omega
                  obtain ⟨c, hc⟩ : ∃ c, p.2[m]? = some c := ⟨_, List.getElem?_eq_getElem hml⟩
                  have hm2 : m < (Nm.bs p.2).size := by omega
                  have hget : ((Nm.bs p.2)[m]'hm2).toNat = c.toNat := by
                    rw [bs_get]; rw [List.getElem?_eq_getElem hml] at hc; rw [Option.some.inj hc]
                  have m0 : (0 : Int) ≤ (m : Int) := by omega
                  have m1 : (m : Int) < ((Nm.bs p.2).size : Int) := by omega
                  have m3 : (m : Int) ≤ (m : Int) + 1 := by omega
                  have m4 : (m : Int) + 1 ≤ (p.2.length : Int) := by omega
                  have m5 : ((m : Int) + 1).toNat = m + 1 := by omega
                  have kV : wr.cell? ⟨V, 1, none⟩ = some (.string (Nm.bs p.2)) := blockCell HI.out.2.2 1
                  have hT := HI.out.1
                  rw [drop_at hc] at hT
                  have hd0 : decide (m + 1 = 0) = false := by simp
                  by_cases h128 : 128 ≤ c.toNat
                  · have t3 : decide ((c.toNat : Int) ≥ 128) = true := by simp; omega
                    have hsl : (Nm.bs p.2).extract m (m + 1) = Nm.bs [c] := by
                      rw [bs_slice p.2 m (m + 1) (by omega), take_snoc hc, List.drop_append_of_le_length (by simp; omega)]
                      rw [List.drop_eq_nil_of_le (by simp; omega)]; rfl
                    have hap := bs_app out [c]
                    have hz1 : (Nm.bs [c]).size = 1 := rfl
                    have hN := hT.high h128
                    rw [← hd0] at hN
                    have HNN := Lib.hid (And.intro hN HI.out.2)
                    clear hN hT hc HI hd0
                    go_wp2_with fail
                    exact ⟨⟨m + 1, k, out ++ [c], rfl, by go_num, by omega, HNN⟩, by simp [intOf]; omega⟩
                  · have t3 : decide ((c.toNat : Int) ≥ 128) = false := by simp; omega
                    have hE := escape_any p.2 m c (stAt l k) hc hp2 
                    have hfst : (m == 0) = decide (m = 0) := by rw [Bool.eq_iff_iff, beq_iff_eq, decide_eq_true_iff]
                    have hlst : (m + 1 == p.2.length) = (p.2.drop (m + 1)).isEmpty := by
                      rw [Bool.eq_iff_iff, beq_iff_eq, List.isEmpty_iff, List.drop_eq_nil_iff]; omega
                    rw [hfst, hlst] at hE
                    have hN := hT.low (by omega)
                    rw [← hd0] at hN
                    have HNN := Lib.hid hN
                    have HE := Lib.hid hE
                    have hfew2 := hN.few.1
                    rw [List.length_append] at hfew2
                    have hkk : k ≤ K := Nat.le_trans (NT.val_le ..) hfew.2
                    clear hE hfst hlst hN hT hc hd0
                    generalize NT.escB c (decide (m = 0)) (p.2.drop (m + 1)).isEmpty (stAt l k) = es at *
                    have hap := bs_app out es
                    have hz1 := bs_size es
                    have hnov : ¬ 9223372036854775807 < out.length + es.length := by omega
                    have hVd : wr.drew.heap[V]? = some (.cells #[.string (Nm.bs p.1), .string (Nm.bs p.2)] 78 (0, 0)) := HI.out.2.2
                    have HVd := Lib.hid hVd
                    have kVd := blockCell hVd 1
                    have hVr := blockLt hVd
                    have HNX := Lib.hid (HX.out.next (wr := wr.drew) ⟨HI.out.2.1.hA, HI.out.2.1.only.drew⟩ hl (by omega))
                    generalize (stAt l k).toNat = sk at *
                    clear hVd
                    go_wp2_with fail
                    go_region_law (first
                      | (go_simp; go_at_call 53; refine HNX.out.mono ?_; rintro e w2 ⟨rfl, hx2, ho2⟩; have hV2 := (ho2.block V hVr hVab).trans HVd.out; have kV2 : w2.cell? ⟨V, 1, none⟩ = some (.string (Nm.bs p.2)) := blockCell hV2 1; have HQ := Lib.hid (And.intro hx2 hV2); clear hx2 ho2 hV2; go_wp2_with fail)
                      | (go_simp; go_at_call 55; refine (HE.out w2).mono ?_; rintro e w3 ⟨rfl, hb3⟩; have HQ3 := Lib.hid (And.intro (HQ.out.1.below hb3) ((hb3.block V (blockLt HQ.out.2)).trans HQ.out.2)); clear hb3; go_wp2_with fail))
                    all_goals
                      clear HNX HVd kVd HE
                      go_wp2_with fail
                      exact ⟨⟨m + 1, k + 1, out ++ es, rfl, by go_num, by omega, Lib.hid ⟨HNN.out, HQ3.out⟩⟩, by simp [intOf]; omega⟩
end Go.Proofs.YtjmahgefijncaaaGreatFmt
