/- readPacket of a primitive packet. -/
import Derived.Test.YtjmahgefijncaaaGreatFmtJ15
set_option linter.unusedVariables false
set_option linter.unusedSimpArgs false
namespace Go.Proofs.YtjmahgefijncaaaGreatFmt
open Go Go.RowKit

theorem known_cases {c t : Nat} (h : Ber.known c t = true) : c ≠ 0 ∨ c = 0 ∧ (t = 0 ∨ t = 1 ∨ t = 2 ∨ t = 4 ∨ t = 5 ∨ t = 10) := by
  simp only [Ber.known, Bool.or_eq_true, Bool.not_eq_true', decide_eq_true_eq, decide_eq_false_iff_not] at h
  omega

theorem prim_end {N : Nat} {w W0 w3 : World} {R A : Nat} {l data rest : List UInt8} {i kk p D C c t : Nat} {m : Int} {row : Option Nat} {bv : Value} (hm : m = (kk : Int)) (hc : c < 4) (ht : t < 2 ^ 63)
    (hK0 : Keep w.heap.size R w W0) (hR0 : Rd W0 R A l (i + kk)) (hC0 : KidRow W0 C 2 []) (hf3 : Only (fun k => k = p ∨ k = D) W0 w3)
    (hp3 : w3.heap[p]? = some (.cells (PkCells ((c * 64 : Nat) : Int) 0 t (valOf c false t data) bv D (.slice (some ⟨C, 0, none⟩) 0 2) (.string ⟨#[]⟩)) 171 (0, 0)))
    (hb3 : BufAt w3 D row (Lib.byteCells data)) (hr : ∀ g, row = some g → w.heap.size ≤ g) (hpB : w.heap.size ≤ p) (hDB : w.heap.size ≤ D) (hCB : w.heap.size ≤ C) (hCp : C ≠ p) (hCD : C ≠ D) (hRlt : R < w.heap.size) (hAlt : A < w.heap.size)
    (hbv : (c ≠ 0 ∧ bv = .slice none 0 0) ∨ c = 0 ∧ ∃ G cp, bv = .slice (some ⟨G, 0, none⟩) data.length cp ∧ w.heap.size ≤ G ∧ G < W0.heap.size ∧ G ≠ p ∧ G ≠ D ∧ ∀ j v, (Lib.byteCells data)[j]? = some v → W0.cell? ⟨G, j, none⟩ = some v)
    (hrest : rest = l.drop (i + kk)) :
    PackOut N w.heap.size R A l i (.ok (.mk c false t data []) rest) (.returned (.tuple #[.pointer (some ⟨p, 0, none⟩), .int .i64 m, .nilIface])) w3 ∧ Keep w.heap.size R w w3 := by
  subst hm
  have hsz := hK0.size
  have hblk : ∀ k, k < W0.heap.size → k ≠ p → k ≠ D → w3.heap[k]? = W0.heap[k]? := fun k hk h1 h2 => hf3.block k hk (by rintro (h | h); exact h1 h; exact h2 h)
  refine ⟨⟨p, kk, rfl, hpB, ?_, ?_, hrest⟩, ?_⟩
  · refine prim_stable hc (by omega) hp3 hb3 (hC0.stays (hblk C hC0.lt hCp hCD)) hpB hDB hCB hr ?_
    rcases hbv with h | ⟨h0, G, cp, h1, h2, h3, h4, h5, h6⟩
    · exact Or.inl h
    · exact Or.inr ⟨h0, G, cp, h1, h2, Nat.lt_of_lt_of_le h3 hf3.size, fun j v hj => (World.cell?_of_block (w := W0) (hblk G h3 h4 h5)).trans (h6 j v hj)⟩
  · exact hR0.stays (hblk R (by omega) (by omega) (by omega)) (hblk A (by omega) (by omega) (by omega))
  · exact hK0.trans (hf3.toKeep (by rintro k (h | h) <;> omega) hsz)

theorem valOf_none {t : Nat} (data : List UInt8) (h : t = 0 ∨ t = 5) : valOf 0 false t data = .nilIface := by
  unfold valOf
  rcases h with rfl | rfl <;> simp

/-- Of the class of universal ones: W4 is what stands behind the storing of ByteValue, and maybe of a call. -/
theorem prim_fin {N : Nat} {w W0 w2 W4 : World} {R A : Nat} {l data rest : List UInt8} {i kk p D C t G cp : Nat} {m : Int} {row : Option Nat} (hm : m = (kk : Int)) (ht : t < 2 ^ 63)
    (hK0 : Keep w.heap.size R w W0) (hR0 : Rd W0 R A l (i + kk)) (hC0 : KidRow W0 C 2 []) (hp0 : p < W0.heap.size)
    (hp2 : w2.heap[p]? = some (.cells (PkCells ((0 * 64 : Nat) : Int) 0 t .nilIface (.slice none 0 0) D (.slice (some ⟨C, 0, none⟩) 0 2) (.string ⟨#[]⟩)) 171 (0, 0)))
    (hb2 : BufAt w2 D row (Lib.byteCells ([] ++ data))) (hr2 : row = none ∨ ∃ g, row = some g ∧ W0.heap.size ≤ g) (hf2 : Only (fun k => k = D ∨ none = some k) W0 w2)
    (hpB : w.heap.size ≤ p) (hDB : w.heap.size ≤ D) (hCB : w.heap.size ≤ C) (hCp : C ≠ p) (hCD : C ≠ D) (hpD : p ≠ D) (hRlt : R < w.heap.size) (hAlt : A < w.heap.size)
    (hGB : w.heap.size ≤ G) (hGl : G < W0.heap.size) (hGp : G ≠ p) (hGD : G ≠ D) (hs : ∀ j v, (Lib.byteCells data)[j]? = some v → W0.cell? ⟨G, j, none⟩ = some v) (hrest : rest = l.drop (i + kk))
    (hbel : Below (w2.setCell ⟨p, 4, none⟩ (.slice (some ⟨G, 0, none⟩) data.length cp)).heap.size (w2.setCell ⟨p, 4, none⟩ (.slice (some ⟨G, 0, none⟩) data.length cp)) W4) :
    (PackOut N w.heap.size R A l i (.ok (.mk 0 false t data []) rest) (.returned (.tuple #[.pointer (some ⟨p, 0, none⟩), .int .i64 m, .nilIface])) (W4.setCell ⟨p, 3, none⟩ (valOf 0 false t data)) ∧ Keep w.heap.size R w (W4.setCell ⟨p, 3, none⟩ (valOf 0 false t data))) ∧
    (valOf 0 false t data = .nilIface → PackOut N w.heap.size R A l i (.ok (.mk 0 false t data []) rest) (.returned (.tuple #[.pointer (some ⟨p, 0, none⟩), .int .i64 m, .nilIface])) W4 ∧ Keep w.heap.size R w W4) ∧
    W4.cell? ⟨p, 3, none⟩ = some .nilIface ∧ W4.frozen? ⟨p, 3, none⟩ = false := by
  have hsz0 := hK0.size
  have hsz2 := hf2.size
  have hsz3 : (w2.setCell ⟨p, 4, none⟩ (.slice (some ⟨G, 0, none⟩) data.length cp)).heap.size = w2.heap.size := by simp [World.setCell]
  have hg2 : ∀ g, row = some g → W0.heap.size ≤ g := fun g e => by
    rcases hr2 with h | ⟨g', h, h'⟩
    · rw [h] at e; cases e
    · rw [h] at e; rw [← Option.some.inj e]; exact h'
  have hp4 : W4.heap[p]? = some (.cells (PkCells ((0 * 64 : Nat) : Int) 0 t .nilIface (.slice (some ⟨G, 0, none⟩) data.length cp) D (.slice (some ⟨C, 0, none⟩) 0 2) (.string ⟨#[]⟩)) 171 (0, 0)) := by
    have h3 := blockSet hp2 4 (.slice (some ⟨G, 0, none⟩) data.length cp)
    refine (hbel.block p (by rw [hsz3]; omega)).trans ?_
    simpa [PkCells] using h3
  have hb4 : BufAt W4 D row (Lib.byteCells data) := by
    rw [List.nil_append] at hb2
    refine hb2.kept ?_ fun g e => ?_
    · rw [hbel.block D (by rw [hsz3]; exact hb2.ltD), Below.heap_setCell _ _ _ _ (by show D ≠ p; omega)]
    · have := hg2 g e
      rw [hbel.block g (by rw [hsz3]; subst e; exact hb2.ltG), Below.heap_setCell _ _ _ _ (by show g ≠ p; omega)]
  have hf4 : Only (fun k => k = p ∨ k = D) W0 W4 := by
    have h1 : Only (fun k => k = p ∨ k = D) W0 w2 := hf2.weaken (by rintro i _ (h | h); exact Or.inr h; cases h)
    exact (h1.setCell (p := ⟨p, 4, none⟩) (Or.inr (Or.inl rfl)) (.slice (some ⟨G, 0, none⟩) data.length cp)).trans (Only.ofBelow hbel)
  refine ⟨?_, fun hn => ?_, pk3 hp4, blockFrozen hp4 3⟩
  · refine prim_end (c := 0) hm (by decide) ht hK0 hR0 hC0 (hf4.setCell (p := ⟨p, 3, none⟩) (Or.inr (Or.inl rfl)) (valOf 0 false t data)) ?_ (hb4.kept (Below.heap_setCell _ _ _ _ (by show D ≠ p; omega)) (fun g e => Below.heap_setCell _ _ _ _ (by have := hg2 g e; show g ≠ p; omega)))
      (fun g e => by have := hg2 g e; omega) hpB hDB hCB hCp hCD hRlt hAlt (Or.inr ⟨rfl, G, cp, rfl, hGB, hGl, hGp, hGD, hs⟩) hrest
    have := blockSet hp4 3 (valOf 0 false t data)
    simpa [PkCells] using this
  · refine prim_end (c := 0) hm (by decide) ht hK0 hR0 hC0 hf4 ?_ hb4 (fun g e => by have := hg2 g e; omega) hpB hDB hCB hCp hCD hRlt hAlt (Or.inr ⟨rfl, G, cp, rfl, hGB, hGl, hGp, hGD, hs⟩) hrest
    rw [hn]; exact hp4

set_option maxRecDepth 100000 in
set_option maxHeartbeats 16000000 in
theorem pack_zero (N : Nat) (w : World) (R A : Nat) (l : List UInt8) (i : Nat) (h : Rd w R A l i) (hE : Env N w) (hN : N ≤ R) (d : Nat) (hd : d < 1000) (c t : Nat) (rest : List UInt8)
    (hh : Ber.header (l.drop i) = some (c, false, t, some 0, rest)) (hkn : Ber.known c t = true) :
    Calls Tryz.prog 110 #[.iface 157 (.pointer (some ⟨R, 0, none⟩)), .int .i64 d] w fun e w' => PackOut N w.heap.size R A l i (.ok (.mk c false t [] []) rest) e w' ∧ Keep w.heap.size R w w' := by
  have hhd := head_any N w R A l i h hE hN
  have hm2 := make2
  have hm0 := make0
  have hdi : decide ((d : Int) ≥ 1000) = false := by simp; omega
  obtain ⟨hc4, ht63, -, -⟩ := Ber.header_bound hh
  have hRlt := h.lt
  have hAlt := h.ltA (by rcases Nat.eq_zero_or_pos l.length with h0 | h0; · rw [List.length_eq_zero_iff.1 h0] at hh; simp [Ber.header, Ber.ident] at hh
                         · exact h0)
  have HHD := Lib.hid hhd
  have HH := Lib.hid hh
  have HR := Lib.hid h
  have hkc := known_cases hkn
  have HKN := Lib.hid hkn
  clear hhd hh h hkn hE
  go_enter Tryz.func110, Tryz.ntmps110
  go_wp2_with fail
  refine HHD.out.mono ?_
  rintro e w1 ⟨ho, hk⟩
  unfold HeadOut at ho
  rw [HH.out] at ho
  obtain ⟨k, rfl, hr1, hrest⟩ := ho
  simp only [lenInt, tagValue]
  have hsz1 := hk.size
  obtain ⟨x, hx⟩ : ∃ x : Nat, x = c * 64 := ⟨_, rfl⟩
  rw [← hx]
  have HX := Lib.hid hx
  have hRA := hr1
  have HO := Lib.hid (And.intro hr1 hrest)
  have HK := Lib.hid hk
  have h0 : ((startW w1 x 0 t).alloc (.cells #[] 5)).heap[w1.heap.size + 1]? = _ := (Below.heap_alloc _ _ _ (by rw [startW_size]; omega)).trans (startW_P w1 x 0 t)
  have hD0 : BufAt ((startW w1 x 0 t).alloc (.cells #[] 5)) (w1.heap.size + 1 + 1) none (Lib.byteCells []) := (startW_D w1 x 0 t).below ((Below.refl _ _).alloc (Nat.le_refl _) _)
  have hC0 : KidRow ((startW w1 x 0 t).alloc (.cells #[] 5)) (w1.heap.size + 1 + 1 + 1) 2 [] := (startW_C w1 x 0 t).stays (Below.heap_alloc _ _ _ (startW_C w1 x 0 t).lt)
  have hR0 : Rd ((startW w1 x 0 t).alloc (.cells #[] 5)) R A l (i + k) := ((((hRA.alloc _).alloc _).alloc _).alloc _).alloc _
  have hK0 : Keep w.heap.size R w ((startW w1 x 0 t).alloc (.cells #[] 5)) := hk.trans (Keep.ofBelow ((startW_below w1 x 0 t).trans ((Below.refl _ _).alloc (by rw [startW_size]; omega) _) |>.mono hsz1))
  have hRd0 : Reads ((startW w1 x 0 t).alloc (.cells #[] 5)) (Lib.byteCells []) (.slice (some ⟨w1.heap.size + 1 + 1 + 1 + 1, 0, none⟩) ([] : List UInt8).length 0) := ⟨_, 0, rfl, Or.inl rfl⟩
  have hsz0 : w.heap.size ≤ ((startW w1 x 0 t).alloc (.cells #[] 5)).heap.size := by rw [World.size_alloc, startW_size]; omega
  have hlim : ([] : List UInt8).length + ([] : List UInt8).length ≤ 140737488355328 := by simp
  have hsrc0 : ∀ j v, (Lib.byteCells ([] : List UInt8))[j]? = some v → ((startW w1 x 0 t).alloc (.cells #[] 5)).cell? ⟨w1.heap.size + 1 + 1 + 1 + 1, j, none⟩ = some v := fun j v hj => by simp [Lib.byteCells] at hj
  have hgb : w.heap.size ≤ w1.heap.size + 1 + 1 + 1 + 1 := by omega
  have hgl : w1.heap.size + 1 + 1 + 1 + 1 < ((startW w1 x 0 t).alloc (.cells #[] 5)).heap.size := by rw [World.size_alloc, startW_size]; omega
  have hdl : ([] : List UInt8).length < 1000000000000 := by simp
  have HSRC := Lib.hid hsrc0
  have HGB := Lib.hid hgb
  have HGL := Lib.hid hgl
  have HDL := Lib.hid hdl
  clear hsrc0 hgb hgl hdl
  have HRD := Lib.hid hRd0
  have HSZ0 := Lib.hid hsz0
  have HLIM := Lib.hid hlim
  have HREST := Lib.hid hrest
  have HP0 := Lib.hid h0
  have HD0 := Lib.hid hD0
  have HC0 := Lib.hid hC0
  have HR0 := Lib.hid hR0
  have HK0 := Lib.hid hK0
  clear hRd0 hsz0 hlim hr1 hrest hk hRA h0 hD0 hC0 hR0 hK0 hx
  have tx : ((x : Int) == 0) = true ∨ ((x : Int) == 0) = false := by cases ((x : Int) == 0) <;> simp
  rcases tx with tx | tx
  · have hc0 : c = 0 := by have := HX.out; simp at tx; omega
    subst hc0
    rcases hkc.resolve_left (fun h => h rfl) with ⟨-, hkt⟩
    rcases hkt with rfl | rfl | rfl | rfl | rfl | rfl
    all_goals
      go_wp2_with fail
      refine (write_bytes _ (w1.heap.size + 1 + 1) none [] ([] : List UInt8) _ HD0.out HRD.out HLIM.out).mono ?_
      rintro e w2 ⟨rfl, row2, hb2, hr2, hf2⟩
      have hp2 := (hf2.block _ (blockLt HP0.out) (by rintro (h | h); omega; cases h)).trans HP0.out
      have c23 := pk3 hp2
      have c22 := pk2 hp2
      have c24 := pk4 hp2
      have f23 := blockFrozen hp2 3
      have f24 := blockFrozen hp2 4
      have hB2 := Lib.hid hb2
      have hR2 := Lib.hid hr2
      have hF2 := Lib.hid hf2
      have hP2 := Lib.hid hp2
      have hF4 := fun W4 hbel => prim_fin (N := N) (W4 := W4) (data := ([] : List UInt8)) (G := (w1.heap.size + 1 + 1 + 1 + 1)) (cp := 0) (show (k : Int) = (k : Int) from rfl) ht63 HK0.out HR0.out HC0.out (blockLt HP0.out) (by rw [HX.out] at hp2; exact hp2) hb2 hr2 hf2 (by omega) (by omega) (by omega) (by omega) (by omega) (by omega) hRlt hAlt HGB.out HGL.out (by omega) (by omega) HSRC.out HREST.out hbel
      have hs3 : ∀ j v, (Lib.byteCells ([] : List UInt8))[j]? = some v → (w2.setCell ⟨w1.heap.size + 1, 4, none⟩ (.slice (some ⟨(w1.heap.size + 1 + 1 + 1 + 1), 0, none⟩) ([] : List UInt8).length 0)).cell? ⟨(w1.heap.size + 1 + 1 + 1 + 1), j, none⟩ = some v := fun j v hj =>
        (World.cell?_of_block (w := w2) (Below.heap_setCell _ _ _ _ (by show (w1.heap.size + 1 + 1 + 1 + 1) ≠ w1.heap.size + 1; omega))).trans ((hf2.cell (p := ⟨(w1.heap.size + 1 + 1 + 1 + 1), j, none⟩) HGL.out (by rintro (h | h); (show False); have h' : (w1.heap.size + 1 + 1 + 1 + 1) = w1.heap.size + 1 + 1 := h; omega; cases h)).trans (HSRC.out j v hj))
      have HF4 := Lib.hid hF4
      have HS3 := Lib.hid hs3
      clear hb2 hr2 hf2 hp2 hF4 hs3
      go_wp2_with fail
    · go_ret3
      exact (HF4.out _ (Below.refl _ _)).2.1 (valOf_none _ (Or.inl rfl))
    · refine (parse_all _ (w1.heap.size + 1 + 1 + 1 + 1) 0 ([] : List UInt8) HDL.out HS3.out).mono ?_
      rintro e w4 ⟨⟨ev, rfl⟩, hbel⟩
      obtain ⟨hE, -, c43, f43⟩ := HF4.out w4 hbel
      have HE := Lib.hid hE
      clear hE hbel
      go_wp2
      go_ret3
      exact HE.out
    · refine (parse_all _ (w1.heap.size + 1 + 1 + 1 + 1) 0 ([] : List UInt8) HDL.out HS3.out).mono ?_
      rintro e w4 ⟨⟨ev, rfl⟩, hbel⟩
      obtain ⟨hE, -, c43, f43⟩ := HF4.out w4 hbel
      have HE := Lib.hid hE
      clear hE hbel
      go_wp2
      go_ret3
      exact HE.out
    · refine (decode_any _ (w1.heap.size + 1 + 1 + 1 + 1) 0 ([] : List UInt8) HS3.out).mono ?_
      rintro e w4 ⟨rfl, rfl⟩
      obtain ⟨hE, -, c43, f43⟩ := HF4.out _ (Below.refl _ _)
      have HE := Lib.hid hE
      clear hE
      go_wp2
      go_ret3
      exact HE.out
    · go_ret3
      exact (HF4.out _ (Below.refl _ _)).2.1 (valOf_none _ (Or.inr rfl))
    · refine (parse_all _ (w1.heap.size + 1 + 1 + 1 + 1) 0 ([] : List UInt8) HDL.out HS3.out).mono ?_
      rintro e w4 ⟨⟨ev, rfl⟩, hbel⟩
      obtain ⟨hE, -, c43, f43⟩ := HF4.out w4 hbel
      have HE := Lib.hid hE
      clear hE hbel
      go_wp2
      go_ret3
      exact HE.out
  · have hc0 : c ≠ 0 := by have := HX.out; simp at tx; omega
    go_wp2_with fail
    refine (write_bytes ((startW w1 x 0 t).alloc (.cells #[] 5)) (w1.heap.size + 1 + 1) none [] ([] : List UInt8) _ HD0.out HRD.out HLIM.out).mono ?_
    rintro e w2 ⟨rfl, row2, hb2, hr2, hf2⟩
    have hp2 := (hf2.block _ (blockLt HP0.out) (by rintro (h | h); omega; cases h)).trans HP0.out
    have hE := prim_end (N := N) (w := w) (i := i) (kk := k) (rest := rest) (c := c) (t := t) (data := ([] : List UInt8)) (row := row2) (bv := .slice none 0 0) (show (k : Int) = (k : Int) from rfl) hc4 ht63 HK0.out HR0.out HC0.out (hf2.weaken (by rintro i _ (h | h); exact Or.inr h; cases h)) (by rw [← HX.out]; simpa [valOf, hc0] using hp2) hb2
      (by rintro g rfl; rcases hr2 with h | ⟨g', h, h'⟩; cases h; rw [Option.some.inj h]; have := HSZ0.out; omega) (by omega) (by omega) (by omega) (by omega) (by omega) hRlt hAlt (Or.inl ⟨hc0, rfl⟩) HREST.out
    have HE := Lib.hid hE
    clear hE hb2 hr2 hf2 hp2
    go_wp2
    go_ret3
    exact HE.out
end Go.Proofs.YtjmahgefijncaaaGreatFmt

