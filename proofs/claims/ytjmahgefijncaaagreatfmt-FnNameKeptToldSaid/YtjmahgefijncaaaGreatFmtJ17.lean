/- readPacket of constructed packets. -/
import Derived.Test.YtjmahgefijncaaaGreatFmtJ16
import Derived.Deep.LoopGhost
set_option linter.unusedVariables false
set_option linter.unusedSimpArgs false
namespace Go.Proofs.YtjmahgefijncaaaGreatFmt.Tot
open Go Go.RowKit

set_option maxRecDepth 100000 in
set_option maxHeartbeats 16000000 in
theorem pack_built_none (N R A : Nat) (l : List UInt8) (hN : N ≤ R) (f : Nat) (ih : ∀ g, g < f → ReadHolds N R A l g) (w : World) (i d c t : Nat) (rest : List UInt8) (R0 : Ber.Res → Prop) (h : Rd w R A l i) (hE : EnvT N w) (hd : d < 1000)
    (hh : Ber.header (l.drop i) = some (c, true, t, none, rest)) (hfu : 2 * (l.length - i) ≤ f) (hr : ∀ r, Ber.kidsR f d c t none 0 [] rest r → R0 r) :
    Calls Tryz.prog 110 #[.iface 157 (.pointer (some ⟨R, 0, none⟩)), .int .i64 d] w fun e w' => (∃ r, R0 r ∧ PackOut N w.heap.size R A l i r e w') ∧ Keep w.heap.size R w w' := by
  have hhd := head_any N w R A l i h hE.env hN
  have hm2 := make2
  have hdi : decide ((d : Int) ≥ 1000) = false := by simp; omega
  obtain ⟨hc4, ht63, -, m0, hm01, hm02, hm03⟩ := Ber.header_bound hh
  have hRlt := h.lt
  have hAlt := h.ltA (by rcases Nat.eq_zero_or_pos l.length with h0 | h0; · rw [List.length_eq_zero_iff.1 h0] at hh; simp [Ber.header, Ber.ident] at hh
                         · exact h0)
  have HHD := Lib.hid hhd
  have HH := Lib.hid hh
  have HE := Lib.hid hE
  have HKR := Lib.hid hr
  have HIH := Lib.hid ih
  clear hhd hh h hE hr ih
  go_enter Tryz.func110, Tryz.ntmps110
  go_wp2_with fail
  refine HHD.out.mono ?_
  rintro e w1 ⟨ho, hk⟩
  unfold HeadOut at ho
  rw [HH.out] at ho
  obtain ⟨k, rfl, hr1, hrest⟩ := ho
  simp only [tagValue, lenInt]
  have hsz1 := hk.size
  obtain ⟨x, hx⟩ : ∃ x : Nat, x = c * 64 := ⟨_, rfl⟩
  rw [← hx]
  have HX := Lib.hid hx
  have hway : Way R A l i c t w (w1.heap.size + 1) (w1.heap.size + 1 + 1) k 0 none (w1.heap.size + 1 + 1 + 1) 2 [] [] (startW w1 x 32 t) := by
    have hk0 := hk.trans (Keep.ofBelow ((startW_below w1 x 32 t).mono hsz1))
    refine ⟨Nat.zero_le _, (((hr1.alloc _).alloc _).alloc _).alloc _, hk0, by rw [← hx]; exact startW_P w1 x 32 t, startW_D w1 x 32 t, startW_C w1 x 32 t, by omega, (fun g e => by cases e), fun w2 _ => by unfold Kids; rfl, by simp [Ber.bodies], by simp⟩
  have hkr0 : 2 * (l.length - (i + k)) + 2 ≤ f ∧ ∀ r, Ber.kidsR f d c t none 0 [] (l.drop (i + k)) r → R0 r := by
    refine ⟨?_, by rw [← hrest]; exact HKR.out⟩
    have e1 := congrArg List.length (hrest.symm.trans hm02)
    rw [List.length_drop, List.length_drop, List.length_drop] at e1
    rw [List.length_drop] at hm03
    omega
  have HWAY := Lib.hid hway
  have HKR0 := Lib.hid hkr0
  clear hr1 hrest hk hx hway hkr0
  go_wp2_with fail
  go_loopg [9, 12] f (fun kq v9 v12 wr => LoopInv R A l i d c t none f R0 w (w1.heap.size + 1) (w1.heap.size + 1 + 1) kq v9 v12 wr)
  case atStart => exact ⟨k, 0, none, _, _, _, _, rfl, rfl, Nat.le_refl _, HWAY.out, HKR0.out.1, HKR0.out.2⟩
  case round =>
    obtain ⟨k, got, row, C, cap, xs, items, rfl, rfl, hkq, hW, hfl, hK⟩ := hrel
    obtain ⟨g, rfl⟩ : ∃ g, gk = g + 1 := by
      cases gk with
      | zero => omega
      | succ g => exact ⟨g, rfl⟩
    have hpos := hW.rd.pos
    have hlen9 := hW.rd.len
    have hle := hW.le
    have hP0 := hW.hP
    simp only [Ber.kidsR] at hK
    replace hK := fun r => (by have := hK r; rw [if_neg (by simp), if_neg (by simp)] at this; exact this : _ → R0 r)
    have hEr := HE.out.keep hW.keep (by omega) hN
    have hcl := HIH.out g (by omega) _ (i + k) (d + 1) hW.rd hEr (by omega) (by omega)
    have hcl2 : Calls Tryz.prog 110 #[.iface 157 (.pointer (some ⟨R, 0, none⟩)), .int .i64 ((d : Int) + 1)] wr fun e w' => (∃ r, Ber.readR g (d + 1) (l.drop (i + k)) r ∧ PackOut N wr.heap.size R A l (i + k) r e w') ∧ Keep wr.heap.size R wr w' := hcl
    have HCL := Lib.hid hcl2
    have HW := Lib.hid hW
    have HK := Lib.hid hK
    clear hW hK hcl hcl2 hP0 hEr
    go_wp2_with fail
    refine HCL.out.mono ?_
    rintro e w2 ⟨⟨rc, hrp, ho⟩, hk2⟩
    have hkk := HK.out
    cases rc with
    | bad => exact absurd ho id
    | err =>
      replace hkk := hkk .err (Or.inl ⟨hrp, rfl⟩)
      obtain ⟨pv, m, ev, rfl, hev⟩ := ho
      have hkw := HW.out.keep.trans (hk2.mono HW.out.keep.size)
      have HKW := Lib.hid hkw
      have hev2 := hev.mono HW.out.keep.size
      have hE2 := HE.out.keep hkw (by omega) hN
      obtain ⟨a, rfl⟩ := hev.iface
      have HEV := Lib.hid hev2
      have HE2 := Lib.hid hE2
      have HKK := Lib.hid hkk
      clear hkw hev hev2 hE2 hkk hk2 hrp
      go_wp2_with fail
      refine (uneof_any N w.heap.size w2 HE2.out.env _ HEV.out).mono ?_
      rintro e w3 ⟨ev, rfl, hev3, rfl⟩
      obtain ⟨a3, rfl⟩ := hev3.iface
      have HEV3 := Lib.hid hev3
      clear hev3
      go_wp2
      go_ret3
      exact ⟨⟨.err, HKK.out, _, _, _, rfl, HEV3.out⟩, HKW.out⟩
    | ok p rest' =>
      replace hkk := fun r h => hkk r (Or.inr ⟨p, rest', hrp, h⟩)
      obtain ⟨q, k', rfl, hqB, hst, hrd, hrest'⟩ := ho
      have hfits := Ber.readR_fits _ _ _ _ _ hrp
      have hpos2 := hrd.pos
      have hcons : (l.drop (i + k)).length - rest'.length = k' := by rw [hrest', List.length_drop, List.length_drop]; omega
      have hk'2 : 2 ≤ k' := by
        obtain ⟨m, hm1, hm2, hm3⟩ := hfits.drop
        have h9 := congrArg List.length hm1
        rw [List.length_drop] at h9
        rw [← hcons]
        omega
      have hsize : (Ber.bodies items).length + (Ber.enc p).length ≤ 20 * (k + k') := by
        have h1 := hfits.size
        have h2 := HW.out.size
        rw [hrest', List.length_drop, List.length_drop] at h1
        omega
      rw [hcons] at hkk
      obtain ⟨hway2, hkids2⟩ := HW.out.child hRlt (by omega) (by omega) hk2 hrd hst
      have htree := hst.now
      have heoc := eoc_tree w2 q p htree
      have hrest2 : rest' = l.drop (i + (k + k')) := by rw [hrest', Nat.add_assoc]
      have t3 : decide ((got : Int) + (k' : Int) > 2147483647) = false := by simp; omega
      have hgk9 : got + k' < 1000000000 ∧ k + k' < 1000000000 := by omega
      obtain ⟨hgk1, hgk2⟩ := hgk9
      have HFIT := Lib.hid hfits
      have HSIZE := Lib.hid hsize
      have HKK := Lib.hid hkk
      have HWAY2 := Lib.hid hway2
      have HKIDS2 := Lib.hid hkids2
      have HTREE := Lib.hid htree
      have HEOC := Lib.hid heoc
      have HREST2 := Lib.hid hrest2
      clear hfits hsize hkk hway2 hkids2 htree heoc hrest2 hst hrd hk2 hrest' hrp hcons
      go_wp2_with fail
      refine HEOC.out.mono ?_
      rintro e w3 ⟨rfl, rfl⟩
      have hkk := HKK.out
      by_cases he : Ber.isEOC p = true
      · replace hkk := hkk _ (by rw [if_pos he, if_pos trivial])
        rw [he]
        have hE := HWAY2.out.done (N := N) hc4 ht63 (by omega) (by omega)
        rw [← HREST2.out] at hE
        have HE1 := Lib.hid hE
        have HKK3 := Lib.hid hkk
        clear hE hkk
        go_wp2
        go_ret3
        exact ⟨⟨_, HKK3.out, HE1.out.1⟩, HE1.out.2⟩
      · replace hkk := fun r h => hkk r (by rw [if_neg he]; exact h)
        have hef : Ber.isEOC p = false := by simpa using he
        rw [hef]
        have hnext : Calls Tryz.prog 120 #[.pointer (some ⟨w1.heap.size + 1, 0, none⟩), .pointer (some ⟨q, 0, none⟩)] w2 fun e w' => (∃ v, e = .returned v) ∧ ∃ row' C' cap',
            Way R A l i c t w (w1.heap.size + 1) (w1.heap.size + 1 + 1) (k + k') (got + k') row' C' cap' (xs ++ [.pointer (some ⟨q, 0, none⟩)]) (items ++ [p]) w' := by
          have hw2 := HWAY2.out
          obtain ⟨pc, pb, pt, pd, pi⟩ := p
          have htr := HTREE.out
          unfold Tree at htr
          obtain ⟨D2, row2, C2, cap2, val2, bv2, xs2, hc2, ht2, hp2, hb2, -, -, -, -, -⟩ := htr
          have hel := HSIZE.out
          have hbl : (Ber.body (.mk pc pb pt pd pi)).length ≤ (Ber.enc (.mk pc pb pt pd pi)).length := by simp only [Ber.enc, List.length_append]; omega
          refine (append_any w2 (w1.heap.size + 1) (w1.heap.size + 1 + 1) C cap q D2 row row2 ((c * 64 : Nat) : Int) 32 t .nilIface (.slice none 0 0) (.string ⟨#[]⟩) xs (Ber.bodies items) (Ber.body (.mk pc pb pt pd pi)) pc pt pb _ _ _ _ hc2 ht2 hw2.hP hw2.hC (by have := HW.out.few; omega) hw2.hD (by omega) (by omega) hp2 hb2).mono ?_
          rintro e w' ⟨he, row', C', cap', h1, h2, h3, h4, h5, h6⟩
          exact ⟨he, row', C', cap', hw2.next hRlt hAlt (by omega) (by omega) HKIDS2.out h1 h2 h3 h4 h5 h6 HSIZE.out (by have := HW.out.few; omega)⟩
        have HNEXT := Lib.hid hnext
        have HKK2 := Lib.hid hkk
        clear hnext hkk
        go_wp2_with fail
        refine HNEXT.out.mono ?_
        rintro e w4 ⟨⟨v, rfl⟩, row', C', cap', hw4⟩
        have HW4 := Lib.hid hw4
        clear hw4
        go_wp2_with fail
        go_roundg g
        case measure => exact Nat.lt_succ_self _
        case rel => exact ⟨k + k', got + k', row', C', cap', _, _, by go_num, by go_num, by omega, HW4.out, by omega, by rw [← HREST2.out]; exact HKK2.out⟩
end Go.Proofs.YtjmahgefijncaaaGreatFmt.Tot

/- readPacket of a primitive packet: what stands at its end. -/
namespace Go.Proofs.YtjmahgefijncaaaGreatFmt.Tot
open Go Go.RowKit

theorem prim_end {N : Nat} {w W0 w3 : World} {R A : Nat} {l data rest : List UInt8} {i kk p D C c t : Nat} {m : Int} {row : Option Nat} {val bv : Value} (hm : m = (kk : Int)) (hc : c < 4) (ht : t < 2 ^ 63)
    (hK0 : Keep w.heap.size R w W0) (hR0 : Rd W0 R A l (i + kk)) (hC0 : KidRow W0 C 2 []) (hf3 : Only (fun k => k = p ∨ k = D) W0 w3)
    (hp3 : w3.heap[p]? = some (.cells (PkCells ((c * 64 : Nat) : Int) 0 t val bv D (.slice (some ⟨C, 0, none⟩) 0 2) (.string ⟨#[]⟩)) 171 (0, 0)))
    (hb3 : BufAt w3 D row (Lib.byteCells data)) (hr : ∀ g, row = some g → w.heap.size ≤ g) (hpB : w.heap.size ≤ p) (hDB : w.heap.size ≤ D) (hCB : w.heap.size ≤ C) (hCp : C ≠ p) (hCD : C ≠ D) (hRlt : R < w.heap.size) (hAlt : A < w.heap.size)
    (hbv : (c ≠ 0 ∧ bv = .slice none 0 0) ∨ c = 0 ∧ ∃ G cp, bv = .slice (some ⟨G, 0, none⟩) data.length cp ∧ w.heap.size ≤ G ∧ G < W0.heap.size ∧ G ≠ p ∧ G ≠ D ∧ ∀ j v, (Lib.byteCells data)[j]? = some v → W0.cell? ⟨G, j, none⟩ = some v)
    (hrest : rest = l.drop (i + kk)) :
    PackOut N w.heap.size R A l i (.ok (.mk c false t data []) rest) (.returned (.tuple #[.pointer (some ⟨p, 0, none⟩), .int .i64 m, .nilIface])) w3 ∧ Keep w.heap.size R w w3 := by
  subst hm
  have hsz := hK0.size
  have hblk : ∀ k, k < W0.heap.size → k ≠ p → k ≠ D → w3.heap[k]? = W0.heap[k]? := fun k hk h1 h2 => hf3.block k hk (by rintro (h | h); exact h1 h; exact h2 h)
  refine ⟨⟨p, kk, rfl, hpB, ?_, ?_, hrest⟩, ?_⟩
  · refine prim_stable hc (by omega) hp3 hb3 (hC0.stays (hblk C hC0.lt hCp hCD)) hpB hDB hCB hr ?_
    rcases hbv with h | ⟨h0, G, cp, h1, h2, h3, h4, h5, h6⟩
    · exact Or.inl h
    · exact Or.inr ⟨h0, G, cp, h1, h2, Nat.lt_of_lt_of_le h3 hf3.size, fun j v hj => (World.cell?_of_block (w := W0) (hblk G h3 h4 h5)).trans (h6 j v hj)⟩
  · exact hR0.stays (hblk R (by omega) (by omega) (by omega)) (hblk A (by omega) (by omega) (by omega))
  · exact hK0.trans (hf3.toKeep (by rintro k (h | h) <;> omega) hsz)


/-- Of the class of universal ones: W4 is what stands behind the storing of ByteValue, and maybe of a call. -/
theorem prim_fin {N : Nat} {w W0 w2 W4 : World} {R A : Nat} {l data rest : List UInt8} {i kk p D C t G cp : Nat} {m : Int} {row : Option Nat} (hm : m = (kk : Int)) (ht : t < 2 ^ 63)
    (hK0 : Keep w.heap.size R w W0) (hR0 : Rd W0 R A l (i + kk)) (hC0 : KidRow W0 C 2 []) (hp0 : p < W0.heap.size)
    (hp2 : w2.heap[p]? = some (.cells (PkCells ((0 * 64 : Nat) : Int) 0 t .nilIface (.slice none 0 0) D (.slice (some ⟨C, 0, none⟩) 0 2) (.string ⟨#[]⟩)) 171 (0, 0)))
    (hb2 : BufAt w2 D row (Lib.byteCells ([] ++ data))) (hr2 : row = none ∨ ∃ g, row = some g ∧ W0.heap.size ≤ g) (hf2 : Only (fun k => k = D ∨ none = some k) W0 w2)
    (hpB : w.heap.size ≤ p) (hDB : w.heap.size ≤ D) (hCB : w.heap.size ≤ C) (hCp : C ≠ p) (hCD : C ≠ D) (hpD : p ≠ D) (hRlt : R < w.heap.size) (hAlt : A < w.heap.size)
    (hGB : w.heap.size ≤ G) (hGl : G < W0.heap.size) (hGp : G ≠ p) (hGD : G ≠ D) (hs : ∀ j v, (Lib.byteCells data)[j]? = some v → W0.cell? ⟨G, j, none⟩ = some v) (hrest : rest = l.drop (i + kk))
    (hbel : Below (w2.setCell ⟨p, 4, none⟩ (.slice (some ⟨G, 0, none⟩) data.length cp)).heap.size (w2.setCell ⟨p, 4, none⟩ (.slice (some ⟨G, 0, none⟩) data.length cp)) W4) :
    (∀ val, PackOut N w.heap.size R A l i (.ok (.mk 0 false t data []) rest) (.returned (.tuple #[.pointer (some ⟨p, 0, none⟩), .int .i64 m, .nilIface])) (W4.setCell ⟨p, 3, none⟩ val) ∧ Keep w.heap.size R w (W4.setCell ⟨p, 3, none⟩ val)) ∧
    (PackOut N w.heap.size R A l i (.ok (.mk 0 false t data []) rest) (.returned (.tuple #[.pointer (some ⟨p, 0, none⟩), .int .i64 m, .nilIface])) W4 ∧ Keep w.heap.size R w W4) ∧
    W4.cell? ⟨p, 3, none⟩ = some .nilIface ∧ W4.frozen? ⟨p, 3, none⟩ = false := by
  have hsz0 := hK0.size
  have hsz2 := hf2.size
  have hsz3 : (w2.setCell ⟨p, 4, none⟩ (.slice (some ⟨G, 0, none⟩) data.length cp)).heap.size = w2.heap.size := by simp [World.setCell]
  have hg2 : ∀ g, row = some g → W0.heap.size ≤ g := fun g e => by
    rcases hr2 with h | ⟨g', h, h'⟩
    · rw [h] at e; cases e
    · rw [h] at e; rw [← Option.some.inj e]; exact h'
  have hp4 : W4.heap[p]? = some (.cells (PkCells ((0 * 64 : Nat) : Int) 0 t .nilIface (.slice (some ⟨G, 0, none⟩) data.length cp) D (.slice (some ⟨C, 0, none⟩) 0 2) (.string ⟨#[]⟩)) 171 (0, 0)) := by
    have h3 := blockSet hp2 4 (.slice (some ⟨G, 0, none⟩) data.length cp)
    refine (hbel.block p (by rw [hsz3]; omega)).trans ?_
    simpa [PkCells] using h3
  have hb4 : BufAt W4 D row (Lib.byteCells data) := by
    rw [List.nil_append] at hb2
    refine hb2.kept ?_ fun g e => ?_
    · rw [hbel.block D (by rw [hsz3]; exact hb2.ltD), Below.heap_setCell _ _ _ _ (by show D ≠ p; omega)]
    · have := hg2 g e
      rw [hbel.block g (by rw [hsz3]; subst e; exact hb2.ltG), Below.heap_setCell _ _ _ _ (by show g ≠ p; omega)]
  have hf4 : Only (fun k => k = p ∨ k = D) W0 W4 := by
    have h1 : Only (fun k => k = p ∨ k = D) W0 w2 := hf2.weaken (by rintro i _ (h | h); exact Or.inr h; cases h)
    exact (h1.setCell (p := ⟨p, 4, none⟩) (Or.inr (Or.inl rfl)) (.slice (some ⟨G, 0, none⟩) data.length cp)).trans (Only.ofBelow hbel)
  refine ⟨fun val => ?_, ?_, pk3 hp4, blockFrozen hp4 3⟩
  · refine prim_end (val := val) (c := 0) hm (by decide) ht hK0 hR0 hC0 (hf4.setCell (p := ⟨p, 3, none⟩) (Or.inr (Or.inl rfl)) val) ?_ (hb4.kept (Below.heap_setCell _ _ _ _ (by show D ≠ p; omega)) (fun g e => Below.heap_setCell _ _ _ _ (by have := hg2 g e; show g ≠ p; omega)))
      (fun g e => by have := hg2 g e; omega) hpB hDB hCB hCp hCD hRlt hAlt (Or.inr ⟨rfl, G, cp, rfl, hGB, hGl, hGp, hGD, hs⟩) hrest
    have := blockSet hp4 3 val
    simpa [PkCells] using this
  · refine prim_end (val := .nilIface) (c := 0) hm (by decide) ht hK0 hR0 hC0 hf4 ?_ hb4 (fun g e => by have := hg2 g e; omega) hpB hDB hCB hCp hCD hRlt hAlt (Or.inr ⟨rfl, G, cp, rfl, hGB, hGl, hGp, hGD, hs⟩) hrest
    exact hp4


theorem nil_or {rest : List UInt8} {l : List UInt8} {j : Nat} (h : rest = l.drop j) : rest.length = l.length - j := by rw [h, List.length_drop]
end Go.Proofs.YtjmahgefijncaaaGreatFmt.Tot

