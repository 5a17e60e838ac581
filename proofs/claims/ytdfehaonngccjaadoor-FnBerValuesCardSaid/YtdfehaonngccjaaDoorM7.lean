/- readPacket of constructed packets. -/
import Derived.Test.YtdfehaonngccjaaDoorM6
import Derived.Deep.LoopGhost
import Derived.Laws.AppendOwn
namespace Go.Proofs.YtdfehaonngccjaaDoor
open Go Go.RowKit

set_option maxRecDepth 100000 in
set_option maxHeartbeats 16000000 in
theorem pack_built_some (N R A : Nat) (l : List UInt8) (hN : N ≤ R) (f : Nat) (ih : ∀ g, g < f → ReadHolds N R A l g) (w : World) (i d c t : Nat) (n : Nat) (hn31 : n ≤ 2147483647) (rest : List UInt8) (r : Ber.Res) (h : Rd w R A l i) (hE : Env N w) (hd : d < 1000)
    (hh : Ber.header (l.drop i) = some (c, true, t, (some n), rest)) (hr : Ber.kids f d c t (some n) 0 [] rest = r) (hnb : r ≠ .bad) :
    Calls Tryd.prog 33 #[.iface 53 (.pointer (some ⟨R, 0, none⟩)), .int .i64 d] w fun e w' => PackOut N w.heap.size R A l i r e w' ∧ Keep w.heap.size R w w' := by
  have hhd := head_any N w R A l i h hE hN
  have hm2 := make2
  have hdi : decide ((d : Int) ≥ 1000) = false := by simp; omega
  obtain ⟨hc4, ht63, -, -⟩ := Ber.header_bound hh
  have hRlt := h.lt
  have hAlt := h.ltA (by rcases Nat.eq_zero_or_pos l.length with h0 | h0; · rw [List.length_eq_zero_iff.1 h0] at hh; simp [Ber.header, Ber.ident] at hh
                         · exact h0)
  have hn1 : ((n : Int) != -1) = true := by rw [bne_iff_ne]; omega
  have hnb1 : decide ((n : Int) > 2147483647) = false := by simp; omega
  have HHD := Lib.hid hhd
  have HH := Lib.hid hh
  have HE := Lib.hid hE
  have HKR := Lib.hid hr
  have HNB := Lib.hid hnb
  have HIH := Lib.hid ih
  clear hhd hh h hE hr hnb ih
  go_enter Tryd.func33, Tryd.ntmps33
  go_wp2_with fail
  refine HHD.out.mono ?_
  rintro e w1 ⟨ho, hk⟩
  unfold HeadOut at ho
  rw [HH.out] at ho
  obtain ⟨k, rfl, hr1, hrest⟩ := ho
  simp only [tagValue, lenInt]
  have hsz1 := hk.size
  obtain ⟨x, hx⟩ : ∃ x : Nat, x = c * 64 := ⟨_, rfl⟩
  rw [← hx]
  have HX := Lib.hid hx
  have hway : Way R A l i c t w (w1.heap.size + 1) (w1.heap.size + 1 + 1) k 0 none (w1.heap.size + 1 + 1 + 1) 2 [] [] (startW w1 x 32 t) := by
    have hk0 := hk.trans (Keep.ofBelow ((startW_below w1 x 32 t).mono hsz1))
    refine ⟨Nat.zero_le _, (((hr1.alloc _).alloc _).alloc _).alloc _, hk0, by rw [← hx]; exact startW_P w1 x 32 t, startW_D w1 x 32 t, startW_C w1 x 32 t, by omega, (fun g e => by cases e), fun w2 _ => by unfold Kids; rfl, by simp [Ber.bodies], by simp⟩
  have hkr0 : Ber.kids f d c t (some n) 0 [] (l.drop (i + k)) = r := by rw [← hrest]; exact HKR.out
  have HWAY := Lib.hid hway
  have HKR0 := Lib.hid hkr0
  clear hr1 hrest hk hx hway hkr0
  go_wp2_with fail
  go_loopg [9, 12] f (fun kq v9 v12 wr => LoopInv R A l i d c t (some n) f r w (w1.heap.size + 1) (w1.heap.size + 1 + 1) kq v9 v12 wr)
  case atStart => exact ⟨k, 0, none, _, _, _, _, rfl, rfl, Nat.le_refl _, HWAY.out, HKR0.out⟩
  case round =>
    obtain ⟨k, got, row, C, cap, xs, items, rfl, rfl, hkq, hW, hK⟩ := hrel
    obtain ⟨g, rfl⟩ : ∃ g, gk = g + 1 := by
      cases gk with
      | zero => exact absurd (by rw [← hK]; simp [Ber.kids]) HNB.out
      | succ g => exact ⟨g, rfl⟩
    have hpos := hW.rd.pos
    have hlen9 := hW.rd.len
    have hle := hW.le
    have hP0 := hW.hP
    simp only [Ber.kids] at hK
    by_cases hgn : n = got
    · subst hgn
      rw [if_pos rfl] at hK
      have t1 : ((n : Int) == (n : Int)) = true := by simp
      have hE := hW.done (N := N) hc4 ht63 (by omega) (by omega)
      rw [hK] at hE
      have HE1 := Lib.hid hE
      clear hE hK hW hP0
      go_wp2
      go_ret3
      exact HE1.out
    · rw [if_neg (by simp; exact hgn)] at hK
      have t1 : ((got : Int) == (n : Int)) = false := by rw [beq_eq_false_iff_ne]; omega
      by_cases hlt : n < got
      · rw [if_pos (by simp; exact hlt)] at hK
        have t2 : decide ((got : Int) > (n : Int)) = true := by simp; omega
        have HW := Lib.hid hW
        have HK := Lib.hid hK
        clear hW hK hP0
        go_wp2_with fail
        refine (new_keep _ (by decide) (by decide) N w.heap.size _ HW.out.keep.size).mono ?_
        rintro e w3 ⟨a, rfl, he, hb⟩
        have HEE := Lib.hid he
        have HB := Lib.hid (HW.out.keep.trans (Keep.ofBelow (hb.mono HW.out.keep.size)))
        clear he hb
        go_wp2
        go_ret3
        rw [← HK.out]
        exact ⟨⟨_, _, rfl, HEE.out⟩, HB.out⟩
      · rw [if_neg (by simp; omega)] at hK
        have t2 : decide ((got : Int) > (n : Int)) = false := by simp; omega
        have hEr := HE.out.keep hW.keep (by omega) hN
        have hcall : Ber.readP g (d + 1) (l.drop (i + k)) ≠ .bad := by
          intro hbad
          rw [hbad] at hK
          exact HNB.out hK.symm
        have hcl := HIH.out g (by omega) _ (i + k) (d + 1) hW.rd hEr (by omega) hcall
        have hcl2 : Calls Tryd.prog 33 #[.iface 53 (.pointer (some ⟨R, 0, none⟩)), .int .i64 ((d : Int) + 1)] wr fun e w' => PackOut N wr.heap.size R A l (i + k) (Ber.readP g (d + 1) (l.drop (i + k))) e w' ∧ Keep wr.heap.size R wr w' := hcl
        have HCL := Lib.hid hcl2
        have HW := Lib.hid hW
        have HK := Lib.hid hK
        clear hW hK hcl hcl2 hcall hP0 hEr
        go_wp2_with fail
        refine HCL.out.mono ?_
        rintro e w2 ⟨ho, hk2⟩
        have hkk := HK.out
        cases hrp : Ber.readP g (d + 1) (l.drop (i + k)) with
        | bad => rw [hrp] at hkk; exact absurd hkk.symm HNB.out
        | err =>
          rw [hrp] at hkk ho
          obtain ⟨m, ev, rfl, hev⟩ := ho
          have hkw := HW.out.keep.trans (hk2.mono HW.out.keep.size)
          have HKW := Lib.hid hkw
          have hev2 := hev.mono HW.out.keep.size
          have hE2 := HE.out.keep hkw (by omega) hN
          obtain ⟨a, rfl⟩ := hev.iface
          have HEV := Lib.hid hev2
          have HE2 := Lib.hid hE2
          have HKK := Lib.hid hkk
          clear hkw hev hev2 hE2 hkk hk2 hrp
          go_wp2_with fail
          refine (uneof_any N w.heap.size w2 HE2.out _ HEV.out).mono ?_
          rintro e w3 ⟨ev, rfl, hev3, rfl⟩
          obtain ⟨a3, rfl⟩ := hev3.iface
          have HEV3 := Lib.hid hev3
          clear hev3
          go_wp2
          go_ret3
          rw [← HKK.out]
          exact ⟨⟨_, _, rfl, HEV3.out⟩, HKW.out⟩
        | ok p rest' =>
          rw [hrp] at hkk ho
          obtain ⟨q, k', rfl, hqB, hst, hrd, hrest'⟩ := ho
          have hfits := Ber.readP_fits _ _ _ _ _ hrp
          have hpos2 := hrd.pos
          have hcons : (l.drop (i + k)).length - rest'.length = k' := by rw [hrest', List.length_drop, List.length_drop]; omega
          have hk'2 : 2 ≤ k' := by
            obtain ⟨m, hm1, hm2, hm3⟩ := hfits.drop
            have h9 := congrArg List.length hm1
            rw [List.length_drop] at h9
            rw [← hcons]
            omega
          have hsize : (Ber.bodies items).length + (Ber.enc p).length ≤ 20 * (k + k') := by
            have h1 := hfits.size
            have h2 := HW.out.size
            rw [hrest', List.length_drop, List.length_drop] at h1
            omega
          simp only [] at hkk
          rw [hcons, if_neg (by omega)] at hkk
          obtain ⟨hway2, hkids2⟩ := HW.out.child hRlt (by omega) (by omega) hk2 hrd hst
          have htree := hst.now
          have heoc := eoc_tree w2 q p htree
          have hrest2 : rest' = l.drop (i + (k + k')) := by rw [hrest', Nat.add_assoc]
          have t3 : decide ((got : Int) + (k' : Int) > 2147483647) = false := by simp; omega
          have hgk9 : got + k' < 1000000000 ∧ k + k' < 1000000000 := by omega
          obtain ⟨hgk1, hgk2⟩ := hgk9
          have HFIT := Lib.hid hfits
          have HSIZE := Lib.hid hsize
          have HKK := Lib.hid hkk
          have HWAY2 := Lib.hid hway2
          have HKIDS2 := Lib.hid hkids2
          have HTREE := Lib.hid htree
          have HEOC := Lib.hid heoc
          have HREST2 := Lib.hid hrest2
          clear hfits hsize hkk hway2 hkids2 htree heoc hrest2 hst hrd hk2 hrest' hrp hcons
          go_wp2_with fail
          refine HEOC.out.mono ?_
          rintro e w3 ⟨rfl, rfl⟩
          have hkk := HKK.out
          by_cases he : Ber.isEOC p = true
          · rw [if_pos he] at hkk
            rw [he]
            rw [if_neg (by simp)] at hkk
            have HKK2 := Lib.hid hkk
            clear hkk
            go_wp2_with fail
            refine (new_keep _ (by decide) (by decide) N w.heap.size _ HWAY2.out.keep.size).mono ?_
            rintro e w3 ⟨a, rfl, he2, hb⟩
            have HEE := Lib.hid he2
            have HB := Lib.hid (HWAY2.out.keep.trans (Keep.ofBelow (hb.mono HWAY2.out.keep.size)))
            clear he2 hb
            go_wp2
            go_ret3
            rw [← HKK2.out]
            exact ⟨⟨_, _, rfl, HEE.out⟩, HB.out⟩
          · rw [if_neg he] at hkk
            have hef : Ber.isEOC p = false := by simpa using he
            rw [hef]
            have hnext : Calls Tryd.prog 39 #[.pointer (some ⟨w1.heap.size + 1, 0, none⟩), .pointer (some ⟨q, 0, none⟩)] w2 fun e w' => (∃ v, e = .returned v) ∧ ∃ row' C' cap',
                Way R A l i c t w (w1.heap.size + 1) (w1.heap.size + 1 + 1) (k + k') (got + k') row' C' cap' (xs ++ [.pointer (some ⟨q, 0, none⟩)]) (items ++ [p]) w' := by
              have hw2 := HWAY2.out
              obtain ⟨pc, pb, pt, pd, pi⟩ := p
              have htr := HTREE.out
              unfold Tree at htr
              obtain ⟨D2, row2, C2, cap2, bv2, xs2, hc2, ht2, hp2, hb2, -, -, -, -, -⟩ := htr
              have hel := HSIZE.out
              have hbl : (Ber.body (.mk pc pb pt pd pi)).length ≤ (Ber.enc (.mk pc pb pt pd pi)).length := by simp only [Ber.enc, List.length_append]; omega
              refine (append_any w2 (w1.heap.size + 1) (w1.heap.size + 1 + 1) C cap q D2 row row2 ((c * 64 : Nat) : Int) 32 t .nilIface (.slice none 0 0) (.string ⟨#[]⟩) xs (Ber.bodies items) (Ber.body (.mk pc pb pt pd pi)) pc pt pb _ _ _ _ hc2 ht2 hw2.hP hw2.hC (by have := HW.out.few; omega) hw2.hD (by omega) (by omega) hp2 hb2).mono ?_
              rintro e w' ⟨he, row', C', cap', h1, h2, h3, h4, h5, h6⟩
              exact ⟨he, row', C', cap', hw2.next hRlt hAlt (by omega) (by omega) HKIDS2.out h1 h2 h3 h4 h5 h6 HSIZE.out (by have := HW.out.few; omega)⟩
            have HNEXT := Lib.hid hnext
            have HKK2 := Lib.hid hkk
            clear hnext hkk
            go_wp2_with fail
            refine HNEXT.out.mono ?_
            rintro e w4 ⟨⟨v, rfl⟩, row', C', cap', hw4⟩
            have HW4 := Lib.hid hw4
            clear hw4
            go_wp2_with fail
            go_roundg g
            case measure => exact Nat.lt_succ_self _
            case rel => exact ⟨k + k', got + k', row', C', cap', _, _, by go_num, by go_num, by omega, HW4.out, by rw [← HREST2.out]; exact HKK2.out⟩
end Go.Proofs.YtdfehaonngccjaaDoor

/- readPacket of constructed packets. -/
namespace Go.Proofs.YtdfehaonngccjaaDoor
open Go Go.RowKit

set_option maxRecDepth 100000 in
set_option maxHeartbeats 16000000 in
theorem pack_built_none (N R A : Nat) (l : List UInt8) (hN : N ≤ R) (f : Nat) (ih : ∀ g, g < f → ReadHolds N R A l g) (w : World) (i d c t : Nat) (rest : List UInt8) (r : Ber.Res) (h : Rd w R A l i) (hE : Env N w) (hd : d < 1000)
    (hh : Ber.header (l.drop i) = some (c, true, t, none, rest)) (hr : Ber.kids f d c t none 0 [] rest = r) (hnb : r ≠ .bad) :
    Calls Tryd.prog 33 #[.iface 53 (.pointer (some ⟨R, 0, none⟩)), .int .i64 d] w fun e w' => PackOut N w.heap.size R A l i r e w' ∧ Keep w.heap.size R w w' := by
  have hhd := head_any N w R A l i h hE hN
  have hm2 := make2
  have hdi : decide ((d : Int) ≥ 1000) = false := by simp; omega
  obtain ⟨hc4, ht63, -, -⟩ := Ber.header_bound hh
  have hRlt := h.lt
  have hAlt := h.ltA (by rcases Nat.eq_zero_or_pos l.length with h0 | h0; · rw [List.length_eq_zero_iff.1 h0] at hh; simp [Ber.header, Ber.ident] at hh
                         · exact h0)
  have HHD := Lib.hid hhd
  have HH := Lib.hid hh
  have HE := Lib.hid hE
  have HKR := Lib.hid hr
  have HNB := Lib.hid hnb
  have HIH := Lib.hid ih
  clear hhd hh h hE hr hnb ih
  go_enter Tryd.func33, Tryd.ntmps33
  go_wp2_with fail
  refine HHD.out.mono ?_
  rintro e w1 ⟨ho, hk⟩
  unfold HeadOut at ho
  rw [HH.out] at ho
  obtain ⟨k, rfl, hr1, hrest⟩ := ho
  simp only [tagValue, lenInt]
  have hsz1 := hk.size
  obtain ⟨x, hx⟩ : ∃ x : Nat, x = c * 64 := ⟨_, rfl⟩
  rw [← hx]
  have HX := Lib.hid hx
  have hway : Way R A l i c t w (w1.heap.size + 1) (w1.heap.size + 1 + 1) k 0 none (w1.heap.size + 1 + 1 + 1) 2 [] [] (startW w1 x 32 t) := by
    have hk0 := hk.trans (Keep.ofBelow ((startW_below w1 x 32 t).mono hsz1))
    refine ⟨Nat.zero_le _, (((hr1.alloc _).alloc _).alloc _).alloc _, hk0, by rw [← hx]; exact startW_P w1 x 32 t, startW_D w1 x 32 t, startW_C w1 x 32 t, by omega, (fun g e => by cases e), fun w2 _ => by unfold Kids; rfl, by simp [Ber.bodies], by simp⟩
  have hkr0 : Ber.kids f d c t none 0 [] (l.drop (i + k)) = r := by rw [← hrest]; exact HKR.out
  have HWAY := Lib.hid hway
  have HKR0 := Lib.hid hkr0
  clear hr1 hrest hk hx hway hkr0
  go_wp2_with fail
  go_loopg [9, 12] f (fun kq v9 v12 wr => LoopInv R A l i d c t none f r w (w1.heap.size + 1) (w1.heap.size + 1 + 1) kq v9 v12 wr)
  case atStart => exact ⟨k, 0, none, _, _, _, _, rfl, rfl, Nat.le_refl _, HWAY.out, HKR0.out⟩
  case round =>
    obtain ⟨k, got, row, C, cap, xs, items, rfl, rfl, hkq, hW, hK⟩ := hrel
    obtain ⟨g, rfl⟩ : ∃ g, gk = g + 1 := by
      cases gk with
      | zero => exact absurd (by rw [← hK]; simp [Ber.kids]) HNB.out
      | succ g => exact ⟨g, rfl⟩
    have hpos := hW.rd.pos
    have hlen9 := hW.rd.len
    have hle := hW.le
    have hP0 := hW.hP
    simp only [Ber.kids] at hK
    rw [if_neg (by simp), if_neg (by simp)] at hK
    have hEr := HE.out.keep hW.keep (by omega) hN
    have hcall : Ber.readP g (d + 1) (l.drop (i + k)) ≠ .bad := by
      intro hbad
      rw [hbad] at hK
      exact HNB.out hK.symm
    have hcl := HIH.out g (by omega) _ (i + k) (d + 1) hW.rd hEr (by omega) hcall
    have hcl2 : Calls Tryd.prog 33 #[.iface 53 (.pointer (some ⟨R, 0, none⟩)), .int .i64 ((d : Int) + 1)] wr fun e w' => PackOut N wr.heap.size R A l (i + k) (Ber.readP g (d + 1) (l.drop (i + k))) e w' ∧ Keep wr.heap.size R wr w' := hcl
    have HCL := Lib.hid hcl2
    have HW := Lib.hid hW
    have HK := Lib.hid hK
    clear hW hK hcl hcl2 hcall hP0 hEr
    go_wp2_with fail
    refine HCL.out.mono ?_
    rintro e w2 ⟨ho, hk2⟩
    have hkk := HK.out
    cases hrp : Ber.readP g (d + 1) (l.drop (i + k)) with
    | bad => rw [hrp] at hkk; exact absurd hkk.symm HNB.out
    | err =>
      rw [hrp] at hkk ho
      obtain ⟨m, ev, rfl, hev⟩ := ho
      have hkw := HW.out.keep.trans (hk2.mono HW.out.keep.size)
      have HKW := Lib.hid hkw
      have hev2 := hev.mono HW.out.keep.size
      have hE2 := HE.out.keep hkw (by omega) hN
      obtain ⟨a, rfl⟩ := hev.iface
      have HEV := Lib.hid hev2
      have HE2 := Lib.hid hE2
      have HKK := Lib.hid hkk
      clear hkw hev hev2 hE2 hkk hk2 hrp
      go_wp2_with fail
      refine (uneof_any N w.heap.size w2 HE2.out _ HEV.out).mono ?_
      rintro e w3 ⟨ev, rfl, hev3, rfl⟩
      obtain ⟨a3, rfl⟩ := hev3.iface
      have HEV3 := Lib.hid hev3
      clear hev3
      go_wp2
      go_ret3
      rw [← HKK.out]
      exact ⟨⟨_, _, rfl, HEV3.out⟩, HKW.out⟩
    | ok p rest' =>
      rw [hrp] at hkk ho
      obtain ⟨q, k', rfl, hqB, hst, hrd, hrest'⟩ := ho
      have hfits := Ber.readP_fits _ _ _ _ _ hrp
      have hpos2 := hrd.pos
      have hcons : (l.drop (i + k)).length - rest'.length = k' := by rw [hrest', List.length_drop, List.length_drop]; omega
      have hk'2 : 2 ≤ k' := by
        obtain ⟨m, hm1, hm2, hm3⟩ := hfits.drop
        have h9 := congrArg List.length hm1
        rw [List.length_drop] at h9
        rw [← hcons]
        omega
      have hsize : (Ber.bodies items).length + (Ber.enc p).length ≤ 20 * (k + k') := by
        have h1 := hfits.size
        have h2 := HW.out.size
        rw [hrest', List.length_drop, List.length_drop] at h1
        omega
      simp only [] at hkk
      rw [hcons, if_neg (by omega)] at hkk
      obtain ⟨hway2, hkids2⟩ := HW.out.child hRlt (by omega) (by omega) hk2 hrd hst
      have htree := hst.now
      have heoc := eoc_tree w2 q p htree
      have hrest2 : rest' = l.drop (i + (k + k')) := by rw [hrest', Nat.add_assoc]
      have t3 : decide ((got : Int) + (k' : Int) > 2147483647) = false := by simp; omega
      have hgk9 : got + k' < 1000000000 ∧ k + k' < 1000000000 := by omega
      obtain ⟨hgk1, hgk2⟩ := hgk9
      have HFIT := Lib.hid hfits
      have HSIZE := Lib.hid hsize
      have HKK := Lib.hid hkk
      have HWAY2 := Lib.hid hway2
      have HKIDS2 := Lib.hid hkids2
      have HTREE := Lib.hid htree
      have HEOC := Lib.hid heoc
      have HREST2 := Lib.hid hrest2
      clear hfits hsize hkk hway2 hkids2 htree heoc hrest2 hst hrd hk2 hrest' hrp hcons
      go_wp2_with fail
      refine HEOC.out.mono ?_
      rintro e w3 ⟨rfl, rfl⟩
      have hkk := HKK.out
      by_cases he : Ber.isEOC p = true
      · rw [if_pos he] at hkk
        rw [he]
        rw [if_pos trivial] at hkk
        have hE := HWAY2.out.done (N := N) hc4 ht63 (by omega) (by omega)
        rw [← HREST2.out, hkk] at hE
        have HE1 := Lib.hid hE
        clear hE hkk
        go_wp2
        go_ret3
        exact HE1.out
      · rw [if_neg he] at hkk
        have hef : Ber.isEOC p = false := by simpa using he
        rw [hef]
        have hnext : Calls Tryd.prog 39 #[.pointer (some ⟨w1.heap.size + 1, 0, none⟩), .pointer (some ⟨q, 0, none⟩)] w2 fun e w' => (∃ v, e = .returned v) ∧ ∃ row' C' cap',
            Way R A l i c t w (w1.heap.size + 1) (w1.heap.size + 1 + 1) (k + k') (got + k') row' C' cap' (xs ++ [.pointer (some ⟨q, 0, none⟩)]) (items ++ [p]) w' := by
          have hw2 := HWAY2.out
          obtain ⟨pc, pb, pt, pd, pi⟩ := p
          have htr := HTREE.out
          unfold Tree at htr
          obtain ⟨D2, row2, C2, cap2, bv2, xs2, hc2, ht2, hp2, hb2, -, -, -, -, -⟩ := htr
          have hel := HSIZE.out
          have hbl : (Ber.body (.mk pc pb pt pd pi)).length ≤ (Ber.enc (.mk pc pb pt pd pi)).length := by simp only [Ber.enc, List.length_append]; omega
          refine (append_any w2 (w1.heap.size + 1) (w1.heap.size + 1 + 1) C cap q D2 row row2 ((c * 64 : Nat) : Int) 32 t .nilIface (.slice none 0 0) (.string ⟨#[]⟩) xs (Ber.bodies items) (Ber.body (.mk pc pb pt pd pi)) pc pt pb _ _ _ _ hc2 ht2 hw2.hP hw2.hC (by have := HW.out.few; omega) hw2.hD (by omega) (by omega) hp2 hb2).mono ?_
          rintro e w' ⟨he, row', C', cap', h1, h2, h3, h4, h5, h6⟩
          exact ⟨he, row', C', cap', hw2.next hRlt hAlt (by omega) (by omega) HKIDS2.out h1 h2 h3 h4 h5 h6 HSIZE.out (by have := HW.out.few; omega)⟩
        have HNEXT := Lib.hid hnext
        have HKK2 := Lib.hid hkk
        clear hnext hkk
        go_wp2_with fail
        refine HNEXT.out.mono ?_
        rintro e w4 ⟨⟨v, rfl⟩, row', C', cap', hw4⟩
        have HW4 := Lib.hid hw4
        clear hw4
        go_wp2_with fail
        go_roundg g
        case measure => exact Nat.lt_succ_self _
        case rel => exact ⟨k + k', got + k', row', C', cap', _, _, by go_num, by go_num, by omega, HW4.out, by rw [← HREST2.out]; exact HKK2.out⟩
end Go.Proofs.YtdfehaonngccjaaDoor

/- bytes.NewReader over a string's bytes, what is left of it, and the text of an error. -/
namespace Go.Proofs.YtdfehaonngccjaaDoor
open Go Go.RowKit

theorem bytesWorld_below (B : Nat) (w : World) (e : TypeId) (s : ByteArray) (hB : B ≤ w.heap.size) : Below B w (Lib.bytesWorld w e s) :=
  ⟨rfl, rfl, rfl, by rw [Lib.bytesWorld_size]; omega, fun k hk => Lib.bytesWorld_at_old w e s k (by omega)⟩

theorem newReader_any (w : World) (p : Option Addr) (n c : Nat) :
    Calls Tryd.prog 22 #[.slice p n c] w fun e w' => e = .returned (.pointer (some ⟨w.heap.size, 0, none⟩)) ∧ w.alloc (.cells #[.slice p n c, .int .i64 0, .int .i64 (-1)] 83) = w' := by
  go_enter Tryd.func22, Tryd.ntmps22
  go_wp2
  go_ret
  exact ⟨rfl, rfl⟩

theorem rd_new (w : World) (s : ByteArray) (hl : s.size < 1000000000) :
    Rd ((Lib.bytesWorld w 5 s).alloc (.cells #[.slice (some ⟨w.heap.size, 0, none⟩) s.size (grownCap w s.size 0 5), .int .i64 0, .int .i64 (-1)] 83)) (w.heap.size + 1) w.heap.size s.data.toList 0 := by
  refine ⟨⟨grownCap w s.size 0 5, -1, ?_, ?_⟩, ?_, by omega, Nat.zero_le _, by simpa using hl⟩
  · have := grownCap_ge w s.size 0 5
    simpa using this
  · have := heap_alloc_new (Lib.bytesWorld w 5 s) (.cells #[.slice (some ⟨w.heap.size, 0, none⟩) s.size (grownCap w s.size 0 5), .int .i64 0, .int .i64 (-1)] 83)
    rw [Lib.bytesWorld_size] at this
    simpa using this
  · intro j v hv
    have hj : j < s.size := by
      have := (List.getElem?_eq_some_iff.1 hv).1
      simpa [Lib.byteCells] using this
    refine cell_alloc ?_ _
    rw [Lib.bytesWorld_cell w 5 s j hj]
    simp only [Lib.byteCells] at hv
    rw [List.getElem?_map, List.getElem?_eq_getElem (by simpa using hj)] at hv
    simp only [Option.map_some] at hv
    rw [← hv]
    simp [List.getD, hj]

theorem reader_len (w : World) (R A : Nat) (l : List UInt8) (i : Nat) (h : Rd w R A l i) :
    Calls Tryd.prog 25 #[.pointer (some ⟨R, 0, none⟩)] w fun e w' => e = .returned (.int .i64 ((l.length - i : Nat) : Int)) ∧ Same w w' := by
  obtain ⟨cap, pr, hcap, hb⟩ := h.blk
  have hlen := h.len
  have hpos := h.pos
  have c0 : w.cell? ⟨R, 0, none⟩ = some (.slice (some ⟨A, 0, none⟩) l.length cap) := blockCell hb 0
  have c1 : w.cell? ⟨R, 1, none⟩ = some (.int .i64 i) := blockCell hb 1
  clear hb h
  by_cases hi : i = l.length
  · have t1 : decide ((i : Int) ≥ (l.length : Int)) = true := by simp; omega
    go_enter Tryd.func25, Tryd.ntmps25
    go_wp2
    go_quiet (fail)
    go_wp2
    go_ret
    refine ⟨?_, (Same.refl w).drewN _⟩
    rw [hi, Nat.sub_self]; rfl
  · have t1 : decide ((i : Int) ≥ (l.length : Int)) = false := by simp; omega
    have e1 : ((l.length - i : Nat) : Int) = (l.length : Int) - (i : Int) := by omega
    have E1 := Lib.hid e1
    clear e1
    go_enter Tryd.func25, Tryd.ntmps25
    go_wp2
    go_quiet (fail)
    go_wp2
    go_quiet (fail)
    go_wp2
    go_ret
    exact ⟨by rw [E1.out]; rfl, ((Same.refl w).drewN _).drewN _⟩

theorem errText_any (w : World) (a : Addr) (s : ByteArray) (h : w.cell? a = some (.string s)) :
    Calls Tryd.prog 112 #[.pointer (some a)] w fun e w' => e = .returned (.string s) ∧ w = w' := by
  go_enter Tryd.func112, Tryd.ntmps112
  go_wp2
  go_ret
  exact ⟨rfl, rfl⟩
theorem nil_ahead_err (a : Addr) (w : World) : (nilAhead 288 122 (.pointer (some a)) "Error").run Tryd.prog w = .ok (some false) w := by kernel_rfl
theorem method_err (a : Addr) (w : World) : (method 288 122 (.pointer (some a)) "Error").run Tryd.prog w = .ok (112, .pointer (some a)) w := by kernel_rfl
end Go.Proofs.YtdfehaonngccjaaDoor

/- readPacket answers as the plain function; ReadPacket. -/
namespace Go.Proofs.YtdfehaonngccjaaDoor
open Go Go.RowKit

theorem header_prim {s : List UInt8} {c t : Nat} {r : List UInt8} (h : Ber.header s = some (c, false, t, none, r)) : False := by
  simp only [Ber.header] at h
  split at h
  · cases h
  · split at h
    · cases h
    · rename_i hh
      split at h
      · cases h
      · rename_i hne
        simp only [Option.some.injEq, Prod.mk.injEq] at h
        exact hne ⟨h.2.2.2.1, h.2.1⟩

theorem read_holds (N R A : Nat) (l : List UInt8) (hN : N ≤ R) (f : Nat) : ReadHolds N R A l f := by
  induction f using Nat.strongRecOn with
  | _ f ih =>
  intro w i d h hE hd hnb
  cases f with
  | zero => exact absurd (by simp [Ber.readP]) hnb
  | succ f =>
    have ih' : ∀ g, g < f → ReadHolds N R A l g := fun g hg => ih g (by omega)
    simp only [Ber.readP] at hnb ⊢
    by_cases hd1 : 1000 ≤ d
    · rw [if_pos hd1]
      exact pack_deep N w R A l i d hd1 hd
    · rw [if_neg hd1] at hnb ⊢
      have hd2 : d < 1000 := by omega
      cases hh : Ber.header (l.drop i) with
      | none => exact pack_head N w R A l i h hE hN d hd2 hh
      | some x =>
        obtain ⟨c, b, t, len, rest⟩ := x
        rw [hh] at hnb
        cases len with
        | none =>
          cases b with
          | false => exact absurd (header_prim hh) id
          | true => exact pack_built_none N R A l hN f ih' w i d c t rest _ h hE hd2 hh rfl hnb
        | some n =>
          cases b with
          | true =>
            simp only [] at hnb ⊢
            by_cases hn : 2147483647 < n
            · rw [if_pos hn]; exact pack_long N w R A l i h hE hN d hd2 c t n true rest hh hn
            · rw [if_neg hn] at hnb ⊢
              exact pack_built_some N R A l hN f ih' w i d c t n (by omega) rest _ h hE hd2 hh rfl hnb
          | false =>
            simp only [] at hnb ⊢
            by_cases hn : 2147483647 < n
            · rw [if_pos hn]; exact pack_long N w R A l i h hE hN d hd2 c t n false rest hh hn
            · rw [if_neg hn] at hnb ⊢
              simp only [Bool.false_eq_true, if_false] at hnb ⊢
              unfold Ber.prim at hnb ⊢
              by_cases h0 : n = 0
              · subst h0
                rw [if_pos rfl] at hnb ⊢
                by_cases hk : Ber.known c t = true
                · rw [if_pos hk]; exact pack_zero N w R A l i h hE hN d hd2 c t rest hh hk
                · rw [if_neg hk] at hnb; exact absurd rfl hnb
              · rw [if_neg h0] at hnb ⊢
                by_cases h4 : 480 < n ∧ 480 < rest.length
                · rw [if_pos h4] at hnb; exact absurd rfl hnb
                · rw [if_neg h4] at hnb ⊢
                  by_cases hs : rest.length < n
                  · rw [if_pos hs]
                    exact pack_short N w R A l i h hE hN d hd2 c t n rest hh (by omega) (by omega) hs
                  · rw [if_neg hs] at hnb ⊢
                    by_cases hk : Ber.known c t = true
                    · rw [if_pos hk]; exact pack_some N w R A l i h hE hN d hd2 c t n rest hh hk (by omega) (by omega) (by omega)
                    · rw [if_neg hk] at hnb; exact absurd rfl hnb

/-- What ReadPacket comes to. -/
def ReadOut (N B R A : Nat) (l : List UInt8) (r : Ber.Res) (e : Ending) (w' : World) : Prop :=
  match r with
  | .bad => True
  | .err => ∃ ev, e = .returned (.tuple #[.pointer none, ev]) ∧ ErrAt N B w' ev
  | .ok p rest => ∃ q k : Nat, e = .returned (.tuple #[.pointer (some ⟨q, 0, none⟩), .nilIface]) ∧ B ≤ q ∧ TreeAll B w' q p ∧ Rd w' R A l k ∧ rest = l.drop k
where
  TreeAll (B : Nat) (w' : World) (q : Nat) (p : Ber.Pk) : Prop := Stable B w' (fun _ => False) (fun w2 => Tree w2 q p)

set_option maxRecDepth 100000 in
set_option maxHeartbeats 4000000 in
theorem read_packet (N : Nat) (w : World) (R A : Nat) (l : List UInt8) (h : Rd w R A l 0) (hE : Env N w) (hN : N ≤ R) (f : Nat) (r : Ber.Res) (hr : Ber.readP f 0 l = r) (hnb : r ≠ .bad) :
    Calls Tryd.prog 23 #[.iface 53 (.pointer (some ⟨R, 0, none⟩))] w fun e w' => ReadOut N w.heap.size R A l r e w' ∧ Keep w.heap.size R w w' := by
  have hc : Calls Tryd.prog 33 #[.iface 53 (.pointer (some ⟨R, 0, none⟩)), .int .i64 0] w fun e w' => PackOut N w.heap.size R A l 0 r e w' ∧ Keep w.heap.size R w w' := by
    have := read_holds N R A l hN f w 0 0 h hE (by omega) (by rw [List.drop_zero, hr]; exact hnb)
    rw [List.drop_zero, hr] at this
    exact this
  have HC := Lib.hid hc
  have HNB := Lib.hid hnb
  clear hc hr hnb h hE
  cases r with
  | bad => exact absurd rfl HNB.out
  | err =>
    go_enter Tryd.func23, Tryd.ntmps23
    go_wp2_with fail
    refine HC.out.mono ?_
    rintro e w1 ⟨ho, hk⟩
    obtain ⟨n, ev, rfl, hev⟩ := ho
    obtain ⟨a, rfl⟩ := hev.iface
    have HEV := Lib.hid hev
    have HK := Lib.hid hk
    clear hev hk
    go_wp2
    go_ret2
    exact ⟨⟨_, rfl, HEV.out⟩, HK.out⟩
  | ok p rest =>
    go_enter Tryd.func23, Tryd.ntmps23
    go_wp2_with fail
    refine HC.out.mono ?_
    rintro e w1 ⟨ho, hk⟩
    obtain ⟨q, k, rfl, hq, hst, hrd, hrest⟩ := ho
    have HST := Lib.hid hst
    have HK := Lib.hid hk
    have HRD := Lib.hid hrd
    have HREST := Lib.hid hrest
    clear hst hk hrd hrest
    go_wp2
    go_ret2
    refine ⟨⟨q, 0 + k, rfl, hq, HST.out, HRD.out, HREST.out⟩, HK.out⟩
end Go.Proofs.YtdfehaonngccjaaDoor

