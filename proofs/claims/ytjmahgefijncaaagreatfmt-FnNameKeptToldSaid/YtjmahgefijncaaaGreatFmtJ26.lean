/- unicode/utf8.Valid of a text's bytes. -/
import Derived.Test.YtjmahgefijncaaaGreatFmtJ25
import Derived.Test.YtjmahgefijncaaaGreatFmtJ17
import Derived.Test.YtjmahgefijncaaaGreatFmtJ16
import Derived.Test.YtjmahgefijncaaaGreatFmtJ13
import Derived.Test.YtjmahgefijncaaaGreatFmtJ2
import Derived.Test.YtjmahgefijncaaaGreatFmtJ11
import Derived.Lib.OthersKept
set_option linter.unusedVariables false
set_option linter.unusedSimpArgs false
namespace Go.Proofs.YtjmahgefijncaaaGreatFmt
open Go Go.RowKit

theorem valid_bytes (w : World) (s : ByteArray) (hs : s.size < 1000000) (hT : UtvTab w) :
    Calls Tryz.prog 128 #[.slice (some ⟨w.heap.size, 0, none⟩) s.size (grownCap w s.size 0 5)] (Lib.bytesWorld w 5 s) fun e w' => (∃ r : Bool, e = .returned (.bool r)) ∧ Below w.heap.size w w' := by
  have hbw := Lib.bytesWorld_below w 5 s
  have hsz : (Lib.bytesWorld w 5 s).heap.size = w.heap.size + 1 := Lib.bytesWorld_size _ _ _
  refine (utf8_valid (Lib.bytesWorld w 5 s) w.heap.size s.size _ (fun j => (s.data.toList.getD j 0).toNat) hs (grownCap_ge w s.size 0 5) (by omega) ⟨fun j hj => ?_, fun j => UInt8.toNat_lt _, hT.stays hbw⟩).mono ?_
  · rw [Lib.bytesWorld_cell w 5 s j hj]
  · rintro e w' ⟨h1, h2⟩
    exact ⟨h1, hbw.trans (h2.mono (by omega))⟩
end Go.Proofs.YtjmahgefijncaaaGreatFmt

/- readPacket of a primitive packet, some tags. -/
namespace Go.Proofs.YtjmahgefijncaaaGreatFmt.Tot
open Go Go.RowKit

set_option maxRecDepth 100000 in
set_option maxHeartbeats 16000000 in
theorem pack_zero_utf (N : Nat) (w : World) (R A : Nat) (l : List UInt8) (i : Nat) (h : Rd w R A l i) (hE : EnvT N w) (hN : N ≤ R) (d : Nat) (hd : d < 1000) (c t : Nat) (rest : List UInt8)
    (hh : Ber.header (l.drop i) = some (c, false, t, some 0, rest)) (Q : Ber.Res → Prop) (hok : Q (.ok (.mk c false t [] []) rest)) (herr : Ber.known c t = false → Q .err) (hkc : c = 0 ∧ (t = 12)) :
    Calls Tryz.prog 110 #[.iface 157 (.pointer (some ⟨R, 0, none⟩)), .int .i64 d] w fun e w' => (∃ r, Q r ∧ PackOut N w.heap.size R A l i r e w') ∧ Keep w.heap.size R w w' := by
  have hhd := head_any N w R A l i h hE.env hN
  have hm2 := make2
  have hm0 := make0
  have hdi : decide ((d : Int) ≥ 1000) = false := by simp; omega
  obtain ⟨hc4, ht63, -, -⟩ := Ber.header_bound hh
  have hRlt := h.lt
  have hAlt := h.ltA (by rcases Nat.eq_zero_or_pos l.length with h0 | h0; · rw [List.length_eq_zero_iff.1 h0] at hh; simp [Ber.header, Ber.ident] at hh
                         · exact h0)
  have HHD := Lib.hid hhd
  have HH := Lib.hid hh
  have HR := Lib.hid h
  have HOK := Lib.hid hok
  have HERR := Lib.hid herr
  have HKC := Lib.hid hkc
  clear hkc
  have HENV := Lib.hid hE
  clear hhd hh h hok herr hE
  go_enter Tryz.func110, Tryz.ntmps110
  go_wp2_with fail
  refine HHD.out.mono ?_
  rintro e w1 ⟨ho, hk⟩
  unfold HeadOut at ho
  rw [HH.out] at ho
  obtain ⟨k, rfl, hr1, hrest⟩ := ho
  simp only [lenInt, tagValue]
  have hsz1 := hk.size
  obtain ⟨x, hx⟩ : ∃ x : Nat, x = c * 64 := ⟨_, rfl⟩
  rw [← hx]
  have HX := Lib.hid hx
  have hRA := hr1
  have HO := Lib.hid (And.intro hr1 hrest)
  have HK := Lib.hid hk
  have h0 : ((startW w1 x 0 t).alloc (.cells #[] 5)).heap[w1.heap.size + 1]? = _ := (Below.heap_alloc _ _ _ (by rw [startW_size]; omega)).trans (startW_P w1 x 0 t)
  have hD0 : BufAt ((startW w1 x 0 t).alloc (.cells #[] 5)) (w1.heap.size + 1 + 1) none (Lib.byteCells []) := (startW_D w1 x 0 t).below ((Below.refl _ _).alloc (Nat.le_refl _) _)
  have hC0 : KidRow ((startW w1 x 0 t).alloc (.cells #[] 5)) (w1.heap.size + 1 + 1 + 1) 2 [] := (startW_C w1 x 0 t).stays (Below.heap_alloc _ _ _ (startW_C w1 x 0 t).lt)
  have hR0 : Rd ((startW w1 x 0 t).alloc (.cells #[] 5)) R A l (i + k) := ((((hRA.alloc _).alloc _).alloc _).alloc _).alloc _
  have hK0 : Keep w.heap.size R w ((startW w1 x 0 t).alloc (.cells #[] 5)) := hk.trans (Keep.ofBelow ((startW_below w1 x 0 t).trans ((Below.refl _ _).alloc (by rw [startW_size]; omega) _) |>.mono hsz1))
  have hRd0 : Reads ((startW w1 x 0 t).alloc (.cells #[] 5)) (Lib.byteCells []) (.slice (some ⟨w1.heap.size + 1 + 1 + 1 + 1, 0, none⟩) ([] : List UInt8).length 0) := ⟨_, 0, rfl, Or.inl rfl⟩
  have hsz0 : w.heap.size ≤ ((startW w1 x 0 t).alloc (.cells #[] 5)).heap.size := by rw [World.size_alloc, startW_size]; omega
  have hlim : ([] : List UInt8).length + ([] : List UInt8).length ≤ 140737488355328 := by simp
  have hsrc0 : ∀ j v, (Lib.byteCells ([] : List UInt8))[j]? = some v → ((startW w1 x 0 t).alloc (.cells #[] 5)).cell? ⟨w1.heap.size + 1 + 1 + 1 + 1, j, none⟩ = some v := fun j v hj => by simp [Lib.byteCells] at hj
  have hgb : w.heap.size ≤ w1.heap.size + 1 + 1 + 1 + 1 := by omega
  have hgl : w1.heap.size + 1 + 1 + 1 + 1 < ((startW w1 x 0 t).alloc (.cells #[] 5)).heap.size := by rw [World.size_alloc, startW_size]; omega
  have hdl : ([] : List UInt8).length < 1000000000000 := by simp
  have HSRC := Lib.hid hsrc0
  have HGB := Lib.hid hgb
  have HGL := Lib.hid hgl
  have HDL := Lib.hid hdl
  clear hsrc0 hgb hgl hdl
  have HRD := Lib.hid hRd0
  have HSZ0 := Lib.hid hsz0
  have HLIM := Lib.hid hlim
  have HREST := Lib.hid hrest
  have HP0 := Lib.hid h0
  have HD0 := Lib.hid hD0
  have HC0 := Lib.hid hC0
  have HR0 := Lib.hid hR0
  have HK0 := Lib.hid hK0
  clear hRd0 hsz0 hlim hr1 hrest hk hRA h0 hD0 hC0 hR0 hK0 hx
  have tx : ((x : Int) == 0) = true ∨ ((x : Int) == 0) = false := by cases ((x : Int) == 0) <;> simp
  rcases tx with tx | tx
  · have hc0 : c = 0 := by have := HX.out; simp at tx; omega
    subst hc0
    obtain ⟨-, rfl⟩ := HKC.out
    all_goals
      go_wp2_with fail
      refine (write_bytes _ (w1.heap.size + 1 + 1) none [] ([] : List UInt8) _ HD0.out HRD.out HLIM.out).mono ?_
      rintro e w2 ⟨rfl, row2, hb2, hr2, hf2⟩
      have hp2 := (hf2.block _ (blockLt HP0.out) (by rintro (h | h); omega; cases h)).trans HP0.out
      have c23 := pk3 hp2
      have c22 := pk2 hp2
      have c24 := pk4 hp2
      have f23 := blockFrozen hp2 3
      have f24 := blockFrozen hp2 4
      have hB2 := Lib.hid hb2
      have hR2 := Lib.hid hr2
      have hF2 := Lib.hid hf2
      have hP2 := Lib.hid hp2
      have hF4 := fun W4 hbel => prim_fin (N := N) (W4 := W4) (data := ([] : List UInt8)) (G := (w1.heap.size + 1 + 1 + 1 + 1)) (cp := 0) (show (k : Int) = (k : Int) from rfl) ht63 HK0.out HR0.out HC0.out (blockLt HP0.out) (by rw [HX.out] at hp2; exact hp2) hb2 hr2 hf2 (by omega) (by omega) (by omega) (by omega) (by omega) (by omega) hRlt hAlt HGB.out HGL.out (by omega) (by omega) HSRC.out HREST.out hbel
      have hs3 : ∀ j v, (Lib.byteCells ([] : List UInt8))[j]? = some v → (w2.setCell ⟨w1.heap.size + 1, 4, none⟩ (.slice (some ⟨(w1.heap.size + 1 + 1 + 1 + 1), 0, none⟩) ([] : List UInt8).length 0)).cell? ⟨(w1.heap.size + 1 + 1 + 1 + 1), j, none⟩ = some v := fun j v hj =>
        (World.cell?_of_block (w := w2) (Below.heap_setCell _ _ _ _ (by show (w1.heap.size + 1 + 1 + 1 + 1) ≠ w1.heap.size + 1; omega))).trans ((hf2.cell (p := ⟨(w1.heap.size + 1 + 1 + 1 + 1), j, none⟩) HGL.out (by rintro (h | h); (show False); have h' : (w1.heap.size + 1 + 1 + 1 + 1) = w1.heap.size + 1 + 1 := h; omega; cases h)).trans (HSRC.out j v hj))
      have HF4 := Lib.hid hF4
      have HS3 := Lib.hid hs3
      have hzz : (w2.setCell ⟨w1.heap.size + 1, 4, none⟩ (.slice (some ⟨(w1.heap.size + 1 + 1 + 1 + 1), 0, none⟩) ([] : List UInt8).length 0)).heap.size = w2.heap.size := by simp [World.setCell]
      have hsz3 : w.heap.size ≤ (w2.setCell ⟨w1.heap.size + 1, 4, none⟩ (.slice (some ⟨(w1.heap.size + 1 + 1 + 1 + 1), 0, none⟩) ([] : List UInt8).length 0)).heap.size := by rw [hzz]; have := hf2.size; have := HSZ0.out; omega
      have hgl3 : (w1.heap.size + 1 + 1 + 1 + 1) < (w2.setCell ⟨w1.heap.size + 1, 4, none⟩ (.slice (some ⟨(w1.heap.size + 1 + 1 + 1 + 1), 0, none⟩) ([] : List UInt8).length 0)).heap.size := by rw [hzz]; have := hf2.size; have := HGL.out; omega
      have hk3 : Keep w.heap.size R w (w2.setCell ⟨w1.heap.size + 1, 4, none⟩ (.slice (some ⟨(w1.heap.size + 1 + 1 + 1 + 1), 0, none⟩) ([] : List UInt8).length 0)) := (HK0.out.trans (hf2.toKeep (by rintro k (h | h); exact Or.inl (by omega); cases h) HK0.out.size)).setCell (p := ⟨w1.heap.size + 1, 4, none⟩) (Or.inl (by show w.heap.size ≤ w1.heap.size + 1; omega)) _
      have HSZ3 := Lib.hid hsz3
      have HGL3 := Lib.hid hgl3
      have HK3 := Lib.hid hk3
      have hdm : ([] : List UInt8).length < 1000000 := by first | exact Nat.lt_of_le_of_lt hn480 (by decide) | simp
      have HDM := Lib.hid hdm
      clear hzz hsz3 hgl3 hk3 hdm
      have henv3 := HENV.out.keep HK3.out (by omega) hN
      have HENV3 := Lib.hid henv3
      clear henv3
      clear hb2 hr2 hf2 hp2 hF4 hs3
      go_wp2_with fail
    · have hcv := fun w9 => conv_bytes' w9 ⟨([] : List UInt8).toArray⟩
      have hzs : (⟨([] : List UInt8).toArray⟩ : ByteArray).size = ([] : List UInt8).length := by show ([] : List UInt8).toArray.size = _; simp
      refine (decode_any _ (w1.heap.size + 1 + 1 + 1 + 1) 0 ([] : List UInt8) HS3.out).mono ?_
      rintro e w4 ⟨rfl, rfl⟩
      have HVB := Lib.hid (valid_bytes _ ⟨([] : List UInt8).toArray⟩ (by rw [hzs]; exact HDM.out) HENV3.out.utvNow)
      generalize (w2.setCell ⟨w1.heap.size + 1, 4, none⟩ (.slice (some ⟨(w1.heap.size + 1 + 1 + 1 + 1), 0, none⟩) ([] : List UInt8).length 0)) = W4 at *
      generalize (⟨([] : List UInt8).toArray⟩ : ByteArray) = S4 at *
      clear hzs
      go_wp2_with fail
      refine HVB.out.mono ?_
      rintro e w5 ⟨⟨r, rfl⟩, hbel⟩
      obtain ⟨hE, hE2, c43, f43⟩ := HF4.out w5 hbel
      have HBEL := Lib.hid hbel
      have HE := Lib.hid (hE (.iface 9 (.string S4)))
      have hz5 : w.heap.size ≤ w5.heap.size := Nat.le_trans HSZ3.out hbel.size
      clear hE hbel hcv HVB
      cases r with
      | false =>
        go_wp2_with fail
        refine (new_keep _ (by decide) (by decide) N w.heap.size _ hz5).mono ?_
        rintro e w6 ⟨a, rfl, he, hb⟩
        have HEV := Lib.hid he
        have HE6 := Lib.hid (HF4.out w6 (HBEL.out.trans (hb.mono HBEL.out.size))).2.1.2
        clear he hb hE2
        go_wp2_with fail
        go_ret3
        exact ⟨⟨.err, HERR.out rfl, _, _, _, rfl, HEV.out⟩, HE6.out⟩
      | true =>
        clear hE2
        go_wp2_with fail
        go_ret3
        exact ⟨⟨_, HOK.out, HE.out.1⟩, HE.out.2⟩
  · exact absurd HKC.out.1 (by have := HX.out; simp at tx; omega)

set_option maxRecDepth 100000 in
set_option maxHeartbeats 16000000 in
theorem pack_some_utf (N : Nat) (w : World) (R A : Nat) (l : List UInt8) (i : Nat) (h : Rd w R A l i) (hE : EnvT N w) (hN : N ≤ R) (d : Nat) (hd : d < 1000) (c t n : Nat) (rest0 data rest : List UInt8)
    (hh : Ber.header (l.drop i) = some (c, false, t, some n, rest0)) (Q : Ber.Res → Prop) (hok : Q (.ok (.mk c false t data []) rest)) (herr : Ber.known c t = false → Q .err) (hkc : c = 0 ∧ (t = 12)) (hn0 : 0 < n) (hn480 : n ≤ 480) (hlen : n ≤ rest0.length) (hdata : data = rest0.take n) (hrst : rest = rest0.drop n) :
    Calls Tryz.prog 110 #[.iface 157 (.pointer (some ⟨R, 0, none⟩)), .int .i64 d] w fun e w' => (∃ r, Q r ∧ PackOut N w.heap.size R A l i r e w') ∧ Keep w.heap.size R w w' := by
  have hdl : data.length = n := by rw [hdata, List.length_take]; omega
  subst hdl
  have hhd := head_any N w R A l i h hE.env hN
  have hm2 := make2
  have hdi : decide ((d : Int) ≥ 1000) = false := by simp; omega
  obtain ⟨hc4, ht63, -, -⟩ := Ber.header_bound hh
  have hRlt := h.lt
  have hAlt := h.ltA (by rcases Nat.eq_zero_or_pos l.length with h0 | h0; · rw [List.length_eq_zero_iff.1 h0] at hh; simp [Ber.header, Ber.ident] at hh
                         · exact h0)
  have HHD := Lib.hid hhd
  have HH := Lib.hid hh
  have HOK := Lib.hid hok
  have HERR := Lib.hid herr
  have HKC := Lib.hid hkc
  clear hkc
  have HENV := Lib.hid hE
  have HE := Lib.hid hE.env
  have HLEN := Lib.hid hlen
  have HDT := Lib.hid hdata
  have HRST := Lib.hid hrst
  clear hhd hh h hok herr hE hlen hdata hrst
  go_enter Tryz.func110, Tryz.ntmps110
  go_wp2_with fail
  refine HHD.out.mono ?_
  rintro e w1 ⟨ho, hk⟩
  unfold HeadOut at ho
  rw [HH.out] at ho
  obtain ⟨k, rfl, hr1, hrest⟩ := ho
  simp only [lenInt, tagValue]
  have hsz1 := hk.size
  obtain ⟨x, hx⟩ : ∃ x : Nat, x = c * 64 := ⟨_, rfl⟩
  rw [← hx]
  have HX := Lib.hid hx
  have hrl := nil_or hrest
  have hlr : i + k < l.length ∧ data.length ≤ l.length - (i + k) := by have := HLEN.out; rw [hrl] at this; omega
  obtain ⟨kk, hkk⟩ : ∃ kk, kk = k + data.length := ⟨_, rfl⟩
  have hkm : (k : Int) + (data.length : Int) = (kk : Int) := by omega
  have HKM := Lib.hid hkm
  clear hkm
  have hk9 : k < 1000000000 := by have := hr1.len; omega
  have HRR := Lib.hid hrest
  have HK := Lib.hid hk
  -- the limited reader
  have hLl : ((startW w1 x 0 t).alloc (.cells #[.iface 157 (.pointer (some ⟨R, 0, none⟩)), .int .i64 data.length] 215)).heap[w1.heap.size + 1 + 1 + 1 + 1]? = some (.cells #[.iface 157 (.pointer (some ⟨R, 0, none⟩)), .int .i64 data.length] 215 (0, 0)) := by
    have := heap_alloc_new (startW w1 x 0 t) (.cells #[.iface 157 (.pointer (some ⟨R, 0, none⟩)), .int .i64 data.length] 215)
    rw [startW_size] at this
    exact this
  have hszl : ((startW w1 x 0 t).alloc (.cells #[.iface 157 (.pointer (some ⟨R, 0, none⟩)), .int .i64 data.length] 215)).heap.size = w1.heap.size + 1 + 1 + 1 + 1 + 1 := by rw [World.size_alloc, startW_size]
  have hkl : Keep w.heap.size R w ((startW w1 x 0 t).alloc (.cells #[.iface 157 (.pointer (some ⟨R, 0, none⟩)), .int .i64 data.length] 215)) := hk.trans (Keep.ofBelow ((startW_below w1 x 0 t).trans ((Below.refl _ _).alloc (by rw [startW_size]; omega) _) |>.mono hsz1))
  have hall := all_some N ((startW w1 x 0 t).alloc (.cells #[.iface 157 (.pointer (some ⟨R, 0, none⟩)), .int .i64 data.length] 215)) (w1.heap.size + 1 + 1 + 1 + 1) R A l (i + k) (((((hr1.alloc _).alloc _).alloc _).alloc _).alloc _) hlr.1 data.length hLl hn0 (by omega) (HE.out.keep hkl (by omega) hN) hN (by omega) (by omega) data.length (by omega) hn480
  rw [hszl] at hall
  have hall2 : Calls Tryz.prog 121 #[.iface 213 (.pointer (some ⟨w1.heap.size + 1 + 1 + 1 + 1, 0, none⟩))] ((startW w1 x 0 t).alloc (.cells #[.iface 157 (.pointer (some ⟨R, 0, none⟩)), .int .i64 data.length] 215)) fun e w' =>
      e = .returned (.tuple #[.slice (some ⟨w1.heap.size + 1 + 1 + 1 + 1 + 1, 0, none⟩) data.length 512, .nilIface]) ∧
      (w'.heap[w1.heap.size + 1]? = some (.cells (PkCells x 0 t .nilIface (.slice none 0 0) (w1.heap.size + 1 + 1) (.slice (some ⟨w1.heap.size + 1 + 1 + 1, 0, none⟩) 0 2) (.string ⟨#[]⟩)) 171 (0, 0)) ∧
       BufAt w' (w1.heap.size + 1 + 1) none (Lib.byteCells []) ∧ KidRow w' (w1.heap.size + 1 + 1 + 1) 2 [] ∧ Rd w' R A l (i + kk) ∧ Keep w.heap.size R w w' ∧
       Reads w' (Lib.byteCells data) (.slice (some ⟨w1.heap.size + 1 + 1 + 1 + 1 + 1, 0, none⟩) data.length 512) ∧
       (∀ j v, (Lib.byteCells data)[j]? = some v → w'.cell? ⟨w1.heap.size + 1 + 1 + 1 + 1 + 1, j, none⟩ = some v) ∧ w1.heap.size + 1 + 1 + 1 + 1 + 1 < w'.heap.size) := by
    refine hall.mono fun e w' ⟨he, hkp, hrd, hrow⟩ => ?_
    have hst : ∀ q, q < w1.heap.size + 1 + 1 + 1 + 1 → q ≠ R → w'.heap[q]? = (startW w1 x 0 t).heap[q]? := fun q hq hqR => (hkp.block q hq hqR).trans (Below.heap_alloc _ _ _ (by rw [startW_size]; omega))
    have hcs : ∀ j v, (Lib.byteCells data)[j]? = some v → w'.cell? ⟨w1.heap.size + 1 + 1 + 1 + 1 + 1, j, none⟩ = some v := by
      intro j v hj
      rw [blockCell hrow j, List.getElem?_toArray]
      have hd2 : Lib.byteCells data = Lib.byteCells ((l.drop (i + k)).take data.length) := by have h1 := HDT.out; rw [HRR.out] at h1; exact congrArg _ h1
      rw [← hd2]
      have hjl := (List.getElem?_eq_some_iff.1 hj).1
      simp only [splice, List.take_zero, List.nil_append, Nat.zero_add]
      rw [List.getElem?_append_left hjl]
      exact hj
    refine ⟨he, (hst _ (by omega) (by omega)).trans (startW_P w1 x 0 t), (startW_D w1 x 0 t).kept (hst _ (by omega) (by omega)) (fun g e => by cases e), (startW_C w1 x 0 t).stays (hst _ (by omega) (by omega)), by rw [hkk, ← Nat.add_assoc]; exact hrd, hkl.trans (hkp.mono (by omega)), ?_, hcs, blockLt hrow⟩
    exact ⟨_, 512, by rw [cells_length], Or.inr ⟨_, rfl, ⟨_, hrow⟩, hcs⟩⟩
  have hnb : decide ((data.length : Int) > 2147483647) = false := by simp; omega
  have hn1 : ((data.length : Int) != -1) = true := by rw [bne_iff_ne]; omega
  have hn2 : ((data.length : Int) == -1) = false := by rw [beq_eq_false_iff_ne]; omega
  have hn3 : decide ((data.length : Int) > 0) = true := by simp; omega
  have hn4 : decide ((data.length : Int) < (data.length : Int)) = false := by simp
  have hrest' : rest = l.drop (i + kk) := by rw [HRST.out, HRR.out, List.drop_drop, hkk]; congr 1; omega
  have hgb : w.heap.size ≤ w1.heap.size + 1 + 1 + 1 + 1 + 1 := by omega
  have hlim : ([] : List UInt8).length + data.length ≤ 140737488355328 := by simp; omega
  have hdll : data.length < 1000000000000 := by omega
  have HALL := Lib.hid hall2
  have HGB := Lib.hid hgb
  have HLIM := Lib.hid hlim
  have HDL := Lib.hid hdll
  have HREST := Lib.hid hrest'
  have HKK := Lib.hid hkk
  clear hr1 hrest hk hx hLl hszl hkl hall hall2 hrest' hgb hlim hdll hlr hrl hkk
  go_wp2_with fail
  refine (limit_any _ R data.length).mono ?_
  rintro e w3 ⟨rfl, rfl⟩
  go_wp2_with fail
  refine HALL.out.mono ?_
  rintro e w5 ⟨rfl, hP5, hD5, hC5, hR5, hK5, hRd5, hS5, hG5⟩
  have HP0 := Lib.hid hP5
  have HD0 := Lib.hid hD5
  have HC0 := Lib.hid hC5
  have HR0 := Lib.hid hR5
  have HK0 := Lib.hid hK5
  have HRD := Lib.hid hRd5
  have HSRC := Lib.hid hS5
  have HGL := Lib.hid hG5
  have hsz5 : w.heap.size ≤ w5.heap.size := hK5.size
  have HSZ0 := Lib.hid hsz5
  have p51 := pk1 hP5
  have p50 := pk0 hP5
  have p55 := pk5 hP5
  clear hP5 hD5 hC5 hR5 hK5 hRd5 hS5 hG5 hsz5
  have tx : ((x : Int) == 0) = true ∨ ((x : Int) == 0) = false := by cases ((x : Int) == 0) <;> simp
  rcases tx with tx | tx
  · have hc0 : c = 0 := by have := HX.out; simp at tx; omega
    subst hc0
    obtain ⟨-, rfl⟩ := HKC.out
    all_goals
      go_wp2_with fail
      refine (write_bytes _ (w1.heap.size + 1 + 1) none [] data _ HD0.out HRD.out HLIM.out).mono ?_
      rintro e w2 ⟨rfl, row2, hb2, hr2, hf2⟩
      have hp2 := (hf2.block _ (blockLt HP0.out) (by rintro (h | h); omega; cases h)).trans HP0.out
      have c23 := pk3 hp2
      have c22 := pk2 hp2
      have c24 := pk4 hp2
      have f23 := blockFrozen hp2 3
      have f24 := blockFrozen hp2 4
      have hB2 := Lib.hid hb2
      have hR2 := Lib.hid hr2
      have hF2 := Lib.hid hf2
      have hP2 := Lib.hid hp2
      have hF4 := fun W4 hbel => prim_fin (N := N) (W4 := W4) (data := data) (G := (w1.heap.size + 1 + 1 + 1 + 1 + 1)) (cp := 512) HKM.out ht63 HK0.out HR0.out HC0.out (blockLt HP0.out) (by rw [HX.out] at hp2; exact hp2) hb2 hr2 hf2 (by omega) (by omega) (by omega) (by omega) (by omega) (by omega) hRlt hAlt HGB.out HGL.out (by omega) (by omega) HSRC.out HREST.out hbel
      have hs3 : ∀ j v, (Lib.byteCells data)[j]? = some v → (w2.setCell ⟨w1.heap.size + 1, 4, none⟩ (.slice (some ⟨(w1.heap.size + 1 + 1 + 1 + 1 + 1), 0, none⟩) data.length 512)).cell? ⟨(w1.heap.size + 1 + 1 + 1 + 1 + 1), j, none⟩ = some v := fun j v hj =>
        (World.cell?_of_block (w := w2) (Below.heap_setCell _ _ _ _ (by show (w1.heap.size + 1 + 1 + 1 + 1 + 1) ≠ w1.heap.size + 1; omega))).trans ((hf2.cell (p := ⟨(w1.heap.size + 1 + 1 + 1 + 1 + 1), j, none⟩) HGL.out (by rintro (h | h); (show False); have h' : (w1.heap.size + 1 + 1 + 1 + 1 + 1) = w1.heap.size + 1 + 1 := h; omega; cases h)).trans (HSRC.out j v hj))
      have HF4 := Lib.hid hF4
      have HS3 := Lib.hid hs3
      have hzz : (w2.setCell ⟨w1.heap.size + 1, 4, none⟩ (.slice (some ⟨(w1.heap.size + 1 + 1 + 1 + 1 + 1), 0, none⟩) data.length 512)).heap.size = w2.heap.size := by simp [World.setCell]
      have hsz3 : w.heap.size ≤ (w2.setCell ⟨w1.heap.size + 1, 4, none⟩ (.slice (some ⟨(w1.heap.size + 1 + 1 + 1 + 1 + 1), 0, none⟩) data.length 512)).heap.size := by rw [hzz]; have := hf2.size; have := HSZ0.out; omega
      have hgl3 : (w1.heap.size + 1 + 1 + 1 + 1 + 1) < (w2.setCell ⟨w1.heap.size + 1, 4, none⟩ (.slice (some ⟨(w1.heap.size + 1 + 1 + 1 + 1 + 1), 0, none⟩) data.length 512)).heap.size := by rw [hzz]; have := hf2.size; have := HGL.out; omega
      have hk3 : Keep w.heap.size R w (w2.setCell ⟨w1.heap.size + 1, 4, none⟩ (.slice (some ⟨(w1.heap.size + 1 + 1 + 1 + 1 + 1), 0, none⟩) data.length 512)) := (HK0.out.trans (hf2.toKeep (by rintro k (h | h); exact Or.inl (by omega); cases h) HK0.out.size)).setCell (p := ⟨w1.heap.size + 1, 4, none⟩) (Or.inl (by show w.heap.size ≤ w1.heap.size + 1; omega)) _
      have HSZ3 := Lib.hid hsz3
      have HGL3 := Lib.hid hgl3
      have HK3 := Lib.hid hk3
      have hdm : data.length < 1000000 := by first | exact Nat.lt_of_le_of_lt hn480 (by decide) | simp
      have HDM := Lib.hid hdm
      clear hzz hsz3 hgl3 hk3 hdm
      have henv3 := HENV.out.keep HK3.out (by omega) hN
      have HENV3 := Lib.hid henv3
      clear henv3
      clear hb2 hr2 hf2 hp2 hF4 hs3
      go_wp2_with fail
    · have hcv := fun w9 => conv_bytes' w9 ⟨data.toArray⟩
      have hzs : (⟨data.toArray⟩ : ByteArray).size = data.length := by show data.toArray.size = _; simp
      refine (decode_any _ (w1.heap.size + 1 + 1 + 1 + 1 + 1) 512 data HS3.out).mono ?_
      rintro e w4 ⟨rfl, rfl⟩
      have HVB := Lib.hid (valid_bytes _ ⟨data.toArray⟩ (by rw [hzs]; exact HDM.out) HENV3.out.utvNow)
      generalize (w2.setCell ⟨w1.heap.size + 1, 4, none⟩ (.slice (some ⟨(w1.heap.size + 1 + 1 + 1 + 1 + 1), 0, none⟩) data.length 512)) = W4 at *
      generalize (⟨data.toArray⟩ : ByteArray) = S4 at *
      clear hzs
      go_wp2_with fail
      refine HVB.out.mono ?_
      rintro e w5 ⟨⟨r, rfl⟩, hbel⟩
      obtain ⟨hE, hE2, c43, f43⟩ := HF4.out w5 hbel
      have HBEL := Lib.hid hbel
      have HE := Lib.hid (hE (.iface 9 (.string S4)))
      have hz5 : w.heap.size ≤ w5.heap.size := Nat.le_trans HSZ3.out hbel.size
      clear hE hbel hcv HVB
      cases r with
      | false =>
        go_wp2_with fail
        refine (new_keep _ (by decide) (by decide) N w.heap.size _ hz5).mono ?_
        rintro e w6 ⟨a, rfl, he, hb⟩
        have HEV := Lib.hid he
        have HE6 := Lib.hid (HF4.out w6 (HBEL.out.trans (hb.mono HBEL.out.size))).2.1.2
        clear he hb hE2
        go_wp2_with fail
        go_ret3
        exact ⟨⟨.err, HERR.out rfl, _, _, _, rfl, HEV.out⟩, HE6.out⟩
      | true =>
        clear hE2
        go_wp2_with fail
        go_ret3
        exact ⟨⟨_, HOK.out, HE.out.1⟩, HE.out.2⟩
  · exact absurd HKC.out.1 (by have := HX.out; simp at tx; omega)



end Go.Proofs.YtjmahgefijncaaaGreatFmt.Tot

/- isPrintableString: it ends, with an error or with none. -/
namespace Go.Proofs.YtjmahgefijncaaaGreatFmt
open Go Go.RowKit

theorem width_posB (s : ByteArray) (pos : Nat) (h : pos < s.size) : 1 ≤ (Utf8.decode s pos).2 := by
  by_cases ha : (s[pos]'h).toNat < 128
  · rw [decode_ascii s pos h ha]; exact Nat.le_refl _
  · exact (decode_high s pos h (by omega)).2

/-- The round's head. -/
def IterInv (s : ByteArray) (w : World) (wr : World) : Prop := ∃ pos, wr.heap[w.heap.size]? = some (.stringIter s pos) ∧ Below w.heap.size w wr

/-- An error or none. -/
def PrnOut (w : World) (e : Ending) (w' : World) : Prop := (e = .returned .nilIface ∨ ∃ a, e = .returned (.iface 144 (.pointer (some a)))) ∧ Below w.heap.size w w'

set_option maxRecDepth 100000 in
set_option maxHeartbeats 16000000 in
theorem prn_any (s : ByteArray) (w : World) :
    Calls Tryz.prog 130 #[.string s] w fun e w' => PrnOut w e w' := by
  go_enter Tryz.func130, Tryz.ntmps130
  go_wp2_with fail
  go_loopw [2] (fun t2 wr => t2 = .nilIface ∧ IterInv s w wr) (fun _ wr => s.size - wr.iterPos w.heap.size)
  case atStart =>
    refine ⟨rfl, 0, ?_, (Below.refl _ w).alloc (Nat.le_refl _) _⟩
    have := World.iter_heap w s 0
    simpa using this
  case round =>
    obtain ⟨rfl, pos, hit, hbw⟩ := hrel
    by_cases hp : pos < s.size
    · have hnx : ∀ ty, (Instr.next (.pointer (some ⟨w.heap.size, 0, none⟩)) true ty).run Tryz.prog wr = _ := fun ty => Lib.run_next_any_at wr w.heap.size s pos ty hit hp
      have hwd := width_posB s pos hp
      have hd1 := decode_le s pos
      have hit2 := Lib.iterAt_heap wr w.heap.size s pos (pos + (Utf8.decode s pos).2) hit
      have hbw2 := Lib.below_iterAt hbw (k := w.heap.size) (by omega) s (pos + (Utf8.decode s pos).2)
      have hgo : (IterInv s w (wr.iterAt w.heap.size s (pos + (Utf8.decode s pos).2))) ∧ s.size - (wr.iterAt w.heap.size s (pos + (Utf8.decode s pos).2)).iterPos w.heap.size < s.size - wr.iterPos w.heap.size := by
        refine ⟨⟨_, hit2, hbw2⟩, ?_⟩
        simp only [World.iterPos, hit2, hit]; omega
      have HGO := Lib.hid hgo
      have HB := Lib.hid hbw2
      clear hgo hbw2 hit hit2 hwd hd1 hbw
      generalize hW : wr.iterAt w.heap.size s (pos + (Utf8.decode s pos).2) = W at *
      generalize (Utf8.decode s pos).1 = r at *
      go_wp2_with fail
      all_goals first
        | exact ⟨⟨rfl, HGO.out.1⟩, HGO.out.2⟩
        | (refine (new_any _ _).mono ?_
           rintro e w1 ⟨rfl, rfl⟩
           go_wp2
           go_ret
           exact ⟨Or.inr ⟨_, rfl⟩, HB.out.alloc HB.out.size _⟩)
    · have hnx : ∀ ty, (Instr.next (.pointer (some ⟨w.heap.size, 0, none⟩)) true ty).run Tryz.prog wr = _ := fun ty => Lib.run_next_end_at wr w.heap.size s pos ty hit hp
      go_wp2_with fail
      go_ret
      exact ⟨Or.inl rfl, hbw⟩
end Go.Proofs.YtjmahgefijncaaaGreatFmt

/- isPrintableString: it ends, with an error or with none. -/
namespace Go.Proofs.YtjmahgefijncaaaGreatFmt.Tot
open Go Go.RowKit

/-- An error or none. -/
def PrnOut (N : Nat) (w : World) (e : Ending) (w' : World) : Prop := (e = .returned .nilIface ∨ ∃ ev, e = .returned ev ∧ ErrAt N w.heap.size w' ev) ∧ Below w.heap.size w w'

set_option maxRecDepth 100000 in
set_option maxHeartbeats 16000000 in
theorem prn_any (N : Nat) (s : ByteArray) (w : World) :
    Calls Tryz.prog 130 #[.string s] w fun e w' => PrnOut N w e w' := by
  go_enter Tryz.func130, Tryz.ntmps130
  go_wp2_with fail
  go_loopw [2] (fun t2 wr => t2 = .nilIface ∧ IterInv s w wr) (fun _ wr => s.size - wr.iterPos w.heap.size)
  case atStart =>
    refine ⟨rfl, 0, ?_, (Below.refl _ w).alloc (Nat.le_refl _) _⟩
    have := World.iter_heap w s 0
    simpa using this
  case round =>
    obtain ⟨rfl, pos, hit, hbw⟩ := hrel
    by_cases hp : pos < s.size
    · have hnx : ∀ ty, (Instr.next (.pointer (some ⟨w.heap.size, 0, none⟩)) true ty).run Tryz.prog wr = _ := fun ty => Lib.run_next_any_at wr w.heap.size s pos ty hit hp
      have hwd := width_posB s pos hp
      have hd1 := decode_le s pos
      have hit2 := Lib.iterAt_heap wr w.heap.size s pos (pos + (Utf8.decode s pos).2) hit
      have hbw2 := Lib.below_iterAt hbw (k := w.heap.size) (by omega) s (pos + (Utf8.decode s pos).2)
      have hgo : (IterInv s w (wr.iterAt w.heap.size s (pos + (Utf8.decode s pos).2))) ∧ s.size - (wr.iterAt w.heap.size s (pos + (Utf8.decode s pos).2)).iterPos w.heap.size < s.size - wr.iterPos w.heap.size := by
        refine ⟨⟨_, hit2, hbw2⟩, ?_⟩
        simp only [World.iterPos, hit2, hit]; omega
      have HGO := Lib.hid hgo
      have HB := Lib.hid hbw2
      clear hgo hbw2 hit hit2 hwd hd1 hbw
      generalize hW : wr.iterAt w.heap.size s (pos + (Utf8.decode s pos).2) = W at *
      generalize (Utf8.decode s pos).1 = r at *
      go_wp2_with fail
      all_goals first
        | exact ⟨⟨rfl, HGO.out.1⟩, HGO.out.2⟩
        | (refine (new_keep _ (by decide) (by decide) N w.heap.size _ HB.out.size).mono ?_
           rintro e w1 ⟨a, rfl, he, hb⟩
           have HE := Lib.hid he
           have HB2 := Lib.hid (HB.out.trans (hb.mono HB.out.size))
           clear he hb
           go_wp2
           go_ret
           exact ⟨Or.inr ⟨_, rfl, HE.out⟩, HB2.out⟩)
    · have hnx : ∀ ty, (Instr.next (.pointer (some ⟨w.heap.size, 0, none⟩)) true ty).run Tryz.prog wr = _ := fun ty => Lib.run_next_end_at wr w.heap.size s pos ty hit hp
      go_wp2_with fail
      go_ret
      exact ⟨Or.inl rfl, hbw⟩
end Go.Proofs.YtjmahgefijncaaaGreatFmt.Tot

/- readPacket of a primitive packet, some tags. -/
namespace Go.Proofs.YtjmahgefijncaaaGreatFmt.Tot
open Go Go.RowKit

set_option maxRecDepth 100000 in
set_option maxHeartbeats 16000000 in
theorem pack_zero_prn (N : Nat) (w : World) (R A : Nat) (l : List UInt8) (i : Nat) (h : Rd w R A l i) (hE : Env N w) (hN : N ≤ R) (d : Nat) (hd : d < 1000) (c t : Nat) (rest : List UInt8)
    (hh : Ber.header (l.drop i) = some (c, false, t, some 0, rest)) (Q : Ber.Res → Prop) (hok : Q (.ok (.mk c false t [] []) rest)) (herr : Ber.known c t = false → Q .err) (hkc : c = 0 ∧ (t = 19)) :
    Calls Tryz.prog 110 #[.iface 157 (.pointer (some ⟨R, 0, none⟩)), .int .i64 d] w fun e w' => (∃ r, Q r ∧ PackOut N w.heap.size R A l i r e w') ∧ Keep w.heap.size R w w' := by
  have hhd := head_any N w R A l i h hE hN
  have hm2 := make2
  have hm0 := make0
  have hdi : decide ((d : Int) ≥ 1000) = false := by simp; omega
  obtain ⟨hc4, ht63, -, -⟩ := Ber.header_bound hh
  have hRlt := h.lt
  have hAlt := h.ltA (by rcases Nat.eq_zero_or_pos l.length with h0 | h0; · rw [List.length_eq_zero_iff.1 h0] at hh; simp [Ber.header, Ber.ident] at hh
                         · exact h0)
  have HHD := Lib.hid hhd
  have HH := Lib.hid hh
  have HR := Lib.hid h
  have HOK := Lib.hid hok
  have HERR := Lib.hid herr
  have HKC := Lib.hid hkc
  clear hkc
  clear hhd hh h hok herr hE
  go_enter Tryz.func110, Tryz.ntmps110
  go_wp2_with fail
  refine HHD.out.mono ?_
  rintro e w1 ⟨ho, hk⟩
  unfold HeadOut at ho
  rw [HH.out] at ho
  obtain ⟨k, rfl, hr1, hrest⟩ := ho
  simp only [lenInt, tagValue]
  have hsz1 := hk.size
  obtain ⟨x, hx⟩ : ∃ x : Nat, x = c * 64 := ⟨_, rfl⟩
  rw [← hx]
  have HX := Lib.hid hx
  have hRA := hr1
  have HO := Lib.hid (And.intro hr1 hrest)
  have HK := Lib.hid hk
  have h0 : ((startW w1 x 0 t).alloc (.cells #[] 5)).heap[w1.heap.size + 1]? = _ := (Below.heap_alloc _ _ _ (by rw [startW_size]; omega)).trans (startW_P w1 x 0 t)
  have hD0 : BufAt ((startW w1 x 0 t).alloc (.cells #[] 5)) (w1.heap.size + 1 + 1) none (Lib.byteCells []) := (startW_D w1 x 0 t).below ((Below.refl _ _).alloc (Nat.le_refl _) _)
  have hC0 : KidRow ((startW w1 x 0 t).alloc (.cells #[] 5)) (w1.heap.size + 1 + 1 + 1) 2 [] := (startW_C w1 x 0 t).stays (Below.heap_alloc _ _ _ (startW_C w1 x 0 t).lt)
  have hR0 : Rd ((startW w1 x 0 t).alloc (.cells #[] 5)) R A l (i + k) := ((((hRA.alloc _).alloc _).alloc _).alloc _).alloc _
  have hK0 : Keep w.heap.size R w ((startW w1 x 0 t).alloc (.cells #[] 5)) := hk.trans (Keep.ofBelow ((startW_below w1 x 0 t).trans ((Below.refl _ _).alloc (by rw [startW_size]; omega) _) |>.mono hsz1))
  have hRd0 : Reads ((startW w1 x 0 t).alloc (.cells #[] 5)) (Lib.byteCells []) (.slice (some ⟨w1.heap.size + 1 + 1 + 1 + 1, 0, none⟩) ([] : List UInt8).length 0) := ⟨_, 0, rfl, Or.inl rfl⟩
  have hsz0 : w.heap.size ≤ ((startW w1 x 0 t).alloc (.cells #[] 5)).heap.size := by rw [World.size_alloc, startW_size]; omega
  have hlim : ([] : List UInt8).length + ([] : List UInt8).length ≤ 140737488355328 := by simp
  have hsrc0 : ∀ j v, (Lib.byteCells ([] : List UInt8))[j]? = some v → ((startW w1 x 0 t).alloc (.cells #[] 5)).cell? ⟨w1.heap.size + 1 + 1 + 1 + 1, j, none⟩ = some v := fun j v hj => by simp [Lib.byteCells] at hj
  have hgb : w.heap.size ≤ w1.heap.size + 1 + 1 + 1 + 1 := by omega
  have hgl : w1.heap.size + 1 + 1 + 1 + 1 < ((startW w1 x 0 t).alloc (.cells #[] 5)).heap.size := by rw [World.size_alloc, startW_size]; omega
  have hdl : ([] : List UInt8).length < 1000000000000 := by simp
  have HSRC := Lib.hid hsrc0
  have HGB := Lib.hid hgb
  have HGL := Lib.hid hgl
  have HDL := Lib.hid hdl
  clear hsrc0 hgb hgl hdl
  have HRD := Lib.hid hRd0
  have HSZ0 := Lib.hid hsz0
  have HLIM := Lib.hid hlim
  have HREST := Lib.hid hrest
  have HP0 := Lib.hid h0
  have HD0 := Lib.hid hD0
  have HC0 := Lib.hid hC0
  have HR0 := Lib.hid hR0
  have HK0 := Lib.hid hK0
  clear hRd0 hsz0 hlim hr1 hrest hk hRA h0 hD0 hC0 hR0 hK0 hx
  have tx : ((x : Int) == 0) = true ∨ ((x : Int) == 0) = false := by cases ((x : Int) == 0) <;> simp
  rcases tx with tx | tx
  · have hc0 : c = 0 := by have := HX.out; simp at tx; omega
    subst hc0
    obtain ⟨-, rfl⟩ := HKC.out
    all_goals
      go_wp2_with fail
      refine (write_bytes _ (w1.heap.size + 1 + 1) none [] ([] : List UInt8) _ HD0.out HRD.out HLIM.out).mono ?_
      rintro e w2 ⟨rfl, row2, hb2, hr2, hf2⟩
      have hp2 := (hf2.block _ (blockLt HP0.out) (by rintro (h | h); omega; cases h)).trans HP0.out
      have c23 := pk3 hp2
      have c22 := pk2 hp2
      have c24 := pk4 hp2
      have f23 := blockFrozen hp2 3
      have f24 := blockFrozen hp2 4
      have hB2 := Lib.hid hb2
      have hR2 := Lib.hid hr2
      have hF2 := Lib.hid hf2
      have hP2 := Lib.hid hp2
      have hF4 := fun W4 hbel => prim_fin (N := N) (W4 := W4) (data := ([] : List UInt8)) (G := (w1.heap.size + 1 + 1 + 1 + 1)) (cp := 0) (show (k : Int) = (k : Int) from rfl) ht63 HK0.out HR0.out HC0.out (blockLt HP0.out) (by rw [HX.out] at hp2; exact hp2) hb2 hr2 hf2 (by omega) (by omega) (by omega) (by omega) (by omega) (by omega) hRlt hAlt HGB.out HGL.out (by omega) (by omega) HSRC.out HREST.out hbel
      have hs3 : ∀ j v, (Lib.byteCells ([] : List UInt8))[j]? = some v → (w2.setCell ⟨w1.heap.size + 1, 4, none⟩ (.slice (some ⟨(w1.heap.size + 1 + 1 + 1 + 1), 0, none⟩) ([] : List UInt8).length 0)).cell? ⟨(w1.heap.size + 1 + 1 + 1 + 1), j, none⟩ = some v := fun j v hj =>
        (World.cell?_of_block (w := w2) (Below.heap_setCell _ _ _ _ (by show (w1.heap.size + 1 + 1 + 1 + 1) ≠ w1.heap.size + 1; omega))).trans ((hf2.cell (p := ⟨(w1.heap.size + 1 + 1 + 1 + 1), j, none⟩) HGL.out (by rintro (h | h); (show False); have h' : (w1.heap.size + 1 + 1 + 1 + 1) = w1.heap.size + 1 + 1 := h; omega; cases h)).trans (HSRC.out j v hj))
      have HF4 := Lib.hid hF4
      have HS3 := Lib.hid hs3
      have hzz : (w2.setCell ⟨w1.heap.size + 1, 4, none⟩ (.slice (some ⟨(w1.heap.size + 1 + 1 + 1 + 1), 0, none⟩) ([] : List UInt8).length 0)).heap.size = w2.heap.size := by simp [World.setCell]
      have hsz3 : w.heap.size ≤ (w2.setCell ⟨w1.heap.size + 1, 4, none⟩ (.slice (some ⟨(w1.heap.size + 1 + 1 + 1 + 1), 0, none⟩) ([] : List UInt8).length 0)).heap.size := by rw [hzz]; have := hf2.size; have := HSZ0.out; omega
      have hgl3 : (w1.heap.size + 1 + 1 + 1 + 1) < (w2.setCell ⟨w1.heap.size + 1, 4, none⟩ (.slice (some ⟨(w1.heap.size + 1 + 1 + 1 + 1), 0, none⟩) ([] : List UInt8).length 0)).heap.size := by rw [hzz]; have := hf2.size; have := HGL.out; omega
      have hk3 : Keep w.heap.size R w (w2.setCell ⟨w1.heap.size + 1, 4, none⟩ (.slice (some ⟨(w1.heap.size + 1 + 1 + 1 + 1), 0, none⟩) ([] : List UInt8).length 0)) := (HK0.out.trans (hf2.toKeep (by rintro k (h | h); exact Or.inl (by omega); cases h) HK0.out.size)).setCell (p := ⟨w1.heap.size + 1, 4, none⟩) (Or.inl (by show w.heap.size ≤ w1.heap.size + 1; omega)) _
      have HSZ3 := Lib.hid hsz3
      have HGL3 := Lib.hid hgl3
      have HK3 := Lib.hid hk3
      have hdm : ([] : List UInt8).length < 1000000 := by first | exact Nat.lt_of_le_of_lt hn480 (by decide) | simp
      have HDM := Lib.hid hdm
      clear hzz hsz3 hgl3 hk3 hdm
      clear hb2 hr2 hf2 hp2 hF4 hs3
      go_wp2_with fail
    · refine (decode_any _ (w1.heap.size + 1 + 1 + 1 + 1) 0 ([] : List UInt8) HS3.out).mono ?_
      rintro e w4 ⟨rfl, rfl⟩
      go_wp2_with fail
      refine (prn_any N _ _).mono ?_
      rintro e w5 ⟨ho, hbel⟩
      obtain ⟨hE, hE2, c43, f43⟩ := HF4.out w5 hbel
      rcases ho with rfl | ⟨ev, rfl, hev⟩
      · have HE := Lib.hid hE
        clear hE hE2 hbel
        go_wp2_with fail
        go_ret3
        exact ⟨⟨_, HOK.out, (HE.out _).1⟩, (HE.out _).2⟩
      · obtain ⟨a, rfl⟩ := hev.iface
        have HEV := Lib.hid (hev.mono HSZ3.out)
        have HE := Lib.hid hE2
        clear hE hE2 hbel hev
        go_wp2_with fail
        go_ret3
        exact ⟨⟨.err, HERR.out rfl, _, _, _, rfl, HEV.out⟩, HE.out.2⟩
  · exact absurd HKC.out.1 (by have := HX.out; simp at tx; omega)

set_option maxRecDepth 100000 in
set_option maxHeartbeats 16000000 in
theorem pack_some_prn (N : Nat) (w : World) (R A : Nat) (l : List UInt8) (i : Nat) (h : Rd w R A l i) (hE : Env N w) (hN : N ≤ R) (d : Nat) (hd : d < 1000) (c t n : Nat) (rest0 data rest : List UInt8)
    (hh : Ber.header (l.drop i) = some (c, false, t, some n, rest0)) (Q : Ber.Res → Prop) (hok : Q (.ok (.mk c false t data []) rest)) (herr : Ber.known c t = false → Q .err) (hkc : c = 0 ∧ (t = 19)) (hn0 : 0 < n) (hn480 : n ≤ 480) (hlen : n ≤ rest0.length) (hdata : data = rest0.take n) (hrst : rest = rest0.drop n) :
    Calls Tryz.prog 110 #[.iface 157 (.pointer (some ⟨R, 0, none⟩)), .int .i64 d] w fun e w' => (∃ r, Q r ∧ PackOut N w.heap.size R A l i r e w') ∧ Keep w.heap.size R w w' := by
  have hdl : data.length = n := by rw [hdata, List.length_take]; omega
  subst hdl
  have hhd := head_any N w R A l i h hE hN
  have hm2 := make2
  have hdi : decide ((d : Int) ≥ 1000) = false := by simp; omega
  obtain ⟨hc4, ht63, -, -⟩ := Ber.header_bound hh
  have hRlt := h.lt
  have hAlt := h.ltA (by rcases Nat.eq_zero_or_pos l.length with h0 | h0; · rw [List.length_eq_zero_iff.1 h0] at hh; simp [Ber.header, Ber.ident] at hh
                         · exact h0)
  have HHD := Lib.hid hhd
  have HH := Lib.hid hh
  have HOK := Lib.hid hok
  have HERR := Lib.hid herr
  have HKC := Lib.hid hkc
  clear hkc
  have HE := Lib.hid hE
  have HLEN := Lib.hid hlen
  have HDT := Lib.hid hdata
  have HRST := Lib.hid hrst
  clear hhd hh h hok herr hE hlen hdata hrst
  go_enter Tryz.func110, Tryz.ntmps110
  go_wp2_with fail
  refine HHD.out.mono ?_
  rintro e w1 ⟨ho, hk⟩
  unfold HeadOut at ho
  rw [HH.out] at ho
  obtain ⟨k, rfl, hr1, hrest⟩ := ho
  simp only [lenInt, tagValue]
  have hsz1 := hk.size
  obtain ⟨x, hx⟩ : ∃ x : Nat, x = c * 64 := ⟨_, rfl⟩
  rw [← hx]
  have HX := Lib.hid hx
  have hrl := nil_or hrest
  have hlr : i + k < l.length ∧ data.length ≤ l.length - (i + k) := by have := HLEN.out; rw [hrl] at this; omega
  obtain ⟨kk, hkk⟩ : ∃ kk, kk = k + data.length := ⟨_, rfl⟩
  have hkm : (k : Int) + (data.length : Int) = (kk : Int) := by omega
  have HKM := Lib.hid hkm
  clear hkm
  have hk9 : k < 1000000000 := by have := hr1.len; omega
  have HRR := Lib.hid hrest
  have HK := Lib.hid hk
  -- the limited reader
  have hLl : ((startW w1 x 0 t).alloc (.cells #[.iface 157 (.pointer (some ⟨R, 0, none⟩)), .int .i64 data.length] 215)).heap[w1.heap.size + 1 + 1 + 1 + 1]? = some (.cells #[.iface 157 (.pointer (some ⟨R, 0, none⟩)), .int .i64 data.length] 215 (0, 0)) := by
    have := heap_alloc_new (startW w1 x 0 t) (.cells #[.iface 157 (.pointer (some ⟨R, 0, none⟩)), .int .i64 data.length] 215)
    rw [startW_size] at this
    exact this
  have hszl : ((startW w1 x 0 t).alloc (.cells #[.iface 157 (.pointer (some ⟨R, 0, none⟩)), .int .i64 data.length] 215)).heap.size = w1.heap.size + 1 + 1 + 1 + 1 + 1 := by rw [World.size_alloc, startW_size]
  have hkl : Keep w.heap.size R w ((startW w1 x 0 t).alloc (.cells #[.iface 157 (.pointer (some ⟨R, 0, none⟩)), .int .i64 data.length] 215)) := hk.trans (Keep.ofBelow ((startW_below w1 x 0 t).trans ((Below.refl _ _).alloc (by rw [startW_size]; omega) _) |>.mono hsz1))
  have hall := all_some N ((startW w1 x 0 t).alloc (.cells #[.iface 157 (.pointer (some ⟨R, 0, none⟩)), .int .i64 data.length] 215)) (w1.heap.size + 1 + 1 + 1 + 1) R A l (i + k) (((((hr1.alloc _).alloc _).alloc _).alloc _).alloc _) hlr.1 data.length hLl hn0 (by omega) (HE.out.keep hkl (by omega) hN) hN (by omega) (by omega) data.length (by omega) hn480
  rw [hszl] at hall
  have hall2 : Calls Tryz.prog 121 #[.iface 213 (.pointer (some ⟨w1.heap.size + 1 + 1 + 1 + 1, 0, none⟩))] ((startW w1 x 0 t).alloc (.cells #[.iface 157 (.pointer (some ⟨R, 0, none⟩)), .int .i64 data.length] 215)) fun e w' =>
      e = .returned (.tuple #[.slice (some ⟨w1.heap.size + 1 + 1 + 1 + 1 + 1, 0, none⟩) data.length 512, .nilIface]) ∧
      (w'.heap[w1.heap.size + 1]? = some (.cells (PkCells x 0 t .nilIface (.slice none 0 0) (w1.heap.size + 1 + 1) (.slice (some ⟨w1.heap.size + 1 + 1 + 1, 0, none⟩) 0 2) (.string ⟨#[]⟩)) 171 (0, 0)) ∧
       BufAt w' (w1.heap.size + 1 + 1) none (Lib.byteCells []) ∧ KidRow w' (w1.heap.size + 1 + 1 + 1) 2 [] ∧ Rd w' R A l (i + kk) ∧ Keep w.heap.size R w w' ∧
       Reads w' (Lib.byteCells data) (.slice (some ⟨w1.heap.size + 1 + 1 + 1 + 1 + 1, 0, none⟩) data.length 512) ∧
       (∀ j v, (Lib.byteCells data)[j]? = some v → w'.cell? ⟨w1.heap.size + 1 + 1 + 1 + 1 + 1, j, none⟩ = some v) ∧ w1.heap.size + 1 + 1 + 1 + 1 + 1 < w'.heap.size) := by
    refine hall.mono fun e w' ⟨he, hkp, hrd, hrow⟩ => ?_
    have hst : ∀ q, q < w1.heap.size + 1 + 1 + 1 + 1 → q ≠ R → w'.heap[q]? = (startW w1 x 0 t).heap[q]? := fun q hq hqR => (hkp.block q hq hqR).trans (Below.heap_alloc _ _ _ (by rw [startW_size]; omega))
    have hcs : ∀ j v, (Lib.byteCells data)[j]? = some v → w'.cell? ⟨w1.heap.size + 1 + 1 + 1 + 1 + 1, j, none⟩ = some v := by
      intro j v hj
      rw [blockCell hrow j, List.getElem?_toArray]
      have hd2 : Lib.byteCells data = Lib.byteCells ((l.drop (i + k)).take data.length) := by have h1 := HDT.out; rw [HRR.out] at h1; exact congrArg _ h1
      rw [← hd2]
      have hjl := (List.getElem?_eq_some_iff.1 hj).1
      simp only [splice, List.take_zero, List.nil_append, Nat.zero_add]
      rw [List.getElem?_append_left hjl]
      exact hj
    refine ⟨he, (hst _ (by omega) (by omega)).trans (startW_P w1 x 0 t), (startW_D w1 x 0 t).kept (hst _ (by omega) (by omega)) (fun g e => by cases e), (startW_C w1 x 0 t).stays (hst _ (by omega) (by omega)), by rw [hkk, ← Nat.add_assoc]; exact hrd, hkl.trans (hkp.mono (by omega)), ?_, hcs, blockLt hrow⟩
    exact ⟨_, 512, by rw [cells_length], Or.inr ⟨_, rfl, ⟨_, hrow⟩, hcs⟩⟩
  have hnb : decide ((data.length : Int) > 2147483647) = false := by simp; omega
  have hn1 : ((data.length : Int) != -1) = true := by rw [bne_iff_ne]; omega
  have hn2 : ((data.length : Int) == -1) = false := by rw [beq_eq_false_iff_ne]; omega
  have hn3 : decide ((data.length : Int) > 0) = true := by simp; omega
  have hn4 : decide ((data.length : Int) < (data.length : Int)) = false := by simp
  have hrest' : rest = l.drop (i + kk) := by rw [HRST.out, HRR.out, List.drop_drop, hkk]; congr 1; omega
  have hgb : w.heap.size ≤ w1.heap.size + 1 + 1 + 1 + 1 + 1 := by omega
  have hlim : ([] : List UInt8).length + data.length ≤ 140737488355328 := by simp; omega
  have hdll : data.length < 1000000000000 := by omega
  have HALL := Lib.hid hall2
  have HGB := Lib.hid hgb
  have HLIM := Lib.hid hlim
  have HDL := Lib.hid hdll
  have HREST := Lib.hid hrest'
  have HKK := Lib.hid hkk
  clear hr1 hrest hk hx hLl hszl hkl hall hall2 hrest' hgb hlim hdll hlr hrl hkk
  go_wp2_with fail
  refine (limit_any _ R data.length).mono ?_
  rintro e w3 ⟨rfl, rfl⟩
  go_wp2_with fail
  refine HALL.out.mono ?_
  rintro e w5 ⟨rfl, hP5, hD5, hC5, hR5, hK5, hRd5, hS5, hG5⟩
  have HP0 := Lib.hid hP5
  have HD0 := Lib.hid hD5
  have HC0 := Lib.hid hC5
  have HR0 := Lib.hid hR5
  have HK0 := Lib.hid hK5
  have HRD := Lib.hid hRd5
  have HSRC := Lib.hid hS5
  have HGL := Lib.hid hG5
  have hsz5 : w.heap.size ≤ w5.heap.size := hK5.size
  have HSZ0 := Lib.hid hsz5
  have p51 := pk1 hP5
  have p50 := pk0 hP5
  have p55 := pk5 hP5
  clear hP5 hD5 hC5 hR5 hK5 hRd5 hS5 hG5 hsz5
  have tx : ((x : Int) == 0) = true ∨ ((x : Int) == 0) = false := by cases ((x : Int) == 0) <;> simp
  rcases tx with tx | tx
  · have hc0 : c = 0 := by have := HX.out; simp at tx; omega
    subst hc0
    obtain ⟨-, rfl⟩ := HKC.out
    all_goals
      go_wp2_with fail
      refine (write_bytes _ (w1.heap.size + 1 + 1) none [] data _ HD0.out HRD.out HLIM.out).mono ?_
      rintro e w2 ⟨rfl, row2, hb2, hr2, hf2⟩
      have hp2 := (hf2.block _ (blockLt HP0.out) (by rintro (h | h); omega; cases h)).trans HP0.out
      have c23 := pk3 hp2
      have c22 := pk2 hp2
      have c24 := pk4 hp2
      have f23 := blockFrozen hp2 3
      have f24 := blockFrozen hp2 4
      have hB2 := Lib.hid hb2
      have hR2 := Lib.hid hr2
      have hF2 := Lib.hid hf2
      have hP2 := Lib.hid hp2
      have hF4 := fun W4 hbel => prim_fin (N := N) (W4 := W4) (data := data) (G := (w1.heap.size + 1 + 1 + 1 + 1 + 1)) (cp := 512) HKM.out ht63 HK0.out HR0.out HC0.out (blockLt HP0.out) (by rw [HX.out] at hp2; exact hp2) hb2 hr2 hf2 (by omega) (by omega) (by omega) (by omega) (by omega) (by omega) hRlt hAlt HGB.out HGL.out (by omega) (by omega) HSRC.out HREST.out hbel
      have hs3 : ∀ j v, (Lib.byteCells data)[j]? = some v → (w2.setCell ⟨w1.heap.size + 1, 4, none⟩ (.slice (some ⟨(w1.heap.size + 1 + 1 + 1 + 1 + 1), 0, none⟩) data.length 512)).cell? ⟨(w1.heap.size + 1 + 1 + 1 + 1 + 1), j, none⟩ = some v := fun j v hj =>
        (World.cell?_of_block (w := w2) (Below.heap_setCell _ _ _ _ (by show (w1.heap.size + 1 + 1 + 1 + 1 + 1) ≠ w1.heap.size + 1; omega))).trans ((hf2.cell (p := ⟨(w1.heap.size + 1 + 1 + 1 + 1 + 1), j, none⟩) HGL.out (by rintro (h | h); (show False); have h' : (w1.heap.size + 1 + 1 + 1 + 1 + 1) = w1.heap.size + 1 + 1 := h; omega; cases h)).trans (HSRC.out j v hj))
      have HF4 := Lib.hid hF4
      have HS3 := Lib.hid hs3
      have hzz : (w2.setCell ⟨w1.heap.size + 1, 4, none⟩ (.slice (some ⟨(w1.heap.size + 1 + 1 + 1 + 1 + 1), 0, none⟩) data.length 512)).heap.size = w2.heap.size := by simp [World.setCell]
      have hsz3 : w.heap.size ≤ (w2.setCell ⟨w1.heap.size + 1, 4, none⟩ (.slice (some ⟨(w1.heap.size + 1 + 1 + 1 + 1 + 1), 0, none⟩) data.length 512)).heap.size := by rw [hzz]; have := hf2.size; have := HSZ0.out; omega
      have hgl3 : (w1.heap.size + 1 + 1 + 1 + 1 + 1) < (w2.setCell ⟨w1.heap.size + 1, 4, none⟩ (.slice (some ⟨(w1.heap.size + 1 + 1 + 1 + 1 + 1), 0, none⟩) data.length 512)).heap.size := by rw [hzz]; have := hf2.size; have := HGL.out; omega
      have hk3 : Keep w.heap.size R w (w2.setCell ⟨w1.heap.size + 1, 4, none⟩ (.slice (some ⟨(w1.heap.size + 1 + 1 + 1 + 1 + 1), 0, none⟩) data.length 512)) := (HK0.out.trans (hf2.toKeep (by rintro k (h | h); exact Or.inl (by omega); cases h) HK0.out.size)).setCell (p := ⟨w1.heap.size + 1, 4, none⟩) (Or.inl (by show w.heap.size ≤ w1.heap.size + 1; omega)) _
      have HSZ3 := Lib.hid hsz3
      have HGL3 := Lib.hid hgl3
      have HK3 := Lib.hid hk3
      have hdm : data.length < 1000000 := by first | exact Nat.lt_of_le_of_lt hn480 (by decide) | simp
      have HDM := Lib.hid hdm
      clear hzz hsz3 hgl3 hk3 hdm
      clear hb2 hr2 hf2 hp2 hF4 hs3
      go_wp2_with fail
    · refine (decode_any _ (w1.heap.size + 1 + 1 + 1 + 1 + 1) 512 data HS3.out).mono ?_
      rintro e w4 ⟨rfl, rfl⟩
      go_wp2_with fail
      refine (prn_any N _ _).mono ?_
      rintro e w5 ⟨ho, hbel⟩
      obtain ⟨hE, hE2, c43, f43⟩ := HF4.out w5 hbel
      rcases ho with rfl | ⟨ev, rfl, hev⟩
      · have HE := Lib.hid hE
        clear hE hE2 hbel
        go_wp2_with fail
        go_ret3
        exact ⟨⟨_, HOK.out, (HE.out _).1⟩, (HE.out _).2⟩
      · obtain ⟨a, rfl⟩ := hev.iface
        have HEV := Lib.hid (hev.mono HSZ3.out)
        have HE := Lib.hid hE2
        clear hE hE2 hbel hev
        go_wp2_with fail
        go_ret3
        exact ⟨⟨.err, HERR.out rfl, _, _, _, rfl, HEV.out⟩, HE.out.2⟩
  · exact absurd HKC.out.1 (by have := HX.out; simp at tx; omega)



end Go.Proofs.YtjmahgefijncaaaGreatFmt.Tot

