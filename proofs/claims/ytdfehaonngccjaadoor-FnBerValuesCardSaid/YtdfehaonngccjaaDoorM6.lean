/- readPacket of a primitive packet of some contents. -/
import Derived.Test.YtdfehaonngccjaaDoorM5
namespace Go.Proofs.YtdfehaonngccjaaDoor
open Go Go.RowKit

theorem nil_or {rest : List UInt8} {l : List UInt8} {j : Nat} (h : rest = l.drop j) : rest.length = l.length - j := by rw [h, List.length_drop]

set_option maxRecDepth 100000 in
set_option maxHeartbeats 16000000 in
theorem pack_some0 (N : Nat) (w : World) (R A : Nat) (l : List UInt8) (i : Nat) (h : Rd w R A l i) (hE : Env N w) (hN : N ≤ R) (d : Nat) (hd : d < 1000) (c t n : Nat) (rest0 data rest : List UInt8)
    (hh : Ber.header (l.drop i) = some (c, false, t, some n, rest0)) (hkn : Ber.known c t = true) (hn0 : 0 < n) (hn480 : n ≤ 480) (hlen : n ≤ rest0.length) (hdata : data = rest0.take n) (hrst : rest = rest0.drop n) :
    Calls Tryd.prog 33 #[.iface 53 (.pointer (some ⟨R, 0, none⟩)), .int .i64 d] w fun e w' => PackOut N w.heap.size R A l i (.ok (.mk c false t data []) rest) e w' ∧ Keep w.heap.size R w w' := by
  have hdl : data.length = n := by rw [hdata, List.length_take]; omega
  subst hdl
  have hhd := head_any N w R A l i h hE hN
  have hm2 := make2
  have hdi : decide ((d : Int) ≥ 1000) = false := by simp; omega
  obtain ⟨hc4, ht63, -, -⟩ := Ber.header_bound hh
  have hRlt := h.lt
  have hAlt := h.ltA (by rcases Nat.eq_zero_or_pos l.length with h0 | h0; · rw [List.length_eq_zero_iff.1 h0] at hh; simp [Ber.header, Ber.ident] at hh
                         · exact h0)
  have HHD := Lib.hid hhd
  have HH := Lib.hid hh
  have hkc := known_cases hkn
  have HKN := Lib.hid hkn
  have HE := Lib.hid hE
  have HLEN := Lib.hid hlen
  have HDT := Lib.hid hdata
  have HRST := Lib.hid hrst
  clear hhd hh h hkn hE hlen hdata hrst
  go_enter Tryd.func33, Tryd.ntmps33
  go_wp2_with fail
  refine HHD.out.mono ?_
  rintro e w1 ⟨ho, hk⟩
  unfold HeadOut at ho
  rw [HH.out] at ho
  obtain ⟨k, rfl, hr1, hrest⟩ := ho
  simp only [lenInt, tagValue]
  have hsz1 := hk.size
  obtain ⟨x, hx⟩ : ∃ x : Nat, x = c * 64 := ⟨_, rfl⟩
  rw [← hx]
  have HX := Lib.hid hx
  have hrl := nil_or hrest
  have hlr : i + k < l.length ∧ data.length ≤ l.length - (i + k) := by have := HLEN.out; rw [hrl] at this; omega
  obtain ⟨kk, hkk⟩ : ∃ kk, kk = k + data.length := ⟨_, rfl⟩
  have hkm : (k : Int) + (data.length : Int) = (kk : Int) := by omega
  have HKM := Lib.hid hkm
  clear hkm
  have hk9 : k < 1000000000 := by have := hr1.len; omega
  have HRR := Lib.hid hrest
  have HK := Lib.hid hk
  -- the limited reader
  have hLl : ((startW w1 x 0 t).alloc (.cells #[.iface 53 (.pointer (some ⟨R, 0, none⟩)), .int .i64 data.length] 132)).heap[w1.heap.size + 1 + 1 + 1 + 1]? = some (.cells #[.iface 53 (.pointer (some ⟨R, 0, none⟩)), .int .i64 data.length] 132 (0, 0)) := by
    have := heap_alloc_new (startW w1 x 0 t) (.cells #[.iface 53 (.pointer (some ⟨R, 0, none⟩)), .int .i64 data.length] 132)
    rw [startW_size] at this
    exact this
  have hszl : ((startW w1 x 0 t).alloc (.cells #[.iface 53 (.pointer (some ⟨R, 0, none⟩)), .int .i64 data.length] 132)).heap.size = w1.heap.size + 1 + 1 + 1 + 1 + 1 := by rw [World.size_alloc, startW_size]
  have hkl : Keep w.heap.size R w ((startW w1 x 0 t).alloc (.cells #[.iface 53 (.pointer (some ⟨R, 0, none⟩)), .int .i64 data.length] 132)) := hk.trans (Keep.ofBelow ((startW_below w1 x 0 t).trans ((Below.refl _ _).alloc (by rw [startW_size]; omega) _) |>.mono hsz1))
  have hall := all_some N ((startW w1 x 0 t).alloc (.cells #[.iface 53 (.pointer (some ⟨R, 0, none⟩)), .int .i64 data.length] 132)) (w1.heap.size + 1 + 1 + 1 + 1) R A l (i + k) (((((hr1.alloc _).alloc _).alloc _).alloc _).alloc _) hlr.1 data.length hLl hn0 (by omega) (HE.out.keep hkl (by omega) hN) hN (by omega) (by omega) data.length (by omega) hn480
  rw [hszl] at hall
  have hall2 : Calls Tryd.prog 47 #[.iface 130 (.pointer (some ⟨w1.heap.size + 1 + 1 + 1 + 1, 0, none⟩))] ((startW w1 x 0 t).alloc (.cells #[.iface 53 (.pointer (some ⟨R, 0, none⟩)), .int .i64 data.length] 132)) fun e w' =>
      e = .returned (.tuple #[.slice (some ⟨w1.heap.size + 1 + 1 + 1 + 1 + 1, 0, none⟩) data.length 512, .nilIface]) ∧
      (w'.heap[w1.heap.size + 1]? = some (.cells (PkCells x 0 t .nilIface (.slice none 0 0) (w1.heap.size + 1 + 1) (.slice (some ⟨w1.heap.size + 1 + 1 + 1, 0, none⟩) 0 2) (.string ⟨#[]⟩)) 78 (0, 0)) ∧
       BufAt w' (w1.heap.size + 1 + 1) none (Lib.byteCells []) ∧ KidRow w' (w1.heap.size + 1 + 1 + 1) 2 [] ∧ Rd w' R A l (i + kk) ∧ Keep w.heap.size R w w' ∧
       Reads w' (Lib.byteCells data) (.slice (some ⟨w1.heap.size + 1 + 1 + 1 + 1 + 1, 0, none⟩) data.length 512) ∧
       (∀ j v, (Lib.byteCells data)[j]? = some v → w'.cell? ⟨w1.heap.size + 1 + 1 + 1 + 1 + 1, j, none⟩ = some v) ∧ w1.heap.size + 1 + 1 + 1 + 1 + 1 < w'.heap.size) := by
    refine hall.mono fun e w' ⟨he, hkp, hrd, hrow⟩ => ?_
    have hst : ∀ q, q < w1.heap.size + 1 + 1 + 1 + 1 → q ≠ R → w'.heap[q]? = (startW w1 x 0 t).heap[q]? := fun q hq hqR => (hkp.block q hq hqR).trans (Below.heap_alloc _ _ _ (by rw [startW_size]; omega))
    have hcs : ∀ j v, (Lib.byteCells data)[j]? = some v → w'.cell? ⟨w1.heap.size + 1 + 1 + 1 + 1 + 1, j, none⟩ = some v := by
      intro j v hj
      rw [blockCell hrow j, List.getElem?_toArray]
      have hd2 : Lib.byteCells data = Lib.byteCells ((l.drop (i + k)).take data.length) := by have h1 := HDT.out; rw [HRR.out] at h1; exact congrArg _ h1
      rw [← hd2]
      have hjl := (List.getElem?_eq_some_iff.1 hj).1
      simp only [splice, List.take_zero, List.nil_append, Nat.zero_add]
      rw [List.getElem?_append_left hjl]
      exact hj
    refine ⟨he, (hst _ (by omega) (by omega)).trans (startW_P w1 x 0 t), (startW_D w1 x 0 t).kept (hst _ (by omega) (by omega)) (fun g e => by cases e), (startW_C w1 x 0 t).stays (hst _ (by omega) (by omega)), by rw [hkk, ← Nat.add_assoc]; exact hrd, hkl.trans (hkp.mono (by omega)), ?_, hcs, blockLt hrow⟩
    exact ⟨_, 512, by rw [cells_length], Or.inr ⟨_, rfl, ⟨_, hrow⟩, hcs⟩⟩
  have hnb : decide ((data.length : Int) > 2147483647) = false := by simp; omega
  have hn1 : ((data.length : Int) != -1) = true := by rw [bne_iff_ne]; omega
  have hn2 : ((data.length : Int) == -1) = false := by rw [beq_eq_false_iff_ne]; omega
  have hn3 : decide ((data.length : Int) > 0) = true := by simp; omega
  have hn4 : decide ((data.length : Int) < (data.length : Int)) = false := by simp
  have hrest' : rest = l.drop (i + kk) := by rw [HRST.out, HRR.out, List.drop_drop, hkk]; congr 1; omega
  have hgb : w.heap.size ≤ w1.heap.size + 1 + 1 + 1 + 1 + 1 := by omega
  have hlim : ([] : List UInt8).length + data.length ≤ 140737488355328 := by simp; omega
  have hdll : data.length < 1000000000000 := by omega
  have HALL := Lib.hid hall2
  have HGB := Lib.hid hgb
  have HLIM := Lib.hid hlim
  have HDL := Lib.hid hdll
  have HREST := Lib.hid hrest'
  have HKK := Lib.hid hkk
  clear hr1 hrest hk hx hLl hszl hkl hall hall2 hrest' hgb hlim hdll hlr hrl hkk
  go_wp2_with fail
  refine (limit_any _ R data.length).mono ?_
  rintro e w3 ⟨rfl, rfl⟩
  go_wp2_with fail
  refine HALL.out.mono ?_
  rintro e w5 ⟨rfl, hP5, hD5, hC5, hR5, hK5, hRd5, hS5, hG5⟩
  have HP0 := Lib.hid hP5
  have HD0 := Lib.hid hD5
  have HC0 := Lib.hid hC5
  have HR0 := Lib.hid hR5
  have HK0 := Lib.hid hK5
  have HRD := Lib.hid hRd5
  have HSRC := Lib.hid hS5
  have HGL := Lib.hid hG5
  have hsz5 : w.heap.size ≤ w5.heap.size := hK5.size
  have HSZ0 := Lib.hid hsz5
  have p51 := pk1 hP5
  have p50 := pk0 hP5
  have p55 := pk5 hP5
  clear hP5 hD5 hC5 hR5 hK5 hRd5 hS5 hG5 hsz5
  have tx : ((x : Int) == 0) = true ∨ ((x : Int) == 0) = false := by cases ((x : Int) == 0) <;> simp
  rcases tx with tx | tx
  · have hc0 : c = 0 := by have := HX.out; simp at tx; omega
    subst hc0
    rcases hkc.resolve_left (fun h => h rfl) with ⟨-, hkt⟩
    rcases hkt with rfl | rfl | rfl | rfl | rfl | rfl
    all_goals
      go_wp2_with fail
      refine (write_bytes _ (w1.heap.size + 1 + 1) none [] data _ HD0.out HRD.out HLIM.out).mono ?_
      rintro e w2 ⟨rfl, row2, hb2, hr2, hf2⟩
      have hp2 := (hf2.block _ (blockLt HP0.out) (by rintro (h | h); omega; cases h)).trans HP0.out
      have c23 := pk3 hp2
      have c22 := pk2 hp2
      have c24 := pk4 hp2
      have f23 := blockFrozen hp2 3
      have f24 := blockFrozen hp2 4
      have hB2 := Lib.hid hb2
      have hR2 := Lib.hid hr2
      have hF2 := Lib.hid hf2
      have hP2 := Lib.hid hp2
      have hF4 := fun W4 hbel => prim_fin (N := N) (W4 := W4) (data := data) (G := (w1.heap.size + 1 + 1 + 1 + 1 + 1)) (cp := 512) HKM.out ht63 HK0.out HR0.out HC0.out (blockLt HP0.out) (by rw [HX.out] at hp2; exact hp2) hb2 hr2 hf2 (by omega) (by omega) (by omega) (by omega) (by omega) (by omega) hRlt hAlt HGB.out HGL.out (by omega) (by omega) HSRC.out HREST.out hbel
      have hs3 : ∀ j v, (Lib.byteCells data)[j]? = some v → (w2.setCell ⟨w1.heap.size + 1, 4, none⟩ (.slice (some ⟨(w1.heap.size + 1 + 1 + 1 + 1 + 1), 0, none⟩) data.length 512)).cell? ⟨(w1.heap.size + 1 + 1 + 1 + 1 + 1), j, none⟩ = some v := fun j v hj =>
        (World.cell?_of_block (w := w2) (Below.heap_setCell _ _ _ _ (by show (w1.heap.size + 1 + 1 + 1 + 1 + 1) ≠ w1.heap.size + 1; omega))).trans ((hf2.cell (p := ⟨(w1.heap.size + 1 + 1 + 1 + 1 + 1), j, none⟩) HGL.out (by rintro (h | h); (show False); have h' : (w1.heap.size + 1 + 1 + 1 + 1 + 1) = w1.heap.size + 1 + 1 := h; omega; cases h)).trans (HSRC.out j v hj))
      have HF4 := Lib.hid hF4
      have HS3 := Lib.hid hs3
      clear hb2 hr2 hf2 hp2 hF4 hs3
      go_wp2_with fail
    · go_ret3
      exact (HF4.out _ (Below.refl _ _)).2.1 (valOf_none _ (Or.inl rfl))
    · refine (parse_all _ (w1.heap.size + 1 + 1 + 1 + 1 + 1) 512 data HDL.out HS3.out).mono ?_
      rintro e w4 ⟨⟨ev, rfl⟩, hbel⟩
      obtain ⟨hE, -, c43, f43⟩ := HF4.out w4 hbel
      have HE := Lib.hid hE
      clear hE hbel
      go_wp2
      go_ret3
      exact HE.out
    · refine (parse_all _ (w1.heap.size + 1 + 1 + 1 + 1 + 1) 512 data HDL.out HS3.out).mono ?_
      rintro e w4 ⟨⟨ev, rfl⟩, hbel⟩
      obtain ⟨hE, -, c43, f43⟩ := HF4.out w4 hbel
      have HE := Lib.hid hE
      clear hE hbel
      go_wp2
      go_ret3
      exact HE.out
    · refine (decode_any _ (w1.heap.size + 1 + 1 + 1 + 1 + 1) 512 data HS3.out).mono ?_
      rintro e w4 ⟨rfl, rfl⟩
      obtain ⟨hE, -, c43, f43⟩ := HF4.out _ (Below.refl _ _)
      have HE := Lib.hid hE
      clear hE
      go_wp2
      go_ret3
      exact HE.out
    · go_ret3
      exact (HF4.out _ (Below.refl _ _)).2.1 (valOf_none _ (Or.inr rfl))
    · refine (parse_all _ (w1.heap.size + 1 + 1 + 1 + 1 + 1) 512 data HDL.out HS3.out).mono ?_
      rintro e w4 ⟨⟨ev, rfl⟩, hbel⟩
      obtain ⟨hE, -, c43, f43⟩ := HF4.out w4 hbel
      have HE := Lib.hid hE
      clear hE hbel
      go_wp2
      go_ret3
      exact HE.out
  · have hc0 : c ≠ 0 := by have := HX.out; simp at tx; omega
    go_wp2_with fail
    refine (write_bytes w5 (w1.heap.size + 1 + 1) none [] data _ HD0.out HRD.out HLIM.out).mono ?_
    rintro e w2 ⟨rfl, row2, hb2, hr2, hf2⟩
    have hp2 := (hf2.block _ (blockLt HP0.out) (by rintro (h | h); omega; cases h)).trans HP0.out
    have hE := prim_end (N := N) (w := w) (i := i) (kk := kk) (rest := rest) (c := c) (t := t) (data := data) (row := row2) (bv := .slice none 0 0) HKM.out hc4 ht63 HK0.out HR0.out HC0.out (hf2.weaken (by rintro i _ (h | h); exact Or.inr h; cases h)) (by rw [← HX.out]; simpa [valOf, hc0] using hp2) hb2
      (by rintro g rfl; rcases hr2 with h | ⟨g', h, h'⟩; cases h; rw [Option.some.inj h]; have := HSZ0.out; omega) (by omega) (by omega) (by omega) (by omega) (by omega) hRlt hAlt (Or.inl ⟨hc0, rfl⟩) HREST.out
    have HE := Lib.hid hE
    clear hE hb2 hr2 hf2 hp2
    go_wp2
    go_ret3
    exact HE.out



theorem pack_some (N : Nat) (w : World) (R A : Nat) (l : List UInt8) (i : Nat) (h : Rd w R A l i) (hE : Env N w) (hN : N ≤ R) (d : Nat) (hd : d < 1000) (c t n : Nat) (rest : List UInt8)
    (hh : Ber.header (l.drop i) = some (c, false, t, some n, rest)) (hkn : Ber.known c t = true) (hn0 : 0 < n) (hn480 : n ≤ 480) (hlen : n ≤ rest.length) :
    Calls Tryd.prog 33 #[.iface 53 (.pointer (some ⟨R, 0, none⟩)), .int .i64 d] w fun e w' => PackOut N w.heap.size R A l i (.ok (.mk c false t (rest.take n) []) (rest.drop n)) e w' ∧ Keep w.heap.size R w w' :=
  pack_some0 N w R A l i h hE hN d hd c t n rest _ _ hh hkn hn0 hn480 hlen rfl rfl
end Go.Proofs.YtdfehaonngccjaaDoor

/- Plain: what a packet that was read has, written again. -/
namespace Go.Proofs.YtdfehaonngccjaaDoor.Ber

theorem tagMore_len : ∀ f n, (tagMore f n).length ≤ f
  | 0, n => by simp [tagMore]
  | f + 1, n => by simp only [tagMore]; split; simp; have := tagMore_len f (n / 128); simp; omega
theorem identBytes_len (c : Nat) (b : Bool) (t : Nat) : (identBytes c b t).length ≤ 13 := by
  have h : (tagBytes t).length ≤ 11 := by
    unfold tagBytes
    split
    · simp
    · have := tagMore_len 10 (t / 128); simp; omega
  unfold identBytes
  split
  · simp
  · rw [List.length_cons]; omega
theorem digits_len : ∀ f n, (digits f n).length ≤ f
  | 0, n => by simp [digits]
  | f + 1, n => by simp only [digits]; split; simp; have := digits_len f (n / 256); simp; omega
theorem lenBytes_len (n : Nat) : (lenBytes n).length ≤ 9 := by
  unfold lenBytes
  split
  · simp
  · have := digits_len 8 n; simp; omega
theorem enc_len (p : Pk) : (enc p).length ≤ 22 + (body p).length := by
  cases p with
  | mk c b t data items =>
    have := identBytes_len c b t
    have := lenBytes_len (body (.mk c b t data items)).length
    simp only [enc, List.length_append]
    omega
theorem bodies_append : ∀ (xs : List Pk) (p : Pk), bodies (xs ++ [p]) = bodies xs ++ enc p
  | [], .mk c b t d i => by simp [bodies, enc]
  | .mk c b t d i :: r, p => by simp only [List.cons_append, bodies, bodies_append r p, List.append_assoc]

/-- A packet of n bytes. -/
structure Fits (s : List UInt8) (p : Pk) (rest : List UInt8) : Prop where
  drop : ∃ m, rest = s.drop m ∧ 2 ≤ m ∧ m ≤ s.length
  size : (enc p).length + 20 * rest.length ≤ 20 * s.length

theorem prim_fits {c t n : Nat} {s0 s : List UInt8} {p : Pk} {rest : List UInt8} (h0 : ∃ m, s = s0.drop m ∧ 2 ≤ m ∧ m ≤ s0.length) (h : prim c t n s = .ok p rest) : Fits s0 p rest := by
  obtain ⟨m, rfl, hm2, hml⟩ := h0
  unfold prim at h
  have key : ∀ (data : List UInt8) (j : Nat), data.length ≤ j → j ≤ (s0.drop m).length → Fits s0 (.mk c false t data []) ((s0.drop m).drop j) := by
    intro data j hd hj
    have he := enc_len (.mk c false t data [])
    have hb : body (.mk c false t data []) = data := rfl
    rw [hb] at he
    rw [List.length_drop] at hj
    refine ⟨⟨m + j, by rw [List.drop_drop], by omega, by omega⟩, ?_⟩
    rw [List.drop_drop, List.length_drop]
    omega
  split at h
  · split at h
    · injection h with h1 h2
      subst h1 h2
      exact key [] 0 (by simp) (by omega)
    · cases h
  · split at h
    · cases h
    · split at h
      · cases h
      · split at h
        · injection h with h1 h2
          subst h1 h2
          exact key _ n (by rw [List.length_take]; omega) (by omega)
        · cases h

mutual
theorem readP_fits : ∀ (f d : Nat) (s : List UInt8) (p : Pk) (rest : List UInt8), readP f d s = .ok p rest → Fits s p rest
  | 0, d, s, p, rest, h => by simp [readP] at h
  | f + 1, d, s, p, rest, h => by
    simp only [readP] at h
    split at h
    · cases h
    · split at h
      · cases h
      · cases h
      · rename_i c t s1 hh
        obtain ⟨-, -, -, m, h1, h2, h3⟩ := header_bound hh
        exact kids_fits f d c t none 0 [] s1 p rest s ⟨m, h2, h1, h3⟩ (by simp [bodies]; rw [h2, List.length_drop]; omega) h
      · rename_i c b t n s1 hh
        obtain ⟨-, -, -, m, h1, h2, h3⟩ := header_bound hh
        split at h
        · cases h
        · split at h
          · exact kids_fits f d c t (some n) 0 [] s1 p rest s ⟨m, h2, h1, h3⟩ (by simp [bodies]; rw [h2, List.length_drop]; omega) h
          · exact prim_fits ⟨m, h2, h1, h3⟩ h
theorem kids_fits : ∀ (f d c t : Nat) (len : Option Nat) (got : Nat) (items : List Pk) (s : List UInt8) (p : Pk) (rest s0 : List UInt8), (∃ m, s = s0.drop m ∧ 2 ≤ m ∧ m ≤ s0.length) → 40 + (bodies items).length + 20 * s.length ≤ 20 * s0.length →
    kids f d c t len got items s = .ok p rest → Fits s0 p rest
  | 0, d, c, t, len, got, items, s, p, rest, s0, h0, hs, h => by simp [kids] at h
  | f + 1, d, c, t, len, got, items, s, p, rest, s0, h0, hs, h => by
    have key : ∀ r : List UInt8, (∃ m, r = s0.drop m ∧ 2 ≤ m ∧ m ≤ s0.length) → r.length ≤ s.length → Fits s0 (.mk c true t [] items) r := by
      intro r hr hl
      have he := enc_len (.mk c true t [] items)
      have hb : body (.mk c true t [] items) = bodies items := rfl
      rw [hb] at he
      exact ⟨hr, by omega⟩
    simp only [kids] at h
    split at h
    · injection h with h1 h2
      subst h1 h2
      exact key _ h0 (Nat.le_refl _)
    · split at h
      · cases h
      · split at h
        · cases h
        · cases h
        · rename_i q r hq
          have hf := readP_fits f (d + 1) s q r hq
          obtain ⟨m, hm1, hm2, hm3⟩ := h0
          obtain ⟨j, hj1, hj2, hj3⟩ := hf.drop
          have hr : ∃ m, r = s0.drop m ∧ 2 ≤ m ∧ m ≤ s0.length := ⟨m + j, by rw [hj1, hm1, List.drop_drop], by omega, by rw [hm1, List.length_drop] at hj3; omega⟩
          have hrl : r.length ≤ s.length := by rw [hj1, List.length_drop]; omega
          split at h
          · cases h
          · split at h
            · split at h
              · injection h with h1 h2
                subst h1 h2
                exact key _ hr hrl
              · cases h
            · refine kids_fits f d c t len _ _ r p rest s0 hr ?_ h
              have := hf.size
              rw [bodies_append, List.length_append]
              omega
end
end Go.Proofs.YtdfehaonngccjaaDoor.Ber

/- Packets in memory: more. -/
namespace Go.Proofs.YtdfehaonngccjaaDoor
open Go Go.RowKit

theorem Kids.length : ∀ {w : World} {xs : List Value} {items : List Ber.Pk}, Kids w xs items → xs.length = items.length
  | w, xs, [], h => by unfold Kids at h; rw [h]; rfl
  | w, xs, x :: r, h => by
    unfold Kids at h
    obtain ⟨q, vs, rfl, _, h2⟩ := h
    simp [Kids.length h2]
theorem Kids.snoc : ∀ {w : World} {xs : List Value} {items : List Ber.Pk} {q : Nat} {p : Ber.Pk}, Kids w xs items → Tree w q p → Kids w (xs ++ [.pointer (some ⟨q, 0, none⟩)]) (items ++ [p])
  | w, xs, [], q, p, h, ht => by
    unfold Kids at h
    subst h
    simp only [List.nil_append]
    unfold Kids
    exact ⟨q, [], rfl, ht, by unfold Kids; rfl⟩
  | w, xs, x :: r, q, p, h, ht => by
    unfold Kids at h
    obtain ⟨q', vs, rfl, h1, h2⟩ := h
    simp only [List.cons_append]
    unfold Kids
    exact ⟨q', vs ++ [.pointer (some ⟨q, 0, none⟩)], rfl, h1, Kids.snoc h2 ht⟩

/-- isEOCPacket of a packet. -/
theorem eoc_tree (w : World) (q : Nat) (p : Ber.Pk) (h : Tree w q p) :
    Calls Tryd.prog 46 #[.pointer (some ⟨q, 0, none⟩)] w fun e w' => e = .returned (.bool (Ber.isEOC p)) ∧ w = w' := by
  cases p with
  | mk c b t data items =>
    unfold Tree at h
    obtain ⟨D, row, C, cap, bv, xs, hc, ht, hp, hb, hk, hbv, hi, hd, hkids⟩ := h
    obtain ⟨bo, bn, bc, rfl, hbn⟩ : ∃ bo bn bc, bv = .slice bo bn bc ∧ (c = 0 ∧ b = false → bn = data.length) := by
      unfold BvAt at hbv
      split at hbv
      · obtain ⟨G, cp, h1, _⟩ := hbv
        exact ⟨_, _, _, h1, fun _ => rfl⟩
      · rename_i hne
        exact ⟨none, 0, 0, hbv, fun h => absurd h hne⟩
    refine (eoc_any w q ((c * 64 : Nat) : Int) (if b then 32 else 0) t _ bo bn bc _ _ xs.length cap _ (0, 0) hp).mono fun e w' ⟨he, hw⟩ => ⟨?_, hw⟩
    rw [he]
    congr 2
    have hxl := hkids.length
    by_cases h0 : c = 0 ∧ b = false
    · obtain ⟨rfl, rfl⟩ := h0
      rw [hbn ⟨rfl, rfl⟩, hxl, hi rfl]
      have e1 : ((t : Int) == 0) = decide (t = 0) := by by_cases h : t = 0 <;> simp [h]
      have e2 : data.isEmpty = decide (data.length = 0) := by cases data <;> simp
      simp only [Ber.isEOC, e1, e2]
      simp
    · have hf : ((((c * 64 : Nat) : Int) == 0) && ((if b then 32 else 0 : Int) == 0)) = false := by
        cases b
        · have : c ≠ 0 := fun h => h0 ⟨h, rfl⟩
          have h64 : (((c * 64 : Nat) : Int) == 0) = false := by rw [beq_eq_false_iff_ne]; omega
          rw [h64]; rfl
        · simp
      have hE : Ber.isEOC (.mk c b t data items) = false := by
        simp only [Ber.isEOC]
        cases b
        · have : c ≠ 0 := fun h => h0 ⟨h, rfl⟩
          simp [this]
        · simp
      rw [hE]
      rw [Bool.and_assoc ((t : Int) == 0), hf]
      simp
end Go.Proofs.YtdfehaonngccjaaDoor

/- readPacket of constructed packets: the loop's invariant. -/
namespace Go.Proofs.YtdfehaonngccjaaDoor
open Go Go.RowKit

theorem Stable.widen {B B' : Nat} {w : World} {Own : Nat → Prop} {Q : World → Prop} (h : Stable B' w (fun _ => False) Q) (hB : B ≤ B') (hO : ∀ k, Own k → k < B') : Stable B w Own Q :=
  fun w2 h2 => h w2 fun k hk hlt _ => h2 k (Nat.le_trans hB hk) hlt (fun e => by have := hO k e; omega)
theorem Stable.both {B : Nat} {w : World} {Own : Nat → Prop} {Q Q' : World → Prop} (h : Stable B w Own Q) (h' : Stable B w Own Q') : Stable B w Own (fun w => Q w ∧ Q' w) := fun w2 h2 => ⟨h w2 h2, h' w2 h2⟩

def ReadHolds (N R A : Nat) (l : List UInt8) (f : Nat) : Prop :=
  ∀ (w : World) (i d : Nat), Rd w R A l i → Env N w → d < 1000000 → Ber.readP f d (l.drop i) ≠ .bad →
    Calls Tryd.prog 33 #[.iface 53 (.pointer (some ⟨R, 0, none⟩)), .int .i64 d] w fun e w' => PackOut N w.heap.size R A l i (Ber.readP f d (l.drop i)) e w' ∧ Keep w.heap.size R w w'

/-- A packet under way. -/
structure Way (R A : Nat) (l : List UInt8) (i c t : Nat) (w : World) (P D : Nat) (k got : Nat) (row : Option Nat) (C cap : Nat) (xs : List Value) (items : List Ber.Pk) (wr : World) : Prop where
  le : got ≤ k
  rd : Rd wr R A l (i + k)
  keep : Keep w.heap.size R w wr
  hP : wr.heap[P]? = some (.cells (PkCells ((c * 64 : Nat) : Int) 32 t .nilIface (.slice none 0 0) D (.slice (some ⟨C, 0, none⟩) xs.length cap) (.string ⟨#[]⟩)) 78 (0, 0))
  hD : BufAt wr D row (Lib.byteCells (Ber.bodies items))
  hC : KidRow wr C cap xs
  cB : w.heap.size ≤ C
  rB : ∀ g, row = some g → w.heap.size ≤ g
  kids : Stable w.heap.size wr (fun k => k = P ∨ k = D ∨ row = some k ∨ k = C) (fun w2 => Kids w2 xs items)
  size : (Ber.bodies items).length ≤ 20 * k
  few : xs.length ≤ k

/-- The loop's head, at most kq rounds to come. -/
def LoopInv (R A : Nat) (l : List UInt8) (i d c t : Nat) (len : Option Nat) (f : Nat) (r : Ber.Res) (w : World) (P D : Nat) (kq : Nat) (v9 v12 : Value) (wr : World) : Prop :=
  ∃ (k got : Nat) (row : Option Nat) (C cap : Nat) (xs : List Value) (items : List Ber.Pk), v9 = .int .i64 k ∧ v12 = .int .i64 got ∧ kq ≤ f ∧ Way R A l i c t w P D k got row C cap xs items wr ∧ Ber.kids kq d c t len got items (l.drop (i + k)) = r

/-- The loop's end: the packet stands. -/
theorem Way.done {N R A : Nat} {l : List UInt8} {i c t : Nat} {w : World} {P D k got : Nat} {row : Option Nat} {C cap : Nat} {xs : List Value} {items : List Ber.Pk} {wr : World}
    (h : Way R A l i c t w P D k got row C cap xs items wr) (hc : c < 4) (ht : t < 2 ^ 63) (hPB : w.heap.size ≤ P) (hDB : w.heap.size ≤ D) :
    PackOut N w.heap.size R A l i (.ok (.mk c true t [] items) (l.drop (i + k))) (.returned (.tuple #[.pointer (some ⟨P, 0, none⟩), .int .i64 k, .nilIface])) wr ∧ Keep w.heap.size R w wr := by
  refine ⟨⟨P, k, rfl, hPB, ?_, h.rd, rfl⟩, h.keep⟩
  intro w2 h2
  have hst : ∀ k, w.heap.size ≤ k → k < wr.heap.size → w2.heap[k]? = wr.heap[k]? := fun k h1 h3 => h2 k h1 h3 id
  unfold Tree
  refine ⟨D, row, C, cap, .slice none 0 0, xs, hc, by omega, ?_, h.hD.kept (hst D hDB h.hD.ltD) (fun g e => hst g (h.rB g e) (by have := h.hD; subst e; exact this.ltG)), h.hC.stays (hst C h.cB h.hC.lt), ?_, (fun e => by cases e), fun _ => rfl, h.kids w2 (fun k h1 h3 _ => hst k h1 h3)⟩
  · rw [hst P hPB (blockLt h.hP), h.hP]
    simp [valOf]
  · unfold BvAt
    rw [if_neg (by rintro ⟨_, h⟩; cases h)]

/-- A child has been read. -/
theorem Way.child {R A : Nat} {l : List UInt8} {i c t : Nat} {w : World} {P D k got : Nat} {row : Option Nat} {C cap : Nat} {xs : List Value} {items : List Ber.Pk} {wr w2 : World} {q k' : Nat} {p : Ber.Pk}
    (h : Way R A l i c t w P D k got row C cap xs items wr) (hRlt : R < w.heap.size) (hPB : w.heap.size ≤ P) (hDB : w.heap.size ≤ D)
    (hk : Keep wr.heap.size R wr w2) (hr : Rd w2 R A l (i + k + k')) (hs : Stable wr.heap.size w2 (fun _ => False) (fun w => Tree w q p)) :
    Way R A l i c t w P D (k + k') (got + k') row C cap xs items w2 ∧ Stable w.heap.size w2 (fun k => k = P ∨ k = D ∨ row = some k ∨ k = C) (fun w2 => Kids w2 (xs ++ [.pointer (some ⟨q, 0, none⟩)]) (items ++ [p])) := by
  have hsz := h.keep.size
  have hst : ∀ k, w.heap.size ≤ k → k < wr.heap.size → w2.heap[k]? = wr.heap[k]? := fun k h1 h2 => hk.block k h2 (by omega)
  have hkids : Stable w.heap.size w2 (fun k => k = P ∨ k = D ∨ row = some k ∨ k = C) (fun w2 => Kids w2 xs items) :=
    h.kids.only (Only.ofKeep hk) (fun i h1 _ h2 => by omega) (fun i _ h => h)
  refine ⟨⟨by have := h.le; omega, by rw [← Nat.add_assoc]; exact hr, h.keep.trans (hk.mono hsz), (hst P hPB (blockLt h.hP)).trans h.hP, h.hD.kept (hst D hDB h.hD.ltD) (fun g e => hst g (h.rB g e) (by have := h.hD; subst e; exact this.ltG)), h.hC.stays (hst C h.cB h.hC.lt), h.cB, h.rB, hkids, by have := h.size; omega, by have := h.few; omega⟩, ?_⟩
  refine (hkids.both (hs.widen hsz ?_)).imp fun w ⟨h1, h2⟩ => h1.snoc h2
  rintro k (rfl | rfl | h1 | rfl)
  · exact blockLt h.hP
  · exact h.hD.ltD
  · have := h.hD; subst h1; exact this.ltG
  · exact h.hC.lt

/-- .. and appended. -/
theorem Way.next {R A : Nat} {l : List UInt8} {i c t : Nat} {w : World} {P D k k' got : Nat} {row row' : Option Nat} {C cap C' cap' : Nat} {xs : List Value} {items : List Ber.Pk} {w2 w3 : World} {q : Nat} {p : Ber.Pk}
    (h : Way R A l i c t w P D (k + k') got row C cap xs items w2) (hRlt : R < w.heap.size) (hAlt : A < w.heap.size) (hPB : w.heap.size ≤ P) (hDB : w.heap.size ≤ D)
    (hk : Stable w.heap.size w2 (fun k => k = P ∨ k = D ∨ row = some k ∨ k = C) (fun w2 => Kids w2 (xs ++ [.pointer (some ⟨q, 0, none⟩)]) (items ++ [p])))
    (hP : w3.heap[P]? = some (.cells (PkCells ((c * 64 : Nat) : Int) 32 t .nilIface (.slice none 0 0) D (.slice (some ⟨C', 0, none⟩) (xs.length + 1) cap') (.string ⟨#[]⟩)) 78 (0, 0)))
    (hD : BufAt w3 D row' (Lib.byteCells (Ber.bodies items ++ Ber.enc p))) (hC : KidRow w3 C' cap' (xs ++ [.pointer (some ⟨q, 0, none⟩)]))
    (hr : row' = row ∨ ∃ g, row' = some g ∧ w2.heap.size ≤ g) (hcc : C' = C ∨ w2.heap.size ≤ C') (hf : Only (fun k => k = P ∨ k = D ∨ row = some k ∨ k = C) w2 w3)
    (hsz : (Ber.bodies items).length + (Ber.enc p).length ≤ 20 * (k + k')) (hfew : xs.length + 1 ≤ k + k') :
    Way R A l i c t w P D (k + k') got row' C' cap' (xs ++ [.pointer (some ⟨q, 0, none⟩)]) (items ++ [p]) w3 := by
  have hs := h.keep.size
  have hown : ∀ g, (g = P ∨ g = D ∨ row = some g ∨ g = C) → w.heap.size ≤ g := by
    rintro g (rfl | rfl | h1 | rfl)
    · exact hPB
    · exact hDB
    · exact h.rB g h1
    · exact h.cB
  have hst : ∀ g, g < w.heap.size → w3.heap[g]? = w2.heap[g]? := fun g hg => hf.block g (by omega) (fun e => by have := hown g e; omega)
  refine ⟨h.le, h.rd.stays (hst R hRlt) (hst A hAlt), h.keep.trans (hf.toKeep (fun g e => Or.inl (hown g e)) hs), by rw [List.length_append]; exact hP, by rw [Ber.bodies_append]; exact hD, hC, ?_, ?_, hk.only hf (fun i _ _ h => h) ?_, by rw [Ber.bodies_append, List.length_append]; exact hsz, by rw [List.length_append]; exact hfew⟩
  · rcases hcc with e | e
    · rw [e]; exact h.cB
    · omega
  · intro g e
    rcases hr with e2 | ⟨g', e2, e3⟩
    · exact h.rB g (by rw [← e2]; exact e)
    · rw [e2] at e; rw [← Option.some.inj e]; omega
  · rintro g hg (h1 | h1 | h1 | h1)
    · exact Or.inl h1
    · exact Or.inr (Or.inl h1)
    · rcases hr with e2 | ⟨g', e2, e3⟩
      · exact Or.inr (Or.inr (Or.inl (by rw [← e2]; exact h1)))
      · rw [e2] at h1; have := Option.some.inj h1; omega
    · rcases hcc with e | e
      · exact Or.inr (Or.inr (Or.inr (by rw [← e]; exact h1)))
      · omega
end Go.Proofs.YtdfehaonngccjaaDoor

