/- io.ReadAtLeast and readByte over a bytes.Reader. -/
import Derived.Test.YtjmahgefijncaaaGreatFmtJ10
import Derived.Deep.RegionWith
import Derived.Deep.RegionHeld3
import Derived.LaidEql
import Derived.Test.YtjmahgefijncaaaGreatFmtJ7
import Derived.Lib.ConvBytes
set_option linter.unusedVariables false
set_option linter.unusedSimpArgs false
namespace Go.Proofs.YtjmahgefijncaaaGreatFmt
open Go Go.RowKit

theorem nil_ahead_reader (a : Addr) (w : World) : (nilAhead 371 157 (.pointer (some a)) "Read").run Tryz.prog w = .ok (some false) w := by kernel_rfl
theorem method_reader (a : Addr) (w : World) : (method 371 157 (.pointer (some a)) "Read").run Tryz.prog w = .ok (189, .pointer (some a)) w := by kernel_rfl

set_option maxRecDepth 100000 in
theorem atLeast_end (w : World) (R A : Nat) (l : List UInt8) (h : Rd w R A l l.length) (hRE : 2 < R) (te : TypeId) (pe : Addr) (hE : w.cell? ⟨2, 0, none⟩ = some (.iface te (.pointer (some pe)))) (g c : Nat) :
    Calls Tryz.prog 158 #[.iface 157 (.pointer (some ⟨R, 0, none⟩)), .slice (some ⟨g, 0, none⟩) 1 c, .int .i64 1] w fun e w' => e = .returned (.tuple #[.int .i64 0, .iface te (.pointer (some pe))]) ∧ Keep w.heap.size R w w' ∧ Rd w' R A l l.length := by
  have hlt : 2 < w.heap.size := by have := h.lt; omega
  have hne : R ≠ 2 := by omega
  have hna := nil_ahead_reader
  have hme := method_reader
  go_enter Tryz.func158, Tryz.ntmps158
  go_wp2
  refine wp_loop_rounds 2 ?_
  rw [rounds_succ]
  go_wp2
  go_region_with ((go_at_call 189; refine (reader_end _ R A l h.drew _ hE hne hlt _ _ _ (by omega)).mono ?_; rintro e w1 ⟨rfl, hk, hr⟩))
  have hE1 : w1.cell? ⟨2, 0, none⟩ = some (.iface te (.pointer (some pe))) := (hk.cell hlt (fun e => hne e.symm)).trans hE
  go_wp2
  try rw [rounds_succ]
  go_wp2
  go_ret2
  exact ⟨rfl, ((Keep.refl _ R w).drew).trans hk, hr⟩

set_option maxRecDepth 100000 in
theorem atLeast_one (B : Nat) (w : World) (R A : Nat) (l : List UInt8) (i : Nat) (h : Rd w R A l i) (hi : i < l.length) (hB : B ≤ w.heap.size) (g : Nat) (x : Value) (hg : w.heap[g]? = some (.cells #[x] 5 (0, 0)))
    (hgB : B ≤ g) (hgR : g ≠ R) (hgA : g ≠ A) (c : Nat) :
    Calls Tryz.prog 158 #[.iface 157 (.pointer (some ⟨R, 0, none⟩)), .slice (some ⟨g, 0, none⟩) 1 c, .int .i64 1] w fun e w' =>
      e = .returned (.tuple #[.int .i64 1, .nilIface]) ∧ Keep B R w w' ∧ Rd w' R A l (i + 1) ∧ w'.heap[g]? = some (.cells #[.int .u8 (l[i]).toNat] 5 (0, 0)) ∧ w'.heap.size = w.heap.size := by
  have hna := nil_ahead_reader
  have hme := method_reader
  have hx : splice [x] 0 (Lib.byteCells ((l.drop i).take 1)) = [.int .u8 (l[i]).toNat] := by
    have : (l.drop i).take 1 = [l[i]] := by rw [List.drop_eq_getElem_cons hi]; rfl
    rw [this]; simp [splice, Lib.byteCells]
  have HX := Lib.hid hx
  clear hx
  go_enter Tryz.func158, Tryz.ntmps158
  go_wp2
  refine wp_loop_rounds 2 ?_
  rw [rounds_succ]
  go_wp2
  go_region_with ((go_at_call 189; refine (reader_some B _ R A l i h.drew hi hB g 0 1 c [x] hg hgB hgR hgA (by simp)).mono ?_; rintro e w1 ⟨rfl, hk, hr, hc, hz⟩; rw [show min 1 (l.length - i) = 1 by omega]))
  go_wp2
  try rw [rounds_succ]
  go_wp2
  go_ret2
  rw [show min 1 (l.length - i) = 1 by omega] at hr
  rw [HX.out] at hc
  exact ⟨rfl, ((Keep.refl B R w).drew).trans hk, hr, hc, hz⟩

theorem full_end (w : World) (R A : Nat) (l : List UInt8) (h : Rd w R A l l.length) (hRE : 2 < R) (te : TypeId) (pe : Addr) (hE : w.cell? ⟨2, 0, none⟩ = some (.iface te (.pointer (some pe)))) (g c : Nat) :
    Calls Tryz.prog 152 #[.iface 157 (.pointer (some ⟨R, 0, none⟩)), .slice (some ⟨g, 0, none⟩) 1 c] w fun e w' => e = .returned (.tuple #[.int .i64 0, .iface te (.pointer (some pe))]) ∧ Keep w.heap.size R w w' ∧ Rd w' R A l l.length := by
  go_enter Tryz.func152, Tryz.ntmps152
  go_wp2_with (go_at_call 158; refine (atLeast_end _ R A l h hRE _ _ hE _ _).mono ?_; rintro e w1 ⟨rfl, hk, hr⟩)
  go_ret2
  exact ⟨rfl, hk, hr⟩

theorem full_one (B : Nat) (w : World) (R A : Nat) (l : List UInt8) (i : Nat) (h : Rd w R A l i) (hi : i < l.length) (hB : B ≤ w.heap.size) (g : Nat) (x : Value) (hg : w.heap[g]? = some (.cells #[x] 5 (0, 0)))
    (hgB : B ≤ g) (hgR : g ≠ R) (hgA : g ≠ A) (c : Nat) :
    Calls Tryz.prog 152 #[.iface 157 (.pointer (some ⟨R, 0, none⟩)), .slice (some ⟨g, 0, none⟩) 1 c] w fun e w' =>
      e = .returned (.tuple #[.int .i64 1, .nilIface]) ∧ Keep B R w w' ∧ Rd w' R A l (i + 1) ∧ w'.heap[g]? = some (.cells #[.int .u8 (l[i]).toNat] 5 (0, 0)) ∧ w'.heap.size = w.heap.size := by
  go_enter Tryz.func152, Tryz.ntmps152
  go_wp2_with (go_at_call 158; refine (atLeast_one B _ R A l i h hi hB g x hg hgB hgR hgA _).mono ?_; rintro e w1 ⟨rfl, hk, hr, hc, hz⟩)
  go_ret2
  exact ⟨rfl, hk, hr, hc, hz⟩

theorem byte_end (w : World) (R A : Nat) (l : List UInt8) (h : Rd w R A l l.length) (hRE : 2 < R) (te : TypeId) (pe : Addr) (hE : w.cell? ⟨2, 0, none⟩ = some (.iface te (.pointer (some pe)))) :
    Calls Tryz.prog 144 #[.iface 157 (.pointer (some ⟨R, 0, none⟩))] w fun e w' => e = .returned (.tuple #[.int .u8 0, .iface te (.pointer (some pe))]) ∧ Keep w.heap.size R w w' ∧ Rd w' R A l l.length := by
  have hmk : ∀ w : World, (Instr.makeSlice 51 (.int .i64 1) (.int .i64 1)).run Tryz.prog w = .ok (.slice (some ⟨w.heap.size, 0, none⟩) 1 1) (w.alloc (.cells #[.int .u8 0] 5)) := fun _ => by kernel_rfl
  go_enter Tryz.func144, Tryz.ntmps144
  go_wp2_with (go_at_call 152; refine (full_end _ R A l (h.alloc _) hRE te pe (cell_alloc hE _) _ _).mono ?_; rintro e w1 ⟨rfl, hk, hr⟩)
  go_ret2
  exact ⟨rfl, ((Keep.refl _ R w).alloc (Nat.le_refl _) _).trans (hk.mono (by simp)), hr⟩

theorem byte_one (w : World) (R A : Nat) (l : List UInt8) (i : Nat) (h : Rd w R A l i) (hi : i < l.length) :
    Calls Tryz.prog 144 #[.iface 157 (.pointer (some ⟨R, 0, none⟩))] w fun e w' => e = .returned (.tuple #[.int .u8 (l[i]).toNat, .nilIface]) ∧ Keep w.heap.size R w w' ∧ Rd w' R A l (i + 1) := by
  have hmk : ∀ w : World, (Instr.makeSlice 51 (.int .i64 1) (.int .i64 1)).run Tryz.prog w = .ok (.slice (some ⟨w.heap.size, 0, none⟩) 1 1) (w.alloc (.cells #[.int .u8 0] 5)) := fun _ => by kernel_rfl
  have hR := h.lt
  have hA := h.ltA (by omega)
  go_enter Tryz.func144, Tryz.ntmps144
  go_wp2_with (go_at_call 152; refine (full_one w.heap.size _ R A l i (h.alloc _) hi (by simp) w.heap.size _ (heap_alloc_new w _) (Nat.le_refl _) (by omega) (by omega) _).mono ?_; rintro e w1 ⟨rfl, hk, hr, hc, hz⟩; have hcc := blockCell hc 0)
  go_ret2
  exact ⟨rfl, ((Keep.refl _ R w).alloc (Nat.le_refl _) _).trans hk, hr⟩
end Go.Proofs.YtjmahgefijncaaaGreatFmt

/- What the reading asks of package-level variables; what an error value is. -/
namespace Go.Proofs.YtjmahgefijncaaaGreatFmt
open Go Go.RowKit

/-- At a lies the text of an error made by errors.New: not empty. -/
def Sent (w : World) (a : Addr) : Prop :=
  ∃ (s : ByteArray) (c : Array Value) (t : TypeId), w.heap[a.block]? = some (.cells c t (0, 0)) ∧ w.cell? a = some (.string s) ∧ 0 < s.size ∧ s.size < 1000
theorem Sent.stays {w w' : World} {a : Addr} (h : Sent w a) (k : w'.heap[a.block]? = w.heap[a.block]?) : Sent w' a := by
  obtain ⟨s, c, t, h1, h2, h3⟩ := h
  exact ⟨s, c, t, k.trans h1, (World.cell?_of_block (w := w) k).trans h2, h3⟩
theorem Sent.lt {w : World} {a : Addr} (h : Sent w a) : a.block < w.heap.size := by obtain ⟨_, _, _, h1, _⟩ := h; exact blockLt h1

/-- An error made by errors.New whose text is not empty: it lies below block N, or from B on. -/
def ErrAt (N B : Nat) (w : World) (v : Value) : Prop :=
  ∃ a : Addr, v = .iface 144 (.pointer (some a)) ∧ (a.block < N ∨ B ≤ a.block) ∧ Sent w a

/-- io.EOF and io.ErrUnexpectedEOF hold such errors, below block number N. -/
structure Env (N : Nat) (w : World) : Prop where
  eof : ∃ a : Addr, w.cell? ⟨2, 0, none⟩ = some (.iface 144 (.pointer (some a))) ∧ a.block < N ∧ Sent w a
  ueof : ∃ a : Addr, w.cell? ⟨3, 0, none⟩ = some (.iface 144 (.pointer (some a))) ∧ a.block < N ∧ Sent w a
  few : 2 < N ∧ 3 < N

theorem Env.stays {N : Nat} {w w' : World} (h : Env N w) (k : ∀ b, b < N → w'.heap[b]? = w.heap[b]?) : Env N w' := by
  obtain ⟨⟨a, h1, h2, h3⟩, ⟨b, g1, g2, g3⟩, ⟨f1, f2⟩⟩ := h
  exact ⟨⟨a, (World.cell?_of_block (w := w) (k 2 f1)).trans h1, h2, h3.stays (k _ h2)⟩, ⟨b, (World.cell?_of_block (w := w) (k 3 f2)).trans g1, g2, g3.stays (k _ g2)⟩, ⟨f1, f2⟩⟩
theorem Env.keep {N B R : Nat} {w w' : World} (h : Env N w) (k : Keep B R w w') (hB : N ≤ B) (hR : N ≤ R) : Env N w' :=
  h.stays fun b hb => k.block b (by omega) (by omega)
theorem Env.below {N B : Nat} {w w' : World} (h : Env N w) (k : Below B w w') (hB : N ≤ B) : Env N w' :=
  h.stays fun b hb => k.block b (by omega)
theorem Env.drew {N : Nat} {w : World} (h : Env N w) : Env N w.drew := h.stays fun _ _ => rfl

theorem ErrAt.mono {N B B' : Nat} {w : World} {v : Value} (h : ErrAt N B w v) (hB : B' ≤ B) : ErrAt N B' w v := by
  obtain ⟨a, rfl, h2, h3⟩ := h
  exact ⟨a, rfl, by omega, h3⟩
theorem ErrAt.stays {N B : Nat} {w w' : World} {v : Value} (h : ErrAt N B w v) (k : ∀ b, b < w.heap.size → b < N ∨ B ≤ b → w'.heap[b]? = w.heap[b]?) : ErrAt N B w' v := by
  obtain ⟨a, rfl, h2, h3⟩ := h
  exact ⟨a, rfl, h2, h3.stays (k _ h3.lt h2)⟩
theorem ErrAt.keep {N B R : Nat} {w w' : World} {v : Value} (h : ErrAt N B w v) (k : Keep w.heap.size R w w') (hN : N ≤ R) (hB : R < B) : ErrAt N B w' v := h.stays fun b hb hr => k.block b hb (by omega)
theorem ErrAt.below {N B : Nat} {w w' : World} {v : Value} (h : ErrAt N B w v) (k : Below w.heap.size w w') : ErrAt N B w' v := h.stays fun b hb _ => k.block b hb
theorem ErrAt.alloc {N B : Nat} {w : World} {v : Value} (h : ErrAt N B w v) (o : Obj) : ErrAt N B (w.alloc o) v := h.stays fun b hb _ => Below.heap_alloc w o b hb
theorem ErrAt.setCell {N B : Nat} {w : World} {v : Value} (h : ErrAt N B w v) {p : Addr} (h1 : N ≤ p.block) (h2 : p.block < B) (u : Value) : ErrAt N B (w.setCell p u) v := h.stays fun b _ hr => Below.heap_setCell _ _ _ _ (by omega)
theorem ErrAt.drew {N B : Nat} {w : World} {v : Value} (h : ErrAt N B w v) : ErrAt N B w.drew v := h.stays fun _ _ _ => rfl
theorem ErrAt.iface {N B : Nat} {w : World} {v : Value} (h : ErrAt N B w v) : ∃ a, v = .iface 144 (.pointer (some a)) := by obtain ⟨a, h, _⟩ := h; exact ⟨a, h⟩
theorem Env.eofErr {N : Nat} {w : World} (h : Env N w) (B : Nat) : ∃ a, w.cell? ⟨2, 0, none⟩ = some (.iface 144 (.pointer (some a))) ∧ ErrAt N B w (.iface 144 (.pointer (some a))) := by
  obtain ⟨⟨a, h1, h2, h3⟩, _, _⟩ := h
  exact ⟨a, h1, a, rfl, Or.inl h2, h3⟩
theorem Env.ueofErr {N : Nat} {w : World} (h : Env N w) (B : Nat) : ∃ a, w.cell? ⟨3, 0, none⟩ = some (.iface 144 (.pointer (some a))) ∧ ErrAt N B w (.iface 144 (.pointer (some a))) := by
  obtain ⟨_, ⟨a, h1, h2, h3⟩, _⟩ := h
  exact ⟨a, h1, a, rfl, Or.inl h2, h3⟩

/-- errors.New. -/
theorem new_any (s : ByteArray) (w : World) :
    Calls Tryz.prog 69 #[.string s] w fun e w' => e = .returned (.iface 144 (.pointer (some ⟨w.heap.size, 0, none⟩))) ∧ w.alloc (.cells #[.string s] 146) = w' := by
  go_enter Tryz.func69, Tryz.ntmps69
  go_wp2
  go_ret
  exact ⟨rfl, rfl⟩
theorem new_err (s : ByteArray) (hs : 0 < s.size) (hs2 : s.size < 1000) (N : Nat) (w : World) :
    Calls Tryz.prog 69 #[.string s] w fun e w' => ∃ ev, e = .returned ev ∧ ErrAt N w.heap.size w' ev ∧ Below w.heap.size w w' := by
  refine (new_any s w).mono fun e w' ⟨he, hw⟩ => ⟨_, he, ?_, by rw [← hw]; exact (Below.refl _ w).alloc (Nat.le_refl _) _⟩
  have hb := heap_alloc_new w (.cells #[.string s] 146)
  rw [hw] at hb
  exact ⟨⟨w.heap.size, 0, none⟩, rfl, Or.inr (Nat.le_refl _), s, _, _, hb, blockCell hb 0, hs, hs2⟩

theorem eql_other {w : World} {a b : Addr} (ha : Sent w a) (hb : Sent w b) (hne : a ≠ b) :
    (binOp .eql 83 (.iface 144 (.pointer (some a))) (.iface 144 (.pointer (some b)))).run Tryz.prog w = .ok (.bool false) w := by
  obtain ⟨_, c, t, h1, _⟩ := ha
  obtain ⟨_, d, u, h2, _⟩ := hb
  obtain ⟨i, hi, hcmp⟩ := Option.map_eq_some_iff.1 (show (Tryz.prog.info? 144).map (·.comparable) = some true by kernel_rfl)
  obtain ⟨j, hj, hjs⟩ := Option.map_eq_some_iff.1 (show (Tryz.prog.info? 146).map (·.size) = some 1 by kernel_rfl)
  exact run_eql_iface_ptr_other w Tryz.underlying83 Tryz.underlying144 hi hcmp hj (by rw [hjs]; decide) hne h1 h2
theorem eql_same (w : World) (a : Addr) :
    (binOp .eql 83 (.iface 144 (.pointer (some a))) (.iface 144 (.pointer (some a)))).run Tryz.prog w = .ok (.bool true) w := by
  obtain ⟨i, hi, hcmp⟩ := Option.map_eq_some_iff.1 (show (Tryz.prog.info? 144).map (·.comparable) = some true by kernel_rfl)
  obtain ⟨j, hj, hjs⟩ := Option.map_eq_some_iff.1 (show (Tryz.prog.info? 146).map (·.size) = some 1 by kernel_rfl)
  exact run_eql_iface_ptr_same w a Tryz.underlying83 Tryz.underlying144 hi hcmp hj

set_option maxRecDepth 100000 in
/-- unexpectedEOF: an error stays one. -/
theorem uneof_any (N B : Nat) (w : World) (hE : Env N w) (v : Value) (hv : ErrAt N B w v) :
    Calls Tryz.prog 118 #[v] w fun e w' => ∃ ev, e = .returned ev ∧ ErrAt N B w' ev ∧ w = w' := by
  obtain ⟨b, hb, hbe⟩ := hE.eofErr B
  obtain ⟨c, hc, hce⟩ := hE.ueofErr B
  obtain ⟨a, rfl, haR, ha⟩ := id hv
  have HV := Lib.hid hv
  have HB := Lib.hid hbe
  have HC := Lib.hid hce
  by_cases hab : a = b
  · subst hab
    have he := eql_same w a
    clear ha hv hbe hce
    have h1 : Calls Tryz.prog 118 #[.iface 144 (.pointer (some a))] w fun e w' => e = .returned (.iface 144 (.pointer (some c))) ∧ w = w' := by
      go_enter Tryz.func118, Tryz.ntmps118
      go_wp2
      go_ret
      exact ⟨rfl, rfl⟩
    exact h1.mono fun e w' ⟨he, hw⟩ => by subst hw; exact ⟨_, he, HC.out, rfl⟩
  · obtain ⟨b', eb, _, hbs⟩ := hbe
    obtain rfl : b = b' := by injection eb with _ e2; injection e2 with e3; exact Option.some.inj e3
    have he := eql_other ha hbs hab
    clear ha hv hbs hce eb
    have h1 : Calls Tryz.prog 118 #[.iface 144 (.pointer (some a))] w fun e w' => e = .returned (.iface 144 (.pointer (some a))) ∧ w = w' := by
      go_enter Tryz.func118, Tryz.ntmps118
      go_wp2
      go_ret
      exact ⟨rfl, rfl⟩
    exact h1.mono fun e w' ⟨he, hw⟩ => by subst hw; exact ⟨_, he, HV.out, rfl⟩
end Go.Proofs.YtjmahgefijncaaaGreatFmt

/- What readPacket makes of bytes, as a plain function; no program in sight. -/
namespace Go.Proofs.YtjmahgefijncaaaGreatFmt.Ber

/-- A packet: its class (0 to 3), whether it is constructed, its tag, its bytes, its packets. -/
inductive Pk where
  | mk (cls : Nat) (built : Bool) (tag : Nat) (data : List UInt8) (items : List Pk)

/-- The tag behind an identifier byte that ends in 31: k bytes were read, acc is what they say. -/
def high : List UInt8 → Nat → Nat → Option (Nat × List UInt8)
  | [], _, _ => none
  | b :: s, acc, k =>
    if k = 0 ∧ b.toNat % 128 = 0 then none
    else if 9 ≤ k then none
    else if b.toNat < 128 then some (acc * 128 + b.toNat % 128, s) else high s (acc * 128 + b.toNat % 128) (k + 1)

def ident : List UInt8 → Option (Nat × Bool × Nat × List UInt8)
  | [] => none
  | b :: s =>
    if b.toNat % 32 = 31 then (high s 0 0).map fun r => (b.toNat / 64, decide (b.toNat / 32 % 2 = 1), r.1, r.2)
    else some (b.toNat / 64, decide (b.toNat / 32 % 2 = 1), b.toNat % 32, s)

def be (l : List UInt8) : Nat := l.foldl (fun a b => a * 256 + b.toNat) 0

/-- A length: none within: indefinite. -/
def lenOf : List UInt8 → Option (Option Nat × List UInt8)
  | [] => none
  | b :: s =>
    if b.toNat = 255 then none
    else if b.toNat = 128 then some (none, s)
    else if b.toNat < 128 then some (some b.toNat, s)
    else if 8 < b.toNat - 128 then none
    else if s.length < b.toNat - 128 then none
    else if 2 ^ 63 ≤ be (s.take (b.toNat - 128)) then none
    else some (some (be (s.take (b.toNat - 128))), s.drop (b.toNat - 128))

def header (s : List UInt8) : Option (Nat × Bool × Nat × Option Nat × List UInt8) :=
  match ident s with
  | none => none
  | some (c, b, t, s1) =>
    match lenOf s1 with
    | none => none
    | some (len, s2) => if len = none ∧ b = false then none else some (c, b, t, len, s2)

/-- The sevens of bits of a tag, the high ones first, all but the last marked. -/
def tagMore : Nat → Nat → List UInt8
  | 0, _ => []
  | f + 1, n => if n = 0 then [] else tagMore f (n / 128) ++ [UInt8.ofNat (n % 128 + 128)]
def tagBytes (n : Nat) : List UInt8 := if n = 0 then [] else tagMore 10 (n / 128) ++ [UInt8.ofNat (n % 128)]
def identBytes (c : Nat) (b : Bool) (t : Nat) : List UInt8 :=
  if t < 31 then [UInt8.ofNat (c * 64 + (if b then 32 else 0) + t)] else UInt8.ofNat (c * 64 + (if b then 32 else 0) + 31) :: tagBytes t
def digits : Nat → Nat → List UInt8
  | 0, _ => []
  | f + 1, n => if n < 256 then [UInt8.ofNat n] else digits f (n / 256) ++ [UInt8.ofNat (n % 256)]
def lenBytes (n : Nat) : List UInt8 := if n < 128 then [UInt8.ofNat n] else UInt8.ofNat (128 + (digits 8 n).length) :: digits 8 n

mutual
def body : Pk → List UInt8
  | .mk _ b _ data items => if b then bodies items else data
def bodies : List Pk → List UInt8
  | [] => []
  | .mk c b t data items :: r => (identBytes c b t ++ (lenBytes (body (.mk c b t data items)).length ++ body (.mk c b t data items))) ++ bodies r
end
def enc : Pk → List UInt8
  | .mk c b t data items => identBytes c b t ++ (lenBytes (body (.mk c b t data items)).length ++ body (.mk c b t data items))

/-- bad: nothing is said; err: refused; ok: a packet and the rest. -/
inductive Res where
  | bad
  | err
  | ok (p : Pk) (rest : List UInt8)

/-- Primitive ones of whose values something is said. -/
def known (c t : Nat) : Bool := !decide (c = 0) || decide (t = 0) || decide (t = 1) || decide (t = 2) || decide (t = 4) || decide (t = 5) || decide (t = 10)

def prim (c t n : Nat) (s : List UInt8) : Res :=
  if n = 0 then (if known c t then .ok (.mk c false t [] []) s else .bad)
  else if 480 < n ∧ 480 < s.length then .bad
  else if s.length < n then .err
  else if known c t then .ok (.mk c false t (s.take n) []) (s.drop n) else .bad

def isEOC : Pk → Bool
  | .mk c b t data _ => decide (c = 0) && !b && decide (t = 0) && data.isEmpty

mutual
def readP : Nat → Nat → List UInt8 → Res
  | 0, _, _ => .bad
  | f + 1, d, s =>
    if 1000 ≤ d then .err else
    match header s with
    | none => .err
    | some (_, false, _, none, _) => .err
    | some (c, true, t, none, s1) => kids f d c t none 0 [] s1
    | some (c, b, t, some n, s1) => if 2147483647 < n then .err else if b then kids f d c t (some n) 0 [] s1 else prim c t n s1
def kids : Nat → Nat → Nat → Nat → Option Nat → Nat → List Pk → List UInt8 → Res
  | 0, _, _, _, _, _, _, _ => .bad
  | f + 1, d, c, t, len, got, items, s =>
    if len = some got then .ok (.mk c true t [] items) s
    else if len.any (fun n => decide (n < got)) then .err
    else match readP f (d + 1) s with
      | .bad => .bad
      | .err => .err
      | .ok p rest =>
        if 2147483647 < got + (s.length - rest.length) then .err
        else if isEOC p then (if len = none then .ok (.mk c true t [] items) rest else .err)
        else kids f d c t len (got + (s.length - rest.length)) (items ++ [p]) rest
end
end Go.Proofs.YtjmahgefijncaaaGreatFmt.Ber

/- Small facts on blocks and three stores. -/
namespace Go.Proofs.YtjmahgefijncaaaGreatFmt
open Go Go.RowKit

theorem three_other {w : World} {g k : Nat} (h : k ≠ g) (a b c : Value) :
    (((w.setCell ⟨g, 0, none⟩ a).setCell ⟨g, 1, none⟩ b).setCell ⟨g, 2, none⟩ c).heap[k]? = w.heap[k]? := by
  rw [Below.heap_setCell _ _ _ _ h, Below.heap_setCell _ _ _ _ h, Below.heap_setCell _ _ _ _ h]
theorem three_keep {w0 w : World} {B R g : Nat} (h : Keep B R w0 w) (hg : B ≤ g) (a b c : Value) :
    Keep B R w0 (((w.setCell ⟨g, 0, none⟩ a).setCell ⟨g, 1, none⟩ b).setCell ⟨g, 2, none⟩ c) :=
  ((h.setCell (Or.inl hg) a).setCell (Or.inl hg) b).setCell (Or.inl hg) c
theorem Rd.three {w : World} {R A : Nat} {l : List UInt8} {i g : Nat} (h : Rd w R A l i) (hR : R ≠ g) (hA : A ≠ g) (a b c : Value) :
    Rd (((w.setCell ⟨g, 0, none⟩ a).setCell ⟨g, 1, none⟩ b).setCell ⟨g, 2, none⟩ c) R A l i :=
  h.stays (three_other hR _ _ _) (three_other hA _ _ _)

def tagValue (c : Nat) (b : Bool) (t : Nat) : Value := .agg #[.int .u8 ((c * 64 : Nat) : Int), .int .u8 (if b then 32 else 0), .int .u64 (t : Int)]
def noTag : Value := .agg #[.int .u8 0, .int .u8 0, .int .u64 0]
theorem tagValue_eq (n t : Nat) : Value.agg #[.int .u8 ((n : Int) / 64 * 64), .int .u8 ((n : Int) / 32 % 2 * 32), .int .u64 (t : Int)] = tagValue (n / 64) (decide (n / 32 % 2 = 1)) t := by
  have h : ((n : Int) / 32 % 2 * 32) = if decide (n / 32 % 2 = 1) = true then 32 else 0 := by
    by_cases h : n / 32 % 2 = 1
    · simp only [h, decide_true, if_true]; omega
    · simp only [h, decide_false]; simp; omega
  rw [h]; simp [tagValue]
end Go.Proofs.YtjmahgefijncaaaGreatFmt

/- readLength. -/
namespace Go.Proofs.YtjmahgefijncaaaGreatFmt
open Go Go.RowKit

def lenInt : Option Nat → Int
  | none => -1
  | some n => n

/-- What readLength comes to. -/
def LenOut (N B R A : Nat) (l : List UInt8) (i : Nat) (e : Ending) (w' : World) : Prop :=
  match Ber.lenOf (l.drop i) with
  | none => ∃ a b ev, e = .returned (.tuple #[.int .i64 a, .int .i64 b, ev]) ∧ ErrAt N B w' ev
  | some (len, rest) => ∃ k : Nat, e = .returned (.tuple #[.int .i64 (lenInt len), .int .i64 k, .nilIface]) ∧ Rd w' R A l (i + k) ∧ rest = l.drop (i + k)

theorem and128u8 {x : Nat} (h : x < 256) : bits .and .u8 (x : Int) 128 = ((x / 128 * 128 : Nat) : Int) := by
  have e := bits_nat .u8 8 (by decide) wraps_u8 x 128 (by omega) (by omega)
  have k : ∀ y, y < 256 → y &&& 128 = y / 128 * 128 := by decide +kernel
  rw [← k x h]; exact e.1
theorem wraps_i64 (n : Int) (h₀ : 0 ≤ n) (h₁ : n < 2 ^ 63) : IntKind.i64.wrap n = n := by rw [IntKind.wrap_i64]; omega
theorem and127i {x : Nat} (h : x < 256) : bits .and .i64 (x : Int) 127 = ((x % 128 : Nat) : Int) := by
  have := bits_mask .i64 63 (by decide) wraps_i64 7 (by decide) (x : Int) (by omega) (by omega)
  simpa using this

theorem len_end (N : Nat) (w : World) (R A : Nat) (l : List UInt8) (h : Rd w R A l l.length) (hE : Env N w) (hN : N ≤ R) :
    Calls Tryz.prog 135 #[.iface 157 (.pointer (some ⟨R, 0, none⟩))] w fun e w' => LenOut N w.heap.size R A l l.length e w' ∧ Keep w.heap.size R w w' := by
  obtain ⟨a, ha, hae⟩ := hE.eofErr w.heap.size
  go_enter Tryz.func135, Tryz.ntmps135
  go_wp2_with fail
  refine (byte_end _ R A l h (by have := hE.few; omega) _ a ha).mono ?_
  rintro e w1 ⟨rfl, hb, _⟩
  go_wp2_with fail
  refine (uneof_any N w.heap.size w1 (hE.keep hb (by have := h.lt; omega) hN) _ (hae.keep hb hN h.lt)).mono ?_
  rintro e w2 ⟨ev, rfl, hev, rfl⟩
  go_wp2
  go_ret3
  refine ⟨?_, hb⟩
  unfold LenOut
  rw [show l.drop l.length = [] by simp]
  exact ⟨_, _, ev, rfl, hev⟩

/-- The short forms. -/
theorem len_short (N : Nat) (w : World) (R A : Nat) (l : List UInt8) (i : Nat) (h : Rd w R A l i) (hi : i < l.length) (hv : (l[i]).toNat ≤ 128 ∨ (l[i]).toNat = 255 ∨ 8 < (l[i]).toNat - 128) :
    Calls Tryz.prog 135 #[.iface 157 (.pointer (some ⟨R, 0, none⟩))] w fun e w' => LenOut N w.heap.size R A l i e w' ∧ Keep w.heap.size R w w' := by
  have hb256 : (l[i]).toNat < 256 := (l[i]).toNat_lt
  have e1 := and128u8 hb256
  have e2 := and127i hb256
  have hd : l.drop i = l[i] :: l.drop (i + 1) := List.drop_eq_getElem_cons hi
  have HD := Lib.hid hd
  clear hd
  by_cases h255 : (l[i]).toNat = 255
  · have t1 : (((l[i]).toNat : Int) == 255) = true := by rw [beq_iff_eq]; omega
    have H255 := Lib.hid h255
    clear h255 hv
    go_enter Tryz.func135, Tryz.ntmps135
    go_wp2_with fail
    refine (byte_one _ R A l i h hi).mono ?_
    rintro e w1 ⟨rfl, hk, hr⟩
    go_wp2_with fail
    refine (new_err _ (by decide) (by decide) N _).mono ?_
    rintro e w3 ⟨ev, rfl, hev, hb3⟩
    go_wp2
    go_ret3
    refine ⟨?_, hk.trans (Keep.ofBelow (hb3.mono hk.size))⟩
    unfold LenOut
    rw [HD.out]; simp only [Ber.lenOf]; rw [if_pos H255.out]
    exact ⟨_, _, ev, rfl, hev.mono hk.size⟩
  · have t1 : (((l[i]).toNat : Int) == 255) = false := by rw [beq_eq_false_iff_ne]; omega
    by_cases h128 : (l[i]).toNat = 128
    · have t2 : (((l[i]).toNat : Int) == 128) = true := by rw [beq_iff_eq]; omega
      have H255 := Lib.hid h255
      have H128 := Lib.hid h128
      clear h255 h128 hv
      go_enter Tryz.func135, Tryz.ntmps135
      go_wp2_with fail
      refine (byte_one _ R A l i h hi).mono ?_
      rintro e w1 ⟨rfl, hk, hr⟩
      go_wp2
      go_ret3
      refine ⟨?_, hk⟩
      unfold LenOut
      rw [HD.out]; simp only [Ber.lenOf]; rw [if_neg H255.out, if_pos H128.out]
      exact ⟨1, rfl, hr, rfl⟩
    · have t2 : (((l[i]).toNat : Int) == 128) = false := by rw [beq_eq_false_iff_ne]; omega
      by_cases hlo : (l[i]).toNat < 128
      · have t3 : (((l[i]).toNat : Int) / 128 * 128 == 0) = true := by rw [beq_iff_eq]; omega
        have H255 := Lib.hid h255
        have H128 := Lib.hid h128
        clear h255 h128 hv
        go_enter Tryz.func135, Tryz.ntmps135
        go_wp2_with fail
        refine (byte_one _ R A l i h hi).mono ?_
        rintro e w1 ⟨rfl, hk, hr⟩
        go_wp2
        go_ret3
        refine ⟨?_, hk⟩
        unfold LenOut
        rw [HD.out]; simp only [Ber.lenOf]; rw [if_neg H255.out, if_neg H128.out, if_pos hlo]
        exact ⟨1, by simp [lenInt]; omega, hr, rfl⟩
      · have t3 : (((l[i]).toNat : Int) / 128 * 128 == 0) = false := by rw [beq_eq_false_iff_ne]; omega
        have t4 : (((l[i]).toNat : Int) / 128 * 128 != 0) = true := by rw [bne_iff_ne]; omega
        have h8 : 8 < ((l[i]).toNat : Int) % 128 := by omega
        have H255 := Lib.hid h255
        have H128 := Lib.hid h128
        have H8 : Hid (8 < (l[i]).toNat - 128) := by show 8 < _; omega
        clear h255 h128 hv
        go_enter Tryz.func135, Tryz.ntmps135
        go_wp2_with fail
        refine (byte_one _ R A l i h hi).mono ?_
        rintro e w1 ⟨rfl, hk, hr⟩
        go_wp2_with fail
        refine (new_err _ (by decide) (by decide) N _).mono ?_
        rintro e w3 ⟨ev, rfl, hev, hb3⟩
        go_wp2
        go_ret3
        refine ⟨?_, hk.trans (Keep.ofBelow (hb3.mono hk.size))⟩
        unfold LenOut
        rw [HD.out]; simp only [Ber.lenOf]; rw [if_neg H255.out, if_neg H128.out, if_neg hlo, if_pos H8.out]
        exact ⟨_, _, ev, rfl, hev.mono hk.size⟩
end Go.Proofs.YtjmahgefijncaaaGreatFmt

/- readLength, the long forms; every input. -/
namespace Go.Proofs.YtjmahgefijncaaaGreatFmt
open Go Go.RowKit

theorem be_snoc (l : List UInt8) (b : UInt8) : Ber.be (l ++ [b]) = Ber.be l * 256 + b.toNat := by simp [Ber.be]
theorem be_lt : ∀ (n : Nat) (l : List UInt8), l.length = n → Ber.be l < 256 ^ n := by
  intro n
  induction n with
  | zero => intro l h; obtain rfl := List.eq_nil_of_length_eq_zero h; decide
  | succ n ih =>
    intro l h
    obtain ⟨m, b, rfl⟩ : ∃ m b, l = m ++ [b] := ⟨l.dropLast, l.getLast (by intro e; subst e; simp at h), (List.dropLast_concat_getLast _).symm⟩
    have := ih m (by simp at h; exact h)
    have hb := b.toNat_lt
    rw [be_snoc, Nat.pow_succ]; omega
theorem or_low8 {x y : Nat} (hx : x % 256 = 0) (hxl : x < 2 ^ 64) (hy : y < 256) : bits .or .u64 (x : Int) (y : Int) = ((x + y : Nat) : Int) := by
  have := bits_join .u64 64 (by decide) wraps_u64 8 (x : Int) (y : Int) (by omega) (by omega) (by omega) (by omega) (by omega) (by omega)
  simpa using this
theorem or_step8 {acc v k : Nat} (hacc : acc < 256 ^ k) (hk : k ≤ 7) (hv : v < 256) : bits .or .u64 (IntKind.u64.wrap ((acc : Int) * 256)) (v : Int) = (acc : Int) * 256 + (v : Int) := by
  have h56 : acc < 256 ^ 7 := Nat.lt_of_lt_of_le hacc (Nat.pow_le_pow_right (by decide) (by omega))
  have hw : IntKind.u64.wrap ((acc : Int) * 256) = ((acc * 256 : Nat) : Int) := by rw [wraps_u64 _ (by omega) (by omega)]; omega
  rw [hw, or_low8 (by omega) (by omega) hv]; omega

/-- The round's head: j bytes of the length are read. -/
def LenInv (R A : Nat) (l : List UInt8) (i kb : Nat) (w : World) (t3 t7 t8 : Value) (wr : World) : Prop :=
  ∃ j acc : Nat, j ≤ kb ∧ t8 = .int .i64 j ∧ t3 = .int .i64 ((j + 1 : Nat) : Int) ∧ t7 = .int .u64 acc ∧ acc = Ber.be ((l.drop (i + 1)).take j) ∧ Rd wr R A l (i + 1 + j) ∧ Keep w.heap.size R w wr

theorem wrap_low {n : Nat} (h : n < 2 ^ 63) : wrap64 (n : Int) = (n : Int) := by unfold wrap64; omega
theorem wrap_high {n : Nat} (h : 2 ^ 63 ≤ n) (h2 : n < 2 ^ 64) : ∃ m : Int, wrap64 (n : Int) = m ∧ m < 0 := ⟨_, rfl, by unfold wrap64; omega⟩
theorem wrap_u {n : Nat} (h : n < 2 ^ 64) : IntKind.u64.wrap (n : Int) = (n : Int) := wraps_u64 _ (by omega) (by omega)

set_option maxHeartbeats 4000000 in
theorem len_long (N : Nat) (w : World) (R A : Nat) (l : List UInt8) (i : Nat) (h : Rd w R A l i) (hi : i < l.length) (hE : Env N w) (hN : N ≤ R) (h1 : 128 < (l[i]).toNat) (h2 : (l[i]).toNat ≤ 136) :
    Calls Tryz.prog 135 #[.iface 157 (.pointer (some ⟨R, 0, none⟩))] w fun e w' => LenOut N w.heap.size R A l i e w' ∧ Keep w.heap.size R w w' := by
  have hb256 : (l[i]).toNat < 256 := (l[i]).toNat_lt
  have hR := h.lt
  have hlen := h.len
  have e1 := and128u8 hb256
  have e2 := and127i hb256
  have t1 : (((l[i]).toNat : Int) == 255) = false := by rw [beq_eq_false_iff_ne]; omega
  have t2 : (((l[i]).toNat : Int) == 128) = false := by rw [beq_eq_false_iff_ne]; omega
  have t3 : (((l[i]).toNat : Int) / 128 * 128 == 0) = false := by rw [beq_eq_false_iff_ne]; omega
  have t4 : (((l[i]).toNat : Int) / 128 * 128 != 0) = true := by rw [bne_iff_ne]; omega
  have hd : l.drop i = l[i] :: l.drop (i + 1) := List.drop_eq_getElem_cons hi
  have hlo : Ber.lenOf (l.drop i) = if (l.drop (i + 1)).length < (l[i]).toNat - 128 then none else if 2 ^ 63 ≤ Ber.be ((l.drop (i + 1)).take ((l[i]).toNat - 128)) then none else some (some (Ber.be ((l.drop (i + 1)).take ((l[i]).toNat - 128))), (l.drop (i + 1)).drop ((l[i]).toNat - 128)) := by
    rw [hd]; simp only [Ber.lenOf]; rw [if_neg (by omega), if_neg (by omega), if_neg (by omega), if_neg (by omega)]
  have HLO := Lib.hid hlo
  clear hlo hd
  obtain ⟨kb, hkb⟩ : ∃ kb, kb = (l[i]).toNat - 128 := Exists.intro ((l[i]).toNat - 128) (Eq.refl _)
  have hkm : ((l[i]).toNat : Int) % 128 = (kb : Int) := by omega
  have hkb8 : kb ≤ 8 := by omega
  have hkb0 : 0 < kb := by omega
  have HKB := Lib.hid hkb
  clear hkb
  go_enter Tryz.func135, Tryz.ntmps135
  go_wp2_with fail
  refine (byte_one _ R A l i h hi).mono ?_
  rintro e w1 ⟨rfl, hk, hr⟩
  go_wp2_with fail
  go_loopw [3, 7, 8] (fun t3 t7 t8 wr => LenInv R A l i kb w t3 t7 t8 wr) (fun _ _ t8 _ => kb - (intOf t8).toNat)
  case atStart => exact ⟨0, 0, by omega, rfl, rfl, rfl, by simp [Ber.be], hr, hk⟩
  case round =>
    obtain ⟨j, acc, hj, rfl, rfl, rfl, hacc, hrr, hkp⟩ := hrel
    have HACC := Lib.hid hacc
    clear hacc
    have hszp := hkp.size
    by_cases hjk : j < kb
    · by_cases hend : i + 1 + j = l.length
      · have hE' := hE.keep hkp (by omega) hN
        obtain ⟨a, ha, hae⟩ := hE'.eofErr w.heap.size
        have hr' : Rd wr R A l l.length := hend ▸ hrr
        have HE := Lib.hid hE'
        clear hrr hE'
        go_wp2_with fail
        refine (byte_end _ R A l hr' (by have := hE.few; omega) _ a ha).mono ?_
        rintro e w2 ⟨rfl, hb, _⟩
        go_wp2_with fail
        refine (uneof_any N w.heap.size w2 (HE.out.keep hb (by omega) hN) _ (hae.keep hb hN (by omega))).mono ?_
        rintro e w3 ⟨ev, rfl, hev, rfl⟩
        go_wp2
        go_ret3
        refine ⟨?_, hkp.trans (hb.mono hszp)⟩
        unfold LenOut
        rw [HLO.out, if_pos (by rw [List.length_drop, ← HKB.out]; omega)]
        exact ⟨_, _, ev, rfl, hev⟩
      · have hlt : i + 1 + j < l.length := by have := hrr.pos; omega
        have hv256 : (l[i + 1 + j]).toNat < 256 := (l[i + 1 + j]).toNat_lt
        have hO := or_step8 (acc := acc) (k := j) (by rw [HACC.out]; exact be_lt _ _ (by simp; omega)) (by omega) hv256
        have hnx : acc * 256 + (l[i + 1 + j]).toNat = Ber.be ((l.drop (i + 1)).take (j + 1)) := by
          have e1 : (l.drop (i + 1)).take (j + 1) = (l.drop (i + 1)).take j ++ [l[i + 1 + j]] := by
            rw [List.take_add_one]; simp [List.getElem?_eq_getElem hlt]
          rw [e1, be_snoc, HACC.out]
        have HNX := Lib.hid hnx
        clear hnx
        go_wp2_with fail
        refine (byte_one _ R A l _ hrr hlt).mono ?_
        rintro e w2 ⟨rfl, hk2, hr2⟩
        go_wp2
        go_roundw
        case rel => exact ⟨j + 1, acc * 256 + (l[i + 1 + j]).toNat, by omega, by go_num, by go_num, by go_num, HNX.out, hr2, hkp.trans (hk2.mono hszp)⟩
        case measure => simp [intOf]; omega
    · obtain rfl : j = kb := by omega
      have hlt64 : acc < 2 ^ 64 := by rw [HACC.out]; exact Nat.lt_of_lt_of_le (be_lt _ _ rfl) (by rw [show (2 : Nat) ^ 64 = 256 ^ 8 by decide]; exact Nat.pow_le_pow_right (by decide) (by simp; omega))
      have hlen2 : j ≤ (l.drop (i + 1)).length := by have := hrr.pos; rw [List.length_drop]; omega
      have hwu := wrap_u hlt64
      by_cases h63 : acc < 2 ^ 63
      · have hwl := wrap_low h63
        have H63 := Lib.hid h63
        clear h63 hlt64
        go_wp2
        go_ret3
        refine ⟨?_, hkp⟩
        unfold LenOut
        rw [HLO.out, ← HKB.out, if_neg (by omega), ← HACC.out, if_neg (Nat.not_le.2 H63.out)]
        exact ⟨j + 1, by simp [lenInt], by rw [show i + (j + 1) = i + 1 + j by omega]; exact hrr, by rw [List.drop_drop]; congr 1; omega⟩
      · obtain ⟨m, hm, hneg⟩ := wrap_high (Nat.not_lt.1 h63) hlt64
        have H63 := Lib.hid h63
        clear h63 hlt64
        go_wp2_with fail
        refine (new_err _ (by decide) (by decide) N _).mono ?_
        rintro e w3 ⟨ev, rfl, hev, hb3⟩
        go_wp2
        go_ret3
        refine ⟨?_, hkp.trans (Keep.ofBelow (hb3.mono hszp))⟩
        unfold LenOut
        rw [HLO.out, ← HKB.out, if_neg (by omega), ← HACC.out, if_pos (Nat.not_lt.1 H63.out)]
        exact ⟨_, _, ev, rfl, hev.mono hszp⟩

theorem len_any (N : Nat) (w : World) (R A : Nat) (l : List UInt8) (i : Nat) (h : Rd w R A l i) (hE : Env N w) (hN : N ≤ R) :
    Calls Tryz.prog 135 #[.iface 157 (.pointer (some ⟨R, 0, none⟩))] w fun e w' => LenOut N w.heap.size R A l i e w' ∧ Keep w.heap.size R w w' := by
  have hp := h.pos
  by_cases hi : i < l.length
  · by_cases hv : (l[i]).toNat ≤ 128 ∨ (l[i]).toNat = 255 ∨ 8 < (l[i]).toNat - 128
    · exact len_short N w R A l i h hi hv
    · exact len_long N w R A l i h hi hE hN (by omega) (by omega)
  · obtain rfl : i = l.length := by omega
    exact len_end N w R A l h hE hN
end Go.Proofs.YtjmahgefijncaaaGreatFmt

/- Small callees: LimitReader, ParseInt64, DecodeString, isEOCPacket. -/
namespace Go.Proofs.YtjmahgefijncaaaGreatFmt
open Go Go.RowKit

theorem limit_any (w : World) (R : Nat) (n : Int) :
    Calls Tryz.prog 122 #[.iface 157 (.pointer (some ⟨R, 0, none⟩)), .int .i64 n] w fun e w' => e = .returned (.iface 213 (.pointer (some ⟨w.heap.size, 0, none⟩))) ∧ w.alloc (.cells #[.iface 157 (.pointer (some ⟨R, 0, none⟩)), .int .i64 n] 215) = w' := by
  go_enter Tryz.func122, Tryz.ntmps122
  go_wp2
  go_ret
  exact ⟨rfl, rfl⟩

theorem or_step_i {acc v : Nat} (hacc : acc < 256 ^ 7) (hv : v < 256) : bits .or .i64 (wrap64 ((acc : Int) * 256)) (v : Int) = wrap64 ((acc : Int) * 256 + v) := by
  have hor : acc * 256 ||| v = acc * 256 + v := by
    rw [show acc * 256 = 2 ^ 8 * acc by omega]
    exact (Nat.two_pow_add_eq_or_of_lt hv acc).symm
  have h1 : BitVec.ofInt 64 (wrap64 ((acc : Int) * 256)) = BitVec.ofNat 64 (acc * 256) := by
    apply BitVec.eq_of_toNat_eq
    rw [BitVec.toNat_ofInt, BitVec.toNat_ofNat]
    unfold wrap64
    omega
  have hb : (IntKind.i64).bits = 64 := rfl
  show IntKind.i64.wrap ((BitVec.ofInt 64 (wrap64 ((acc : Int) * 256)) ||| BitVec.ofInt 64 (v : Int)).toNat : Int) = _
  rw [h1, BitVec.ofInt_natCast, BitVec.toNat_or, BitVec.toNat_ofNat, BitVec.toNat_ofNat, Nat.mod_eq_of_lt (by omega), Nat.mod_eq_of_lt (by omega), hor]
  rw [IntKind.wrap_i64]; unfold wrap64; omega

/-- The number that at most eight bytes are. -/
def parseOf (l : List UInt8) : Int := if 8 < l.length then 0 else if l.length = 0 then 0 else if Ber.be l < 2 ^ (8 * l.length - 1) then (Ber.be l : Int) else (Ber.be l : Int) - 2 ^ (8 * l.length)

theorem parse_eq (l : List UInt8) (hl : l.length ≤ 8) : wrap64 (wrap64 (Ber.be l : Int) * 2 ^ (64 - l.length * 8)) / 2 ^ (64 - l.length * 8) = parseOf l := by
  have hb := be_lt l.length l rfl
  unfold parseOf
  generalize Ber.be l = x at hb ⊢
  generalize l.length = n at hl hb ⊢
  have hn : n = 0 ∨ n = 1 ∨ n = 2 ∨ n = 3 ∨ n = 4 ∨ n = 5 ∨ n = 6 ∨ n = 7 ∨ n = 8 := by omega
  unfold wrap64
  rcases hn with rfl | rfl | rfl | rfl | rfl | rfl | rfl | rfl | rfl
  all_goals
    simp only [Nat.reduceMul, Nat.reduceSub, Nat.reducePow, Int.reducePow, Nat.reduceLT, Nat.reduceEqDiff, if_false, if_true] at hb ⊢
    first
      | omega
      | (split <;> omega)

/-- The round's head: j bytes are read. -/
def ParInv (l : List UInt8) (w : World) (t2 t4 : Value) (wr : World) : Prop :=
  ∃ j : Nat, j ≤ l.length ∧ t4 = .int .i64 j ∧ t2 = .int .i64 (wrap64 (Ber.be (l.take j))) ∧ w = wr

set_option maxHeartbeats 4000000 in
theorem parse_any (w : World) (G c : Nat) (l : List UInt8) (hl : l.length ≤ 8) (hsrc : ∀ j v, (Lib.byteCells l)[j]? = some v → w.cell? ⟨G, j, none⟩ = some v) :
    Calls Tryz.prog 124 #[.slice (some ⟨G, 0, none⟩) l.length c] w fun e w' => e = .returned (.tuple #[.int .i64 (parseOf l), .nilIface]) ∧ w = w' := by
  have HS := Lib.hid hsrc
  clear hsrc
  go_enter Tryz.func124, Tryz.ntmps124
  go_wp2_with fail
  go_loopw [2, 4] (fun t2 t4 wr => ParInv l w t2 t4 wr) (fun _ t4 _ => l.length - (intOf t4).toNat)
  case atStart => exact ⟨0, by omega, rfl, by simp [Ber.be, wrap64], rfl⟩
  case round =>
    obtain ⟨j, hj, rfl, rfl, rfl⟩ := hrel
    by_cases hjl : j < l.length
    · have hv256 : (l[j]).toNat < 256 := (l[j]).toNat_lt
      have hc : w.cell? ⟨G, j, none⟩ = some (.int .u8 (l[j]).toNat) := HS.out j _ (by simp [Lib.byteCells, List.getElem?_eq_getElem hjl])
      have hacc : Ber.be (l.take j) < 256 ^ j := be_lt _ _ (by simp; omega)
      have h7 : Ber.be (l.take j) < 256 ^ 7 := Nat.lt_of_lt_of_le hacc (Nat.pow_le_pow_right (by decide) (by omega))
      have hnx : Ber.be (l.take (j + 1)) = Ber.be (l.take j) * 256 + (l[j]).toNat := by
        rw [List.take_add_one, List.getElem?_eq_getElem hjl]; exact be_snoc _ _
      have hw : wrap64 (Ber.be (l.take j) : Int) = (Ber.be (l.take j) : Int) := wrap_low (by omega)
      have hO := or_step_i (acc := Ber.be (l.take j)) (v := (l[j]).toNat) h7 hv256
      have HNX := Lib.hid hnx
      clear hnx hacc h7
      go_wp2_with fail
      refine ⟨⟨j + 1, by omega, by go_num, ?_, rfl⟩, by simp [intOf]; omega⟩
      rw [HNX.out]; go_num
    · obtain rfl : j = l.length := by omega
      go_wp2_with fail
      go_ret2
      rw [parse_eq l hl]
      exact ⟨rfl, rfl⟩

set_option maxHeartbeats 4000000 in
/-- isEOCPacket of a packet's block. -/
theorem eoc_any (w : World) (p : Nat) (cls typ tag : Int) (val : Value) (bo : Option Addr) (bn bc : Nat) (dp : Value) (co : Option Addr) (cn cc : Nat) (ds : Value) (fr : Nat × Nat)
    (h : w.heap[p]? = some (.cells #[.int .u8 cls, .int .u8 typ, .int .u64 tag, val, .slice bo bn bc, dp, .slice co cn cc, ds] 171 fr)) :
    Calls Tryz.prog 119 #[.pointer (some ⟨p, 0, none⟩)] w fun e w' => e = .returned (.bool (tag == 0 && cls == 0 && typ == 0 && decide (bn = 0) && decide (cn = 0))) ∧ w = w' := by
  have c0 : w.cell? ⟨p, 0, none⟩ = some (.int .u8 cls) := blockCell h 0
  have c1 : w.cell? ⟨p, 1, none⟩ = some (.int .u8 typ) := blockCell h 1
  have c2 : w.cell? ⟨p, 2, none⟩ = some (.int .u64 tag) := blockCell h 2
  have c4 : w.cell? ⟨p, 4, none⟩ = some (.slice bo bn bc) := blockCell h 4
  have c6 : w.cell? ⟨p, 6, none⟩ = some (.slice co cn cc) := blockCell h 6
  clear h
  have hB : ∀ n : Nat, ((n : Int) == 0) = decide (n = 0) := fun n => by by_cases h : n = 0 <;> simp [h]
  by_cases t0 : (tag == 0) = true <;> by_cases t1 : (cls == 0) = true <;> by_cases t2 : (typ == 0) = true
  all_goals
    try simp only [Bool.not_eq_true] at t0
    try simp only [Bool.not_eq_true] at t1
    try simp only [Bool.not_eq_true] at t2
    go_enter Tryz.func119, Tryz.ntmps119
    go_wp2
    all_goals
      go_ret
      exact ⟨by simp_all, rfl⟩
end Go.Proofs.YtjmahgefijncaaaGreatFmt

