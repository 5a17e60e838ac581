/- io.ReadAtLeast and readByte over a bytes.Reader. -/
import Derived.Test.YtjmahgefijncaaaGreatFmtQ8
import Derived.Deep.RegionWith
import Derived.Deep.RegionHeld3
import Derived.LaidEql
import Derived.WalkSpells
import Derived.Stop.CallBack
import Derived.Stop.IfaceNil
import Derived.Stop.FmtTextKit
import Derived.Stop.Texts
import Derived.Stop.JoinedTold
import Derived.Test.YtjmahgefijncaaaGreatFmtQ1
import Derived.Laws.IdiomStrings
import Derived.Lib.ConvBytes
import Derived.Lib.AtoiErrMem
import Derived.Deep.QuietTactic
import Derived.BigQuiet
set_option linter.unusedVariables false
set_option linter.unusedSimpArgs false
namespace Go.Proofs.YtjmahgefijncaaaGreatFmt
open Go Go.RowKit

theorem nil_ahead_reader (a : Addr) (w : World) : (nilAhead 371 157 (.pointer (some a)) "Read").run Tryz.prog w = .ok (some false) w := by kernel_rfl
theorem method_reader (a : Addr) (w : World) : (method 371 157 (.pointer (some a)) "Read").run Tryz.prog w = .ok (189, .pointer (some a)) w := by kernel_rfl

set_option maxRecDepth 100000 in
theorem atLeast_end (w : World) (R A : Nat) (l : List UInt8) (h : Rd w R A l l.length) (hRE : 2 < R) (te : TypeId) (pe : Addr) (hE : w.cell? ⟨2, 0, none⟩ = some (.iface te (.pointer (some pe)))) (g c : Nat) :
    Calls Tryz.prog 158 #[.iface 157 (.pointer (some ⟨R, 0, none⟩)), .slice (some ⟨g, 0, none⟩) 1 c, .int .i64 1] w fun e w' => e = .returned (.tuple #[.int .i64 0, .iface te (.pointer (some pe))]) ∧ Keep w.heap.size R w w' ∧ Rd w' R A l l.length := by
  have hlt : 2 < w.heap.size := by have := h.lt; omega
  have hne : R ≠ 2 := by omega
  have hna := nil_ahead_reader
  have hme := method_reader
  go_enter Tryz.func158, Tryz.ntmps158
  go_wp2
  refine wp_loop_rounds 2 ?_
  rw [rounds_succ]
  go_wp2
  go_region_with ((go_at_call 189; refine (reader_end _ R A l h.drew _ hE hne hlt _ _ _ (by omega)).mono ?_; rintro e w1 ⟨rfl, hk, hr⟩))
  have hE1 : w1.cell? ⟨2, 0, none⟩ = some (.iface te (.pointer (some pe))) := (hk.cell hlt (fun e => hne e.symm)).trans hE
  go_wp2
  try rw [rounds_succ]
  go_wp2
  go_ret2
  exact ⟨rfl, ((Keep.refl _ R w).drew).trans hk, hr⟩

set_option maxRecDepth 100000 in
theorem atLeast_one (B : Nat) (w : World) (R A : Nat) (l : List UInt8) (i : Nat) (h : Rd w R A l i) (hi : i < l.length) (hB : B ≤ w.heap.size) (g : Nat) (x : Value) (hg : w.heap[g]? = some (.cells #[x] 5 (0, 0)))
    (hgB : B ≤ g) (hgR : g ≠ R) (hgA : g ≠ A) (c : Nat) :
    Calls Tryz.prog 158 #[.iface 157 (.pointer (some ⟨R, 0, none⟩)), .slice (some ⟨g, 0, none⟩) 1 c, .int .i64 1] w fun e w' =>
      e = .returned (.tuple #[.int .i64 1, .nilIface]) ∧ Keep B R w w' ∧ Rd w' R A l (i + 1) ∧ w'.heap[g]? = some (.cells #[.int .u8 (l[i]).toNat] 5 (0, 0)) ∧ w'.heap.size = w.heap.size := by
  have hna := nil_ahead_reader
  have hme := method_reader
  have hx : splice [x] 0 (Lib.byteCells ((l.drop i).take 1)) = [.int .u8 (l[i]).toNat] := by
    have : (l.drop i).take 1 = [l[i]] := by rw [List.drop_eq_getElem_cons hi]; rfl
    rw [this]; simp [splice, Lib.byteCells]
  have HX := Lib.hid hx
  clear hx
  go_enter Tryz.func158, Tryz.ntmps158
  go_wp2
  refine wp_loop_rounds 2 ?_
  rw [rounds_succ]
  go_wp2
  go_region_with ((go_at_call 189; refine (reader_some B _ R A l i h.drew hi hB g 0 1 c [x] hg hgB hgR hgA (by simp)).mono ?_; rintro e w1 ⟨rfl, hk, hr, hc, hz⟩; rw [show min 1 (l.length - i) = 1 by omega]))
  go_wp2
  try rw [rounds_succ]
  go_wp2
  go_ret2
  rw [show min 1 (l.length - i) = 1 by omega] at hr
  rw [HX.out] at hc
  exact ⟨rfl, ((Keep.refl B R w).drew).trans hk, hr, hc, hz⟩

theorem full_end (w : World) (R A : Nat) (l : List UInt8) (h : Rd w R A l l.length) (hRE : 2 < R) (te : TypeId) (pe : Addr) (hE : w.cell? ⟨2, 0, none⟩ = some (.iface te (.pointer (some pe)))) (g c : Nat) :
    Calls Tryz.prog 152 #[.iface 157 (.pointer (some ⟨R, 0, none⟩)), .slice (some ⟨g, 0, none⟩) 1 c] w fun e w' => e = .returned (.tuple #[.int .i64 0, .iface te (.pointer (some pe))]) ∧ Keep w.heap.size R w w' ∧ Rd w' R A l l.length := by
  go_enter Tryz.func152, Tryz.ntmps152
  go_wp2_with (go_at_call 158; refine (atLeast_end _ R A l h hRE _ _ hE _ _).mono ?_; rintro e w1 ⟨rfl, hk, hr⟩)
  go_ret2
  exact ⟨rfl, hk, hr⟩

theorem full_one (B : Nat) (w : World) (R A : Nat) (l : List UInt8) (i : Nat) (h : Rd w R A l i) (hi : i < l.length) (hB : B ≤ w.heap.size) (g : Nat) (x : Value) (hg : w.heap[g]? = some (.cells #[x] 5 (0, 0)))
    (hgB : B ≤ g) (hgR : g ≠ R) (hgA : g ≠ A) (c : Nat) :
    Calls Tryz.prog 152 #[.iface 157 (.pointer (some ⟨R, 0, none⟩)), .slice (some ⟨g, 0, none⟩) 1 c] w fun e w' =>
      e = .returned (.tuple #[.int .i64 1, .nilIface]) ∧ Keep B R w w' ∧ Rd w' R A l (i + 1) ∧ w'.heap[g]? = some (.cells #[.int .u8 (l[i]).toNat] 5 (0, 0)) ∧ w'.heap.size = w.heap.size := by
  go_enter Tryz.func152, Tryz.ntmps152
  go_wp2_with (go_at_call 158; refine (atLeast_one B _ R A l i h hi hB g x hg hgB hgR hgA _).mono ?_; rintro e w1 ⟨rfl, hk, hr, hc, hz⟩)
  go_ret2
  exact ⟨rfl, hk, hr, hc, hz⟩

theorem byte_end (w : World) (R A : Nat) (l : List UInt8) (h : Rd w R A l l.length) (hRE : 2 < R) (te : TypeId) (pe : Addr) (hE : w.cell? ⟨2, 0, none⟩ = some (.iface te (.pointer (some pe)))) :
    Calls Tryz.prog 144 #[.iface 157 (.pointer (some ⟨R, 0, none⟩))] w fun e w' => e = .returned (.tuple #[.int .u8 0, .iface te (.pointer (some pe))]) ∧ Keep w.heap.size R w w' ∧ Rd w' R A l l.length := by
  have hmk : ∀ w : World, (Instr.makeSlice 51 (.int .i64 1) (.int .i64 1)).run Tryz.prog w = .ok (.slice (some ⟨w.heap.size, 0, none⟩) 1 1) (w.alloc (.cells #[.int .u8 0] 5)) := fun _ => by kernel_rfl
  go_enter Tryz.func144, Tryz.ntmps144
  go_wp2_with (go_at_call 152; refine (full_end _ R A l (h.alloc _) hRE te pe (cell_alloc hE _) _ _).mono ?_; rintro e w1 ⟨rfl, hk, hr⟩)
  go_ret2
  exact ⟨rfl, ((Keep.refl _ R w).alloc (Nat.le_refl _) _).trans (hk.mono (by simp)), hr⟩

theorem byte_one (w : World) (R A : Nat) (l : List UInt8) (i : Nat) (h : Rd w R A l i) (hi : i < l.length) :
    Calls Tryz.prog 144 #[.iface 157 (.pointer (some ⟨R, 0, none⟩))] w fun e w' => e = .returned (.tuple #[.int .u8 (l[i]).toNat, .nilIface]) ∧ Keep w.heap.size R w w' ∧ Rd w' R A l (i + 1) := by
  have hmk : ∀ w : World, (Instr.makeSlice 51 (.int .i64 1) (.int .i64 1)).run Tryz.prog w = .ok (.slice (some ⟨w.heap.size, 0, none⟩) 1 1) (w.alloc (.cells #[.int .u8 0] 5)) := fun _ => by kernel_rfl
  have hR := h.lt
  have hA := h.ltA (by omega)
  go_enter Tryz.func144, Tryz.ntmps144
  go_wp2_with (go_at_call 152; refine (full_one w.heap.size _ R A l i (h.alloc _) hi (by simp) w.heap.size _ (heap_alloc_new w _) (Nat.le_refl _) (by omega) (by omega) _).mono ?_; rintro e w1 ⟨rfl, hk, hr, hc, hz⟩; have hcc := blockCell hc 0)
  go_ret2
  exact ⟨rfl, ((Keep.refl _ R w).alloc (Nat.le_refl _) _).trans hk, hr⟩
end Go.Proofs.YtjmahgefijncaaaGreatFmt

/- What the reading asks of package-level variables; what an error value is. -/
namespace Go.Proofs.YtjmahgefijncaaaGreatFmt
open Go Go.RowKit

/-- At a lies the text of an error made by errors.New: not empty. -/
def Sent (w : World) (a : Addr) : Prop :=
  ∃ (s : ByteArray) (c : Array Value) (t : TypeId), w.heap[a.block]? = some (.cells c t (0, 0)) ∧ w.cell? a = some (.string s) ∧ 0 < s.size ∧ s.size < 1000
theorem Sent.stays {w w' : World} {a : Addr} (h : Sent w a) (k : w'.heap[a.block]? = w.heap[a.block]?) : Sent w' a := by
  obtain ⟨s, c, t, h1, h2, h3⟩ := h
  exact ⟨s, c, t, k.trans h1, (World.cell?_of_block (w := w) k).trans h2, h3⟩
theorem Sent.lt {w : World} {a : Addr} (h : Sent w a) : a.block < w.heap.size := by obtain ⟨_, _, _, h1, _⟩ := h; exact blockLt h1

/-- An error made by errors.New whose text is not empty: it lies below block N, or from B on. -/
def ErrAt (N B : Nat) (w : World) (v : Value) : Prop :=
  ∃ a : Addr, v = .iface 144 (.pointer (some a)) ∧ (a.block < N ∨ B ≤ a.block) ∧ Sent w a

/-- io.EOF and io.ErrUnexpectedEOF hold such errors, below block number N. -/
structure Env (N : Nat) (w : World) : Prop where
  eof : ∃ a : Addr, w.cell? ⟨2, 0, none⟩ = some (.iface 144 (.pointer (some a))) ∧ a.block < N ∧ Sent w a
  ueof : ∃ a : Addr, w.cell? ⟨3, 0, none⟩ = some (.iface 144 (.pointer (some a))) ∧ a.block < N ∧ Sent w a
  few : 2 < N ∧ 3 < N

theorem Env.stays {N : Nat} {w w' : World} (h : Env N w) (k : ∀ b, b < N → w'.heap[b]? = w.heap[b]?) : Env N w' := by
  obtain ⟨⟨a, h1, h2, h3⟩, ⟨b, g1, g2, g3⟩, ⟨f1, f2⟩⟩ := h
  exact ⟨⟨a, (World.cell?_of_block (w := w) (k 2 f1)).trans h1, h2, h3.stays (k _ h2)⟩, ⟨b, (World.cell?_of_block (w := w) (k 3 f2)).trans g1, g2, g3.stays (k _ g2)⟩, ⟨f1, f2⟩⟩
theorem Env.keep {N B R : Nat} {w w' : World} (h : Env N w) (k : Keep B R w w') (hB : N ≤ B) (hR : N ≤ R) : Env N w' :=
  h.stays fun b hb => k.block b (by omega) (by omega)
theorem Env.below {N B : Nat} {w w' : World} (h : Env N w) (k : Below B w w') (hB : N ≤ B) : Env N w' :=
  h.stays fun b hb => k.block b (by omega)
theorem Env.drew {N : Nat} {w : World} (h : Env N w) : Env N w.drew := h.stays fun _ _ => rfl

theorem ErrAt.mono {N B B' : Nat} {w : World} {v : Value} (h : ErrAt N B w v) (hB : B' ≤ B) : ErrAt N B' w v := by
  obtain ⟨a, rfl, h2, h3⟩ := h
  exact ⟨a, rfl, by omega, h3⟩
theorem ErrAt.stays {N B : Nat} {w w' : World} {v : Value} (h : ErrAt N B w v) (k : ∀ b, b < w.heap.size → b < N ∨ B ≤ b → w'.heap[b]? = w.heap[b]?) : ErrAt N B w' v := by
  obtain ⟨a, rfl, h2, h3⟩ := h
  exact ⟨a, rfl, h2, h3.stays (k _ h3.lt h2)⟩
theorem ErrAt.keep {N B R : Nat} {w w' : World} {v : Value} (h : ErrAt N B w v) (k : Keep w.heap.size R w w') (hN : N ≤ R) (hB : R < B) : ErrAt N B w' v := h.stays fun b hb hr => k.block b hb (by omega)
theorem ErrAt.below {N B : Nat} {w w' : World} {v : Value} (h : ErrAt N B w v) (k : Below w.heap.size w w') : ErrAt N B w' v := h.stays fun b hb _ => k.block b hb
theorem ErrAt.alloc {N B : Nat} {w : World} {v : Value} (h : ErrAt N B w v) (o : Obj) : ErrAt N B (w.alloc o) v := h.stays fun b hb _ => Below.heap_alloc w o b hb
theorem ErrAt.setCell {N B : Nat} {w : World} {v : Value} (h : ErrAt N B w v) {p : Addr} (h1 : N ≤ p.block) (h2 : p.block < B) (u : Value) : ErrAt N B (w.setCell p u) v := h.stays fun b _ hr => Below.heap_setCell _ _ _ _ (by omega)
theorem ErrAt.drew {N B : Nat} {w : World} {v : Value} (h : ErrAt N B w v) : ErrAt N B w.drew v := h.stays fun _ _ _ => rfl
theorem ErrAt.iface {N B : Nat} {w : World} {v : Value} (h : ErrAt N B w v) : ∃ a, v = .iface 144 (.pointer (some a)) := by obtain ⟨a, h, _⟩ := h; exact ⟨a, h⟩
theorem Env.eofErr {N : Nat} {w : World} (h : Env N w) (B : Nat) : ∃ a, w.cell? ⟨2, 0, none⟩ = some (.iface 144 (.pointer (some a))) ∧ ErrAt N B w (.iface 144 (.pointer (some a))) := by
  obtain ⟨⟨a, h1, h2, h3⟩, _, _⟩ := h
  exact ⟨a, h1, a, rfl, Or.inl h2, h3⟩
theorem Env.ueofErr {N : Nat} {w : World} (h : Env N w) (B : Nat) : ∃ a, w.cell? ⟨3, 0, none⟩ = some (.iface 144 (.pointer (some a))) ∧ ErrAt N B w (.iface 144 (.pointer (some a))) := by
  obtain ⟨_, ⟨a, h1, h2, h3⟩, _⟩ := h
  exact ⟨a, h1, a, rfl, Or.inl h2, h3⟩

/-- errors.New. -/
theorem new_any (s : ByteArray) (w : World) :
    Calls Tryz.prog 69 #[.string s] w fun e w' => e = .returned (.iface 144 (.pointer (some ⟨w.heap.size, 0, none⟩))) ∧ w.alloc (.cells #[.string s] 146) = w' := by
  go_enter Tryz.func69, Tryz.ntmps69
  go_wp2
  go_ret
  exact ⟨rfl, rfl⟩
theorem new_err (s : ByteArray) (hs : 0 < s.size) (hs2 : s.size < 1000) (N : Nat) (w : World) :
    Calls Tryz.prog 69 #[.string s] w fun e w' => ∃ ev, e = .returned ev ∧ ErrAt N w.heap.size w' ev ∧ Below w.heap.size w w' := by
  refine (new_any s w).mono fun e w' ⟨he, hw⟩ => ⟨_, he, ?_, by rw [← hw]; exact (Below.refl _ w).alloc (Nat.le_refl _) _⟩
  have hb := heap_alloc_new w (.cells #[.string s] 146)
  rw [hw] at hb
  exact ⟨⟨w.heap.size, 0, none⟩, rfl, Or.inr (Nat.le_refl _), s, _, _, hb, blockCell hb 0, hs, hs2⟩

theorem eql_other {w : World} {a b : Addr} (ha : Sent w a) (hb : Sent w b) (hne : a ≠ b) :
    (binOp .eql 83 (.iface 144 (.pointer (some a))) (.iface 144 (.pointer (some b)))).run Tryz.prog w = .ok (.bool false) w := by
  obtain ⟨_, c, t, h1, _⟩ := ha
  obtain ⟨_, d, u, h2, _⟩ := hb
  obtain ⟨i, hi, hcmp⟩ := Option.map_eq_some_iff.1 (show (Tryz.prog.info? 144).map (·.comparable) = some true by kernel_rfl)
  obtain ⟨j, hj, hjs⟩ := Option.map_eq_some_iff.1 (show (Tryz.prog.info? 146).map (·.size) = some 1 by kernel_rfl)
  exact run_eql_iface_ptr_other w Tryz.underlying83 Tryz.underlying144 hi hcmp hj (by rw [hjs]; decide) hne h1 h2
theorem eql_same (w : World) (a : Addr) :
    (binOp .eql 83 (.iface 144 (.pointer (some a))) (.iface 144 (.pointer (some a)))).run Tryz.prog w = .ok (.bool true) w := by
  obtain ⟨i, hi, hcmp⟩ := Option.map_eq_some_iff.1 (show (Tryz.prog.info? 144).map (·.comparable) = some true by kernel_rfl)
  obtain ⟨j, hj, hjs⟩ := Option.map_eq_some_iff.1 (show (Tryz.prog.info? 146).map (·.size) = some 1 by kernel_rfl)
  exact run_eql_iface_ptr_same w a Tryz.underlying83 Tryz.underlying144 hi hcmp hj

set_option maxRecDepth 100000 in
/-- unexpectedEOF: an error stays one. -/
theorem uneof_any (N B : Nat) (w : World) (hE : Env N w) (v : Value) (hv : ErrAt N B w v) :
    Calls Tryz.prog 118 #[v] w fun e w' => ∃ ev, e = .returned ev ∧ ErrAt N B w' ev ∧ w = w' := by
  obtain ⟨b, hb, hbe⟩ := hE.eofErr B
  obtain ⟨c, hc, hce⟩ := hE.ueofErr B
  obtain ⟨a, rfl, haR, ha⟩ := id hv
  have HV := Lib.hid hv
  have HB := Lib.hid hbe
  have HC := Lib.hid hce
  by_cases hab : a = b
  · subst hab
    have he := eql_same w a
    clear ha hv hbe hce
    have h1 : Calls Tryz.prog 118 #[.iface 144 (.pointer (some a))] w fun e w' => e = .returned (.iface 144 (.pointer (some c))) ∧ w = w' := by
      go_enter Tryz.func118, Tryz.ntmps118
      go_wp2
      go_ret
      exact ⟨rfl, rfl⟩
    exact h1.mono fun e w' ⟨he, hw⟩ => by subst hw; exact ⟨_, he, HC.out, rfl⟩
  · obtain ⟨b', eb, _, hbs⟩ := hbe
    obtain rfl : b = b' := by injection eb with _ e2; injection e2 with e3; exact Option.some.inj e3
    have he := eql_other ha hbs hab
    clear ha hv hbs hce eb
    have h1 : Calls Tryz.prog 118 #[.iface 144 (.pointer (some a))] w fun e w' => e = .returned (.iface 144 (.pointer (some a))) ∧ w = w' := by
      go_enter Tryz.func118, Tryz.ntmps118
      go_wp2
      go_ret
      exact ⟨rfl, rfl⟩
    exact h1.mono fun e w' ⟨he, hw⟩ => by subst hw; exact ⟨_, he, HV.out, rfl⟩
end Go.Proofs.YtjmahgefijncaaaGreatFmt

/- (encoding/hex.InvalidByteError).Error, whose text fmt.Sprintf gives. -/
namespace Go.Proofs.YtjmahgefijncaaaGreatFmt
open Go Go.RowKit Go.Extern.Stop Go.Stop Go.Extern

theorem hx_call (args : Array Value) (w : World) : (callFunc 192 args).run Tryz.prog w = ((FmtStop.sprintf #[9, 270] #[9] args).run Tryz.prog w).andThen fun v w' => .ok (.value v) w' :=
  run_callFunc_extern Tryz.func192 (by kernel_rfl) (by kernel_rfl) (by kernel_rfl) (by kernel_rfl) args w
theorem hx_guard (name : String) (w : World) : (FmtStop.guard name).run Tryz.prog w = .ok () w := by kernel_rfl
def hexFormat : List UInt8 := [101, 110, 99, 111, 100, 105, 110, 103, 47, 104, 101, 120, 58, 32, 105, 110, 118, 97, 108, 105, 100, 32, 98, 121, 116, 101, 58, 32, 37, 35, 85]
theorem hx_fmt : FmtStop.printed? ⟨#[101, 110, 99, 111, 100, 105, 110, 103, 47, 104, 101, 120, 58, 32, 105, 110, 118, 97, 108, 105, 100, 32, 98, 121, 116, 101, 58, 32, 37, 35, 85]⟩ 1 = some [(0, 85, true)] := by kernel_rfl
theorem hx_fmtr (w : World) : (FmtDoors.printed ⟨#[101, 110, 99, 111, 100, 105, 110, 103, 47, 104, 101, 120, 58, 32, 105, 110, 118, 97, 108, 105, 100, 32, 98, 121, 116, 101, 58, 32, 37, 35, 85]⟩ 1).run Tryz.prog w = .ok [(0, 85, true)] w := by kernel_rfl
def hx_shape : List UInt8 := [4, 5, 0, 0, 0, 0, 0, 0, 0, 105, 110, 116, 51, 50]
theorem hx_op (name : String) (x : Int) (w : World) : (FmtStop.operand name false 85 true (.iface 21 (.int .i32 x))).run Tryz.prog w = .ok (hx_shape, Go.Extern.Stop.digits 8 (x % 2 ^ 64).toNat) w := by kernel_rfl
theorem hx_str (w : World) : (typeStr 21).run Tryz.prog w = .ok "int32" w := by kernel_rfl

/-- What fmt.Sprintf is asked. -/
def hexAsk (c : Int) : List (List UInt8) := [hexFormat, hx_shape, digits 8 (c % 18446744073709551616).toNat]

set_option maxHeartbeats 800000 in
theorem hex_error (F : Interp) (c : Int) (w : World) (hF : F.answers w.tape) (h0 : 0 ≤ c) (h1 : c ≤ 255) :
    Calls Tryz.prog 191 #[.int .u8 c] w fun e w' => e = .returned (.string (FmtStop.textOf (F "fmt.Sprintf" (hexAsk c) 0))) ∧ w' = (w.alloc (.cells #[.iface 21 (.int .i32 c)] 20)).drew := by
  have hF' := answers_open hF
  have q1 := hx_call
  have q2 := hx_guard
  have q3 := hx_fmt
  have q4 := hx_fmtr
  have q5 := hx_op
  have q6 := hx_str
  go_enter Tryz.func191, Tryz.ntmps191
  go_wp2
  go_ret
  exact ⟨rfl, rfl⟩
end Go.Proofs.YtjmahgefijncaaaGreatFmt

/- Rows of bytes that are rewritten; nameLower, zzFold, entryAlike. -/
namespace Go.Proofs.YtjmahgefijncaaaGreatFmt
open Go Go.RowKit set_option linter.unusedVariables false set_option linter.unusedSimpArgs false

/-- The bytes l lie at the beginning of block g, and may be written. -/
def BRow (w : World) (g : Nat) (l : List UInt8) : Prop :=
  ∃ (cur : Array Value) (lo hi : Nat), w.heap[g]? = some (.cells cur 5 (lo, hi)) ∧ l.length ≤ lo ∧ ∀ (j : Nat) (b : UInt8), l[j]? = some b → cur[j]? = some (.int .u8 b.toNat)
theorem BRow.cell {w : World} {g : Nat} {l : List UInt8} (h : BRow w g l) {j : Nat} {b : UInt8} (hj : l[j]? = some b) : w.cell? ⟨g, j, none⟩ = some (.int .u8 b.toNat) := by
  obtain ⟨cur, lo, hi, h1, h2, h3⟩ := h
  rw [blockCell h1 j]; exact h3 j b hj
theorem BRow.frozen {w : World} {g : Nat} {l : List UInt8} (h : BRow w g l) {j : Nat} (hj : j < l.length) : w.frozen? ⟨g, j, none⟩ = false := by
  obtain ⟨cur, lo, hi, h1, h2, h3⟩ := h
  simp only [World.frozen?, h1, Bool.and_eq_false_iff, decide_eq_false_iff_not]
  left; omega
theorem BRow.set {w : World} {g : Nat} {l : List UInt8} (h : BRow w g l) (j : Nat) (b : UInt8) : BRow (w.setCell ⟨g, j, none⟩ (.int .u8 b.toNat)) g (l.set j b) := by
  obtain ⟨cur, lo, hi, h1, h2, h3⟩ := h
  refine ⟨_, lo, hi, blockSet h1 j _, by simpa using h2, fun k c hk => ?_⟩
  rw [List.getElem?_set] at hk
  rw [Array.getElem?_setIfInBounds]
  by_cases e : j = k
  · subst e
    rw [if_pos rfl] at hk ⊢
    split at hk
    · rename_i hlt
      obtain ⟨d, hd⟩ : ∃ d, l[j]? = some d := ⟨_, List.getElem?_eq_getElem hlt⟩
      have := h3 j d hd
      have hlt2 : j < cur.size := (Array.getElem?_eq_some_iff.1 this).1
      rw [if_pos hlt2]
      injection hk with hk
      rw [hk]
    · cases hk
  · rw [if_neg e] at hk ⊢
    exact h3 k c hk
theorem BRow.stays {w w' : World} {g : Nat} {l : List UInt8} (h : BRow w g l) (k : w'.heap[g]? = w.heap[g]?) : BRow w' g l := by
  obtain ⟨cur, lo, hi, h1, h2⟩ := h; exact ⟨cur, lo, hi, k.trans h1, h2⟩
theorem BRow.lt {w : World} {g : Nat} {l : List UInt8} (h : BRow w g l) : g < w.heap.size := by obtain ⟨cur, lo, hi, h1, _⟩ := h; exact blockLt h1
theorem BRow.made (w : World) (l : List UInt8) : BRow (Lib.bytesWorld w 5 (Nm.bs l)) w.heap.size l := by
  refine ⟨_, _, _, Lib.bytesWorld_at_new w 5 (Nm.bs l), ?_, fun j b hj => ?_⟩
  · simp [Lib.bytesCells, Nm.bs]
  · have hlt : j < l.length := (List.getElem?_eq_some_iff.1 hj).1
    simp only [Lib.bytesCells]
    rw [Array.getElem?_append_left (by simp [Nm.bs]; exact hlt)]
    simp [Nm.bs, hj]
theorem BRow.text {w : World} {g : Nat} {l : List UInt8} (h : BRow w g l) (cap : Nat) : (convert 51 9 (.slice (some ⟨g, 0, none⟩) l.length cap)).run Tryz.prog w = .ok (.string (Nm.bs l)) w := by
  refine run_convert_bytes_back (P := Tryz.prog) w 51 9 5 ⟨g, 0, none⟩ cap l Tryz.underlying51 Tryz.underlying5 Tryz.underlying9 (fun j hj => ?_)
  have := h.cell (List.getElem?_eq_getElem hj)
  unfold Addr.add
  split
  · rename_i e; subst e; exact this
  · simpa using this

def lowB (c : UInt8) : UInt8 := if 65 ≤ c ∧ c ≤ 90 then c + 32 else c
def low (l : List UInt8) : List UInt8 := l.map lowB

theorem conv_bytes' (w : World) (s : ByteArray) : (convert 9 51 (.string s)).run Tryz.prog w = .ok (.slice (some ⟨w.heap.size, 0, none⟩) s.size (grownCap w s.size 0 5)) (Lib.bytesWorld w 5 s) :=
  Lib.run_convert_string_bytes w 9 51 5 s Tryz.underlying9 Tryz.underlying51 Tryz.underlying5

theorem low_step {l : List UInt8} {i : Nat} {b : UInt8} (hb : l[i]? = some b) : (low (l.take i) ++ l.drop i).set i (lowB b) = low (l.take (i + 1)) ++ l.drop (i + 1) := by
  have hi : i < l.length := (List.getElem?_eq_some_iff.1 hb).1
  have e1 : l.drop i = b :: l.drop (i + 1) := by
    rw [List.drop_eq_getElem_cons hi]
    rw [List.getElem?_eq_getElem hi] at hb
    rw [Option.some.inj hb]
  have e2 : l.take (i + 1) = l.take i ++ [b] := by
    rw [List.take_succ_eq_append_getElem hi]
    rw [List.getElem?_eq_getElem hi] at hb
    rw [Option.some.inj hb]
  have e3 : (low (l.take i)).length = i := by simp [low]; omega
  rw [e1, e2, List.set_append_right _ _ (by omega), e3, Nat.sub_self]
  simp [low]
theorem low_keep {l : List UInt8} {i : Nat} {b : UInt8} (hb : l[i]? = some b) (h : lowB b = b) : low (l.take i) ++ l.drop i = low (l.take (i + 1)) ++ l.drop (i + 1) := by
  rw [← low_step hb, h]
  have hi : i < l.length := (List.getElem?_eq_some_iff.1 hb).1
  have e3 : (low (l.take i)).length = i := by simp [low]; omega
  have : (low (l.take i) ++ l.drop i)[i]? = some b := by
    rw [List.getElem?_append_right (by omega), e3, Nat.sub_self, List.getElem?_drop, Nat.add_zero]; exact hb
  obtain ⟨hlt, hge⟩ := List.getElem?_eq_some_iff.1 this
  rw [← hge]
  exact (List.set_getElem_self hlt).symm

set_option maxRecDepth 100000 in
set_option maxHeartbeats 4000000 in
theorem lower_any (l : List UInt8) (hl : l.length < 4000000000) (w : World) :
    Calls Tryz.prog 71 #[.string (Nm.bs l)] w fun e w' => e = .returned (.string (Nm.bs (low l))) ∧ Below w.heap.size w w' := by
  have hsz := bs_size l
  have hcv := conv_bytes' w (Nm.bs l)
  rw [hsz] at hcv
  have hmade := BRow.made w l
  have hbw := Lib.bytesWorld_below w 5 (Nm.bs l)
  generalize grownCap w l.length 0 5 = cap at hcv
  generalize Lib.bytesWorld w 5 (Nm.bs l) = BW at *
  have HM := Lib.hid hmade
  have HB := Lib.hid hbw
  clear hmade hbw
  go_enter Tryz.func71, Tryz.ntmps71
  go_wp2_with fail
  go_loopw [10] (fun t10 wr => ∃ i : Nat, t10 = .int .i64 i ∧ i ≤ l.length ∧ Hid (BRow wr w.heap.size (low (l.take i) ++ l.drop i) ∧ Below w.heap.size w wr)) (fun t10 _ => l.length - (intOf t10).toNat)
  case atStart => exact ⟨0, rfl, Nat.zero_le _, Lib.hid ⟨by simpa [low] using HM.out, HB.out⟩⟩
  case round =>
    clear hcv
    obtain ⟨i, rfl, hi, HI⟩ := hrel
    by_cases hend : i = l.length
    · subst hend
      have t1 : decide ((l.length : Int) < (l.length : Int)) = false := by simp
      have hrow := HI.out.1
      rw [List.take_length, List.drop_length, List.append_nil] at hrow
      have hll : (low l).length = l.length := by simp [low]
      have hcv := fun c => hrow.text c
      rw [hll] at hcv
      clear hrow
      go_wp2_with fail
      go_ret
      exact ⟨rfl, HI.out.2⟩
    · have hlt : i < l.length := by omega
      have t1 : decide ((i : Int) < (l.length : Int)) = true := by simp; omega
      obtain ⟨b, hb⟩ : ∃ b, l[i]? = some b := ⟨_, List.getElem?_eq_getElem hlt⟩
      have e3 : (low (l.take i)).length = i := by simp [low]; omega
      have hrb : (low (l.take i) ++ l.drop i)[i]? = some b := by
        rw [List.getElem?_append_right (by omega), e3, Nat.sub_self, List.getElem?_drop, Nat.add_zero]; exact hb
      have c0 := HI.out.1.cell hrb
      have f0 := HI.out.1.frozen (j := i) (by rw [List.length_append, e3]; simp; omega)
      by_cases hup : 65 ≤ b ∧ b ≤ 90
      · have h1 : 65 ≤ b.toNat := hup.1
        have h2 : b.toNat ≤ 90 := hup.2
        have q1 : decide ((65 : Int) ≤ (b.toNat : Int)) = true := by simp; omega
        have q2 : decide ((b.toNat : Int) ≤ 90) = true := by simp; omega
        have hlb : (lowB b).toNat = b.toNat + 32 := by
          unfold lowB; rw [if_pos hup, UInt8.toNat_add]
          have : (32 : UInt8).toNat = 32 := rfl
          omega
        have hset := HI.out.1.set i (lowB b)
        rw [low_step hb, show (((lowB b).toNat : Nat) : Int) = (b.toNat : Int) + 97 - 65 by omega] at hset
        have hbel := HI.out.2.setCell (p := ⟨w.heap.size, i, none⟩) (Nat.le_refl _) (.int .u8 ((b.toNat : Int) + 97 - 65))
        have HE := Lib.hid (And.intro hset hbel)
        clear hset hbel hlb hrb hb
        go_wp2_with fail
        exact ⟨⟨i + 1, by go_num, by omega, HE⟩, by simp [intOf]; omega⟩
      · have hlb : lowB b = b := by unfold lowB; rw [if_neg hup]
        have hk := low_keep hb hlb
        have HE := HI
        rw [hk] at HE
        clear hlb hrb hb hk
        by_cases h1 : 65 ≤ b.toNat
        · have h2 : ¬ b.toNat ≤ 90 := fun h => hup ⟨h1, h⟩
          have q1 : decide ((65 : Int) ≤ (b.toNat : Int)) = true := by simp; omega
          have q2 : decide ((b.toNat : Int) ≤ 90) = false := by simp; omega
          clear hup
          go_wp2_with fail
          exact ⟨⟨i + 1, by go_num, by omega, HE⟩, by simp [intOf]; omega⟩
        · have q1 : decide ((65 : Int) ≤ (b.toNat : Int)) = false := by simp; omega
          clear hup
          go_wp2_with fail
          exact ⟨⟨i + 1, by go_num, by omega, HE⟩, by simp [intOf]; omega⟩

theorem nameLower_any (l : List UInt8) (hl : l.length < 4000000000) (w : World) :
    Calls Tryz.prog 42 #[.string (Nm.bs l)] w fun e w' => e = .returned (.string (Nm.bs (low l))) ∧ Below w.heap.size w w' := by
  have H := Lib.hid (lower_any l hl w)
  go_enter Tryz.func42, Tryz.ntmps42
  go_wp2_with fail
  refine H.out.mono ?_
  rintro e w1 ⟨rfl, hb⟩
  have HB := Lib.hid hb
  clear hb
  go_wp2_with fail
  go_ret
  exact ⟨rfl, HB.out⟩

theorem bs_inj {a b : List UInt8} (h : Nm.bs a = Nm.bs b) : a = b := by
  have := congrArg (fun x => x.data.toList) h
  simpa [Nm.bs] using this
def foldSame (a b : List UInt8) : Bool := decide (low a = low b)

theorem low_cmp {a b : List UInt8} (hl : a.length = b.length) {i : Nat} {x y : UInt8} (hx : a[i]? = some x) (hy : b[i]? = some y) (h : low (a.take i) = low (b.take i)) :
    (lowB x = lowB y → low (a.take (i + 1)) = low (b.take (i + 1))) ∧ (lowB x ≠ lowB y → low a ≠ low b) := by
  have hi : i < a.length := (List.getElem?_eq_some_iff.1 hx).1
  have hi2 : i < b.length := (List.getElem?_eq_some_iff.1 hy).1
  constructor
  · intro he
    rw [List.take_succ_eq_append_getElem hi, List.take_succ_eq_append_getElem hi2]
    rw [List.getElem?_eq_getElem hi] at hx
    rw [List.getElem?_eq_getElem hi2] at hy
    rw [Option.some.inj hx, Option.some.inj hy]
    simp only [low, List.map_append, List.map_cons, List.map_nil] at h ⊢
    rw [h, he]
  · intro hne he
    have h1 : (low a)[i]? = some (lowB x) := by simp [low, hx]
    have h2 : (low b)[i]? = some (lowB y) := by simp [low, hy]
    rw [he, h2] at h1
    exact hne (Option.some.inj h1).symm

theorem lowB_nat (x : UInt8) : (lowB x).toNat = if 65 ≤ x.toNat ∧ x.toNat ≤ 90 then x.toNat + 32 else x.toNat := by
  unfold lowB
  by_cases h : 65 ≤ x ∧ x ≤ 90
  · rw [if_pos h, if_pos (show 65 ≤ x.toNat ∧ x.toNat ≤ 90 from h), UInt8.toNat_add]
    have : (32 : UInt8).toNat = 32 := rfl
    have h2 : x.toNat ≤ 90 := h.2
    omega
  · rw [if_neg h, if_neg (show ¬ (65 ≤ x.toNat ∧ x.toNat ≤ 90) from h)]

theorem drew_more {w wr : World} (h : ∃ m, wr = w.drewN m) (n : Nat) : ∃ m, wr.drewN n = w.drewN m := by
  obtain ⟨m, rfl⟩ := h; exact ⟨m + n, World.drewN_drewN ..⟩
theorem drewN_below (w : World) (m : Nat) : Below w.heap.size w (w.drewN m) := ⟨rfl, rfl, rfl, Nat.le_refl _, fun _ _ => rfl⟩

set_option maxRecDepth 100000 in
set_option maxHeartbeats 16000000 in
theorem fold_quiet (a b : List UInt8) (ha : a.length < 4000000000) (hb : b.length < 4000000000) (w : World) :
    Calls Tryz.prog 72 #[.string (Nm.bs a), .string (Nm.bs b)] w fun e w' => e = .returned (.bool (foldSame a b)) ∧ ∃ m, w' = w.drewN m := by
  have hsa := bs_size a
  have hsb := bs_size b
  by_cases hlen : a.length = b.length
  · have t0 : ((a.length : Int) != (b.length : Int)) = false := by simp [hlen]
    have HL := Lib.hid hlen
    go_enter Tryz.func72, Tryz.ntmps72
    clear hlen
    go_wp2_with fail
    go_loopw [5] (fun t5 wr => ∃ i : Nat, t5 = .int .i64 i ∧ i ≤ a.length ∧ Hid (low (a.take i) = low (b.take i) ∧ ∃ m, wr = w.drewN m)) (fun t5 _ => a.length - (intOf t5).toNat)
    case atStart => exact ⟨0, rfl, Nat.zero_le _, Lib.hid ⟨rfl, 0, rfl⟩⟩
    case round =>
      obtain ⟨i, rfl, hi, HI⟩ := hrel
      by_cases hend : i = a.length
      · subst hend
        have t1 : decide ((a.length : Int) < (a.length : Int)) = false := by simp
        have hr : foldSame a b = true := by
          have := HI.out.1
          rw [List.take_length, HL.out, List.take_length] at this
          simp [foldSame, this]
        have HR := Lib.hid hr
        clear hr
        go_wp2_with fail
        go_ret
        exact ⟨by rw [HR.out]; rfl, HI.out.2⟩
      · have hlt : i < a.length := by omega
        have hltb : i < b.length := by have := HL.out; omega
        have hlt2 : i < (Nm.bs a).size := by rw [hsa]; exact hlt
        have hlt3 : i < (Nm.bs b).size := by rw [hsb]; exact hltb
        have t1 : decide ((i : Int) < (a.length : Int)) = true := by simp; omega
        obtain ⟨x, hx, hgx⟩ : ∃ x : UInt8, a[i]? = some x ∧ ((Nm.bs a)[i]'hlt2).toNat = x.toNat := ⟨_, List.getElem?_eq_getElem hlt, by rw [bs_get]⟩
        obtain ⟨y, hy, hgy⟩ : ∃ y : UInt8, b[i]? = some y ∧ ((Nm.bs b)[i]'hlt3).toNat = y.toNat := ⟨_, List.getElem?_eq_getElem hltb, by rw [bs_get]⟩
        obtain ⟨hgood, hbad⟩ := low_cmp HL.out hx hy HI.out.1
        have hgo : lowB x = lowB y → low (a.take (i + 1)) = low (b.take (i + 1)) := hgood
        have hno : lowB x ≠ lowB y → foldSame a b = false := fun h => by simp [foldSame, hbad h]
        have hxn := lowB_nat x
        have hyn := lowB_nat y
        have hxl := UInt8.toNat_lt x
        have hyl := UInt8.toNat_lt y
        have heq : (lowB x = lowB y) ↔ (lowB x).toNat = (lowB y).toNat := ⟨fun h => by rw [h], fun h => UInt8.toNat_inj.1 h⟩
        rw [hxn, hyn] at heq
        have HGO := Lib.hid (fun h => hgo (heq.2 h))
        have HNO := Lib.hid (fun (h : ¬ _) => hno (fun e => h (heq.1 e)))
        have i0 : (0 : Int) ≤ (i : Int) := by omega
        have i1 : (i : Int) < (a.length : Int) := by omega
        have i2 : (i : Int) < (b.length : Int) := by omega
        clear hgood hbad hgo hno hxn hyn heq hx hy hend
        generalize x.toNat = m at *
        generalize y.toNat = n at *
        have hcx : (m < 65) ∨ (65 ≤ m ∧ 90 < m) ∨ (65 ≤ m ∧ m ≤ 90) := by omega
        have hcy : (n < 65) ∨ (65 ≤ n ∧ 90 < n) ∨ (65 ≤ n ∧ n ≤ 90) := by omega
        rcases hcx with hx1 | hx1 | hx1 <;> rcases hcy with hy1 | hy1 | hy1
        · have pm : decide ((m : Int) ≥ 65) = false := by simp; omega
          have hMm : (if 65 ≤ m ∧ m ≤ 90 then m + 32 else m) = m := if_neg (by omega)
          have pn : decide ((n : Int) ≥ 65) = false := by simp; omega
          have hMn : (if 65 ≤ n ∧ n ≤ 90 then n + 32 else n) = n := if_neg (by omega)
          rw [hMm, hMn] at HGO HNO
          clear hMm hMn
          by_cases he : m = n
          · have hq : (((m : Int)) != ((n : Int))) = false := by rw [bne_eq_false_iff_eq]; omega
            have HN := Lib.hid (And.intro (HGO.out he) HI.out.2)
            clear HGO HNO he
            go_wp2_with fail
            go_quiet (fail)
            go_wp2_with fail
            exact ⟨⟨i + 1, by go_num, by omega, Lib.hid ⟨HN.out.1, drew_more HN.out.2 nq⟩⟩, by simp [intOf]; omega⟩
          · have hq : (((m : Int)) != ((n : Int))) = true := by rw [bne_iff_ne]; omega
            have HN := Lib.hid (HNO.out he)
            clear HGO HNO he
            go_wp2_with fail
            go_quiet (fail)
            go_wp2_with fail
            go_ret
            exact ⟨by rw [HN.out]; rfl, drew_more HI.out.2 nq⟩
        · have pm : decide ((m : Int) ≥ 65) = false := by simp; omega
          have hMm : (if 65 ≤ m ∧ m ≤ 90 then m + 32 else m) = m := if_neg (by omega)
          have pn : decide ((n : Int) ≥ 65) = true := by simp; omega
          have pn2 : decide ((n : Int) ≤ 90) = false := by simp; omega
          have hMn : (if 65 ≤ n ∧ n ≤ 90 then n + 32 else n) = n := if_neg (by omega)
          rw [hMm, hMn] at HGO HNO
          clear hMm hMn
          by_cases he : m = n
          · have hq : (((m : Int)) != ((n : Int))) = false := by rw [bne_eq_false_iff_eq]; omega
            have HN := Lib.hid (And.intro (HGO.out he) HI.out.2)
            clear HGO HNO he
            go_wp2_with fail
            go_quiet (fail)
            go_wp2_with fail
            exact ⟨⟨i + 1, by go_num, by omega, Lib.hid ⟨HN.out.1, drew_more HN.out.2 nq⟩⟩, by simp [intOf]; omega⟩
          · have hq : (((m : Int)) != ((n : Int))) = true := by rw [bne_iff_ne]; omega
            have HN := Lib.hid (HNO.out he)
            clear HGO HNO he
            go_wp2_with fail
            go_quiet (fail)
            go_wp2_with fail
            go_ret
            exact ⟨by rw [HN.out]; rfl, drew_more HI.out.2 nq⟩
        · have pm : decide ((m : Int) ≥ 65) = false := by simp; omega
          have hMm : (if 65 ≤ m ∧ m ≤ 90 then m + 32 else m) = m := if_neg (by omega)
          have pn : decide ((n : Int) ≥ 65) = true := by simp; omega
          have pn2 : decide ((n : Int) ≤ 90) = true := by simp; omega
          have hMn : (if 65 ≤ n ∧ n ≤ 90 then n + 32 else n) = n + 32 := if_pos (by omega)
          rw [hMm, hMn] at HGO HNO
          clear hMm hMn
          by_cases he : m = n + 32
          · have hq : (((m : Int)) != ((n : Int) + 32)) = false := by rw [bne_eq_false_iff_eq]; omega
            have HN := Lib.hid (And.intro (HGO.out he) HI.out.2)
            clear HGO HNO he
            go_wp2_with fail
            go_quiet (fail)
            go_wp2_with fail
            exact ⟨⟨i + 1, by go_num, by omega, Lib.hid ⟨HN.out.1, drew_more HN.out.2 nq⟩⟩, by simp [intOf]; omega⟩
          · have hq : (((m : Int)) != ((n : Int) + 32)) = true := by rw [bne_iff_ne]; omega
            have HN := Lib.hid (HNO.out he)
            clear HGO HNO he
            go_wp2_with fail
            go_quiet (fail)
            go_wp2_with fail
            go_ret
            exact ⟨by rw [HN.out]; rfl, drew_more HI.out.2 nq⟩
        · have pm : decide ((m : Int) ≥ 65) = true := by simp; omega
          have pm2 : decide ((m : Int) ≤ 90) = false := by simp; omega
          have hMm : (if 65 ≤ m ∧ m ≤ 90 then m + 32 else m) = m := if_neg (by omega)
          have pn : decide ((n : Int) ≥ 65) = false := by simp; omega
          have hMn : (if 65 ≤ n ∧ n ≤ 90 then n + 32 else n) = n := if_neg (by omega)
          rw [hMm, hMn] at HGO HNO
          clear hMm hMn
          by_cases he : m = n
          · have hq : (((m : Int)) != ((n : Int))) = false := by rw [bne_eq_false_iff_eq]; omega
            have HN := Lib.hid (And.intro (HGO.out he) HI.out.2)
            clear HGO HNO he
            go_wp2_with fail
            go_quiet (fail)
            go_wp2_with fail
            exact ⟨⟨i + 1, by go_num, by omega, Lib.hid ⟨HN.out.1, drew_more HN.out.2 nq⟩⟩, by simp [intOf]; omega⟩
          · have hq : (((m : Int)) != ((n : Int))) = true := by rw [bne_iff_ne]; omega
            have HN := Lib.hid (HNO.out he)
            clear HGO HNO he
            go_wp2_with fail
            go_quiet (fail)
            go_wp2_with fail
            go_ret
            exact ⟨by rw [HN.out]; rfl, drew_more HI.out.2 nq⟩
        · have pm : decide ((m : Int) ≥ 65) = true := by simp; omega
          have pm2 : decide ((m : Int) ≤ 90) = false := by simp; omega
          have hMm : (if 65 ≤ m ∧ m ≤ 90 then m + 32 else m) = m := if_neg (by omega)
          have pn : decide ((n : Int) ≥ 65) = true := by simp; omega
          have pn2 : decide ((n : Int) ≤ 90) = false := by simp; omega
          have hMn : (if 65 ≤ n ∧ n ≤ 90 then n + 32 else n) = n := if_neg (by omega)
          rw [hMm, hMn] at HGO HNO
          clear hMm hMn
          by_cases he : m = n
          · have hq : (((m : Int)) != ((n : Int))) = false := by rw [bne_eq_false_iff_eq]; omega
            have HN := Lib.hid (And.intro (HGO.out he) HI.out.2)
            clear HGO HNO he
            go_wp2_with fail
            go_quiet (fail)
            go_wp2_with fail
            exact ⟨⟨i + 1, by go_num, by omega, Lib.hid ⟨HN.out.1, drew_more HN.out.2 nq⟩⟩, by simp [intOf]; omega⟩
          · have hq : (((m : Int)) != ((n : Int))) = true := by rw [bne_iff_ne]; omega
            have HN := Lib.hid (HNO.out he)
            clear HGO HNO he
            go_wp2_with fail
            go_quiet (fail)
            go_wp2_with fail
            go_ret
            exact ⟨by rw [HN.out]; rfl, drew_more HI.out.2 nq⟩
        · have pm : decide ((m : Int) ≥ 65) = true := by simp; omega
          have pm2 : decide ((m : Int) ≤ 90) = false := by simp; omega
          have hMm : (if 65 ≤ m ∧ m ≤ 90 then m + 32 else m) = m := if_neg (by omega)
          have pn : decide ((n : Int) ≥ 65) = true := by simp; omega
          have pn2 : decide ((n : Int) ≤ 90) = true := by simp; omega
          have hMn : (if 65 ≤ n ∧ n ≤ 90 then n + 32 else n) = n + 32 := if_pos (by omega)
          rw [hMm, hMn] at HGO HNO
          clear hMm hMn
          by_cases he : m = n + 32
          · have hq : (((m : Int)) != ((n : Int) + 32)) = false := by rw [bne_eq_false_iff_eq]; omega
            have HN := Lib.hid (And.intro (HGO.out he) HI.out.2)
            clear HGO HNO he
            go_wp2_with fail
            go_quiet (fail)
            go_wp2_with fail
            exact ⟨⟨i + 1, by go_num, by omega, Lib.hid ⟨HN.out.1, drew_more HN.out.2 nq⟩⟩, by simp [intOf]; omega⟩
          · have hq : (((m : Int)) != ((n : Int) + 32)) = true := by rw [bne_iff_ne]; omega
            have HN := Lib.hid (HNO.out he)
            clear HGO HNO he
            go_wp2_with fail
            go_quiet (fail)
            go_wp2_with fail
            go_ret
            exact ⟨by rw [HN.out]; rfl, drew_more HI.out.2 nq⟩
        · have pm : decide ((m : Int) ≥ 65) = true := by simp; omega
          have pm2 : decide ((m : Int) ≤ 90) = true := by simp; omega
          have hMm : (if 65 ≤ m ∧ m ≤ 90 then m + 32 else m) = m + 32 := if_pos (by omega)
          have pn : decide ((n : Int) ≥ 65) = false := by simp; omega
          have hMn : (if 65 ≤ n ∧ n ≤ 90 then n + 32 else n) = n := if_neg (by omega)
          rw [hMm, hMn] at HGO HNO
          clear hMm hMn
          by_cases he : m + 32 = n
          · have hq : (((m : Int) + 32) != ((n : Int))) = false := by rw [bne_eq_false_iff_eq]; omega
            have HN := Lib.hid (And.intro (HGO.out he) HI.out.2)
            clear HGO HNO he
            go_wp2_with fail
            go_quiet (fail)
            go_wp2_with fail
            exact ⟨⟨i + 1, by go_num, by omega, Lib.hid ⟨HN.out.1, drew_more HN.out.2 nq⟩⟩, by simp [intOf]; omega⟩
          · have hq : (((m : Int) + 32) != ((n : Int))) = true := by rw [bne_iff_ne]; omega
            have HN := Lib.hid (HNO.out he)
            clear HGO HNO he
            go_wp2_with fail
            go_quiet (fail)
            go_wp2_with fail
            go_ret
            exact ⟨by rw [HN.out]; rfl, drew_more HI.out.2 nq⟩
        · have pm : decide ((m : Int) ≥ 65) = true := by simp; omega
          have pm2 : decide ((m : Int) ≤ 90) = true := by simp; omega
          have hMm : (if 65 ≤ m ∧ m ≤ 90 then m + 32 else m) = m + 32 := if_pos (by omega)
          have pn : decide ((n : Int) ≥ 65) = true := by simp; omega
          have pn2 : decide ((n : Int) ≤ 90) = false := by simp; omega
          have hMn : (if 65 ≤ n ∧ n ≤ 90 then n + 32 else n) = n := if_neg (by omega)
          rw [hMm, hMn] at HGO HNO
          clear hMm hMn
          by_cases he : m + 32 = n
          · have hq : (((m : Int) + 32) != ((n : Int))) = false := by rw [bne_eq_false_iff_eq]; omega
            have HN := Lib.hid (And.intro (HGO.out he) HI.out.2)
            clear HGO HNO he
            go_wp2_with fail
            go_quiet (fail)
            go_wp2_with fail
            exact ⟨⟨i + 1, by go_num, by omega, Lib.hid ⟨HN.out.1, drew_more HN.out.2 nq⟩⟩, by simp [intOf]; omega⟩
          · have hq : (((m : Int) + 32) != ((n : Int))) = true := by rw [bne_iff_ne]; omega
            have HN := Lib.hid (HNO.out he)
            clear HGO HNO he
            go_wp2_with fail
            go_quiet (fail)
            go_wp2_with fail
            go_ret
            exact ⟨by rw [HN.out]; rfl, drew_more HI.out.2 nq⟩
        · have pm : decide ((m : Int) ≥ 65) = true := by simp; omega
          have pm2 : decide ((m : Int) ≤ 90) = true := by simp; omega
          have hMm : (if 65 ≤ m ∧ m ≤ 90 then m + 32 else m) = m + 32 := if_pos (by omega)
          have pn : decide ((n : Int) ≥ 65) = true := by simp; omega
          have pn2 : decide ((n : Int) ≤ 90) = true := by simp; omega
          have hMn : (if 65 ≤ n ∧ n ≤ 90 then n + 32 else n) = n + 32 := if_pos (by omega)
          rw [hMm, hMn] at HGO HNO
          clear hMm hMn
          by_cases he : m + 32 = n + 32
          · have hq : (((m : Int) + 32) != ((n : Int) + 32)) = false := by rw [bne_eq_false_iff_eq]; omega
            have HN := Lib.hid (And.intro (HGO.out he) HI.out.2)
            clear HGO HNO he
            go_wp2_with fail
            go_quiet (fail)
            go_wp2_with fail
            exact ⟨⟨i + 1, by go_num, by omega, Lib.hid ⟨HN.out.1, drew_more HN.out.2 nq⟩⟩, by simp [intOf]; omega⟩
          · have hq : (((m : Int) + 32) != ((n : Int) + 32)) = true := by rw [bne_iff_ne]; omega
            have HN := Lib.hid (HNO.out he)
            clear HGO HNO he
            go_wp2_with fail
            go_quiet (fail)
            go_wp2_with fail
            go_ret
            exact ⟨by rw [HN.out]; rfl, drew_more HI.out.2 nq⟩
  · have t0 : ((a.length : Int) != (b.length : Int)) = true := by rw [bne_iff_ne]; omega
    have hr : foldSame a b = false := by
      simp only [foldSame, decide_eq_false_iff_not]
      intro h
      have := congrArg List.length h
      simp [low] at this
      exact hlen this
    have HR := Lib.hid hr
    clear hr
    go_enter Tryz.func72, Tryz.ntmps72
    go_wp2_with fail
    go_ret
    exact ⟨by rw [HR.out]; rfl, 0, rfl⟩

theorem fold_any (a b : List UInt8) (ha : a.length < 4000000000) (hb : b.length < 4000000000) (w : World) :
    Calls Tryz.prog 72 #[.string (Nm.bs a), .string (Nm.bs b)] w fun e w' => e = .returned (.bool (foldSame a b)) ∧ Below w.heap.size w w' :=
  (fold_quiet a b ha hb w).mono fun _ _ ⟨h1, m, h2⟩ => ⟨h1, by rw [h2]; exact drewN_below w m⟩
end Go.Proofs.YtjmahgefijncaaaGreatFmt

