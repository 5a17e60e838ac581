/- Plain: what a packet that was read has, written again. -/
import Derived.Test.YtjmahgefijncaaaGreatFmtJ15
import Derived.Test.YtjmahgefijncaaaGreatFmtJ11
import Derived.Shelf.Strconv.AppendInt10
import Derived.Deep.LoopGhost
set_option linter.unusedVariables false
set_option linter.unusedSimpArgs false
namespace Go.Proofs.YtjmahgefijncaaaGreatFmt.Ber

theorem tagMore_len : ∀ f n, (tagMore f n).length ≤ f
  | 0, n => by simp [tagMore]
  | f + 1, n => by simp only [tagMore]; split; simp; have := tagMore_len f (n / 128); simp; omega
theorem identBytes_len (c : Nat) (b : Bool) (t : Nat) : (identBytes c b t).length ≤ 13 := by
  have h : (tagBytes t).length ≤ 11 := by
    unfold tagBytes
    split
    · simp
    · have := tagMore_len 10 (t / 128); simp; omega
  unfold identBytes
  split
  · simp
  · rw [List.length_cons]; omega
theorem digits_len : ∀ f n, (digits f n).length ≤ f
  | 0, n => by simp [digits]
  | f + 1, n => by simp only [digits]; split; simp; have := digits_len f (n / 256); simp; omega
theorem lenBytes_len (n : Nat) : (lenBytes n).length ≤ 9 := by
  unfold lenBytes
  split
  · simp
  · have := digits_len 8 n; simp; omega
theorem enc_len (p : Pk) : (enc p).length ≤ 22 + (body p).length := by
  cases p with
  | mk c b t data items =>
    have := identBytes_len c b t
    have := lenBytes_len (body (.mk c b t data items)).length
    simp only [enc, List.length_append]
    omega
theorem bodies_append : ∀ (xs : List Pk) (p : Pk), bodies (xs ++ [p]) = bodies xs ++ enc p
  | [], .mk c b t d i => by simp [bodies, enc]
  | .mk c b t d i :: r, p => by simp only [List.cons_append, bodies, bodies_append r p, List.append_assoc]

/-- A packet of n bytes. -/
structure Fits (s : List UInt8) (p : Pk) (rest : List UInt8) : Prop where
  drop : ∃ m, rest = s.drop m ∧ 2 ≤ m ∧ m ≤ s.length
  size : (enc p).length + 20 * rest.length ≤ 20 * s.length

theorem prim_fits {c t n : Nat} {s0 s : List UInt8} {p : Pk} {rest : List UInt8} (h0 : ∃ m, s = s0.drop m ∧ 2 ≤ m ∧ m ≤ s0.length) (h : prim c t n s = .ok p rest) : Fits s0 p rest := by
  obtain ⟨m, rfl, hm2, hml⟩ := h0
  unfold prim at h
  have key : ∀ (data : List UInt8) (j : Nat), data.length ≤ j → j ≤ (s0.drop m).length → Fits s0 (.mk c false t data []) ((s0.drop m).drop j) := by
    intro data j hd hj
    have he := enc_len (.mk c false t data [])
    have hb : body (.mk c false t data []) = data := rfl
    rw [hb] at he
    rw [List.length_drop] at hj
    refine ⟨⟨m + j, by rw [List.drop_drop], by omega, by omega⟩, ?_⟩
    rw [List.drop_drop, List.length_drop]
    omega
  split at h
  · split at h
    · injection h with h1 h2
      subst h1 h2
      exact key [] 0 (by simp) (by omega)
    · cases h
  · split at h
    · cases h
    · split at h
      · cases h
      · split at h
        · injection h with h1 h2
          subst h1 h2
          exact key _ n (by rw [List.length_take]; omega) (by omega)
        · cases h

mutual
theorem readP_fits : ∀ (f d : Nat) (s : List UInt8) (p : Pk) (rest : List UInt8), readP f d s = .ok p rest → Fits s p rest
  | 0, d, s, p, rest, h => by simp [readP] at h
  | f + 1, d, s, p, rest, h => by
    simp only [readP] at h
    split at h
    · cases h
    · split at h
      · cases h
      · cases h
      · rename_i c t s1 hh
        obtain ⟨-, -, -, m, h1, h2, h3⟩ := header_bound hh
        exact kids_fits f d c t none 0 [] s1 p rest s ⟨m, h2, h1, h3⟩ (by simp [bodies]; rw [h2, List.length_drop]; omega) h
      · rename_i c b t n s1 hh
        obtain ⟨-, -, -, m, h1, h2, h3⟩ := header_bound hh
        split at h
        · cases h
        · split at h
          · exact kids_fits f d c t (some n) 0 [] s1 p rest s ⟨m, h2, h1, h3⟩ (by simp [bodies]; rw [h2, List.length_drop]; omega) h
          · exact prim_fits ⟨m, h2, h1, h3⟩ h
theorem kids_fits : ∀ (f d c t : Nat) (len : Option Nat) (got : Nat) (items : List Pk) (s : List UInt8) (p : Pk) (rest s0 : List UInt8), (∃ m, s = s0.drop m ∧ 2 ≤ m ∧ m ≤ s0.length) → 40 + (bodies items).length + 20 * s.length ≤ 20 * s0.length →
    kids f d c t len got items s = .ok p rest → Fits s0 p rest
  | 0, d, c, t, len, got, items, s, p, rest, s0, h0, hs, h => by simp [kids] at h
  | f + 1, d, c, t, len, got, items, s, p, rest, s0, h0, hs, h => by
    have key : ∀ r : List UInt8, (∃ m, r = s0.drop m ∧ 2 ≤ m ∧ m ≤ s0.length) → r.length ≤ s.length → Fits s0 (.mk c true t [] items) r := by
      intro r hr hl
      have he := enc_len (.mk c true t [] items)
      have hb : body (.mk c true t [] items) = bodies items := rfl
      rw [hb] at he
      exact ⟨hr, by omega⟩
    simp only [kids] at h
    split at h
    · injection h with h1 h2
      subst h1 h2
      exact key _ h0 (Nat.le_refl _)
    · split at h
      · cases h
      · split at h
        · cases h
        · cases h
        · rename_i q r hq
          have hf := readP_fits f (d + 1) s q r hq
          obtain ⟨m, hm1, hm2, hm3⟩ := h0
          obtain ⟨j, hj1, hj2, hj3⟩ := hf.drop
          have hr : ∃ m, r = s0.drop m ∧ 2 ≤ m ∧ m ≤ s0.length := ⟨m + j, by rw [hj1, hm1, List.drop_drop], by omega, by rw [hm1, List.length_drop] at hj3; omega⟩
          have hrl : r.length ≤ s.length := by rw [hj1, List.length_drop]; omega
          split at h
          · cases h
          · split at h
            · split at h
              · injection h with h1 h2
                subst h1 h2
                exact key _ hr hrl
              · cases h
            · refine kids_fits f d c t len _ _ r p rest s0 hr ?_ h
              have := hf.size
              rw [bodies_append, List.length_append]
              omega
end
end Go.Proofs.YtjmahgefijncaaaGreatFmt.Ber

/- Plain: what readPacket may come to: tags of whose values nothing is said may be refused or not. -/
namespace Go.Proofs.YtjmahgefijncaaaGreatFmt.Ber

def primR (c t n : Nat) (s : List UInt8) (r : Res) : Prop :=
  if s.length < n then r = .err else (r = .ok (.mk c false t (s.take n) []) (s.drop n) ∨ (known c t = false ∧ r = .err))

mutual
def readR : Nat → Nat → List UInt8 → Res → Prop
  | 0, _, _, _ => False
  | f + 1, d, s, r =>
    if 1000 ≤ d then r = .err else
    match header s with
    | none => r = .err
    | some (_, false, _, none, _) => r = .err
    | some (c, true, t, none, s1) => kidsR f d c t none 0 [] s1 r
    | some (c, b, t, some n, s1) => if 2147483647 < n then r = .err else if b then kidsR f d c t (some n) 0 [] s1 r else primR c t n s1 r
def kidsR : Nat → Nat → Nat → Nat → Option Nat → Nat → List Pk → List UInt8 → Res → Prop
  | 0, _, _, _, _, _, _, _, _ => False
  | f + 1, d, c, t, len, got, items, s, r =>
    if len = some got then r = .ok (.mk c true t [] items) s
    else if len.any (fun n => decide (n < got)) then r = .err
    else (readR f (d + 1) s .err ∧ r = .err) ∨ ∃ p rest, readR f (d + 1) s (.ok p rest) ∧
        (if isEOC p then (if len = none then r = .ok (.mk c true t [] items) rest else r = .err)
        else kidsR f d c t len (got + (s.length - rest.length)) (items ++ [p]) rest r)
end

theorem primR_fits {c t n : Nat} {s0 s : List UInt8} {p : Pk} {rest : List UInt8} (h0 : ∃ m, s = s0.drop m ∧ 2 ≤ m ∧ m ≤ s0.length) (h : primR c t n s (.ok p rest)) : Fits s0 p rest := by
  obtain ⟨m, rfl, hm2, hml⟩ := h0
  unfold primR at h
  split at h
  · cases h
  · rename_i hn
    rcases h with h | ⟨-, h⟩
    · injection h with h1 h2
      subst h1 h2
      have he := enc_len (.mk c false t ((s0.drop m).take n) [])
      have hb : body (.mk c false t ((s0.drop m).take n) []) = (s0.drop m).take n := rfl
      rw [hb, List.length_take] at he
      rw [List.length_drop] at hn he
      refine ⟨⟨m + n, by rw [List.drop_drop], by omega, by omega⟩, ?_⟩
      rw [List.drop_drop, List.length_drop]
      omega
    · cases h

mutual
theorem readR_fits : ∀ (f d : Nat) (s : List UInt8) (p : Pk) (rest : List UInt8), readR f d s (.ok p rest) → Fits s p rest
  | 0, d, s, p, rest, h => by simp [readR] at h
  | f + 1, d, s, p, rest, h => by
    simp only [readR] at h
    split at h
    · cases h
    · split at h
      · cases h
      · cases h
      · rename_i c t s1 hh
        obtain ⟨-, -, -, m, h1, h2, h3⟩ := header_bound hh
        exact kidsR_fits f d c t none 0 [] s1 p rest s ⟨m, h2, h1, h3⟩ (by simp [bodies]; rw [h2, List.length_drop]; omega) h
      · rename_i c b t n s1 hh
        obtain ⟨-, -, -, m, h1, h2, h3⟩ := header_bound hh
        split at h
        · cases h
        · split at h
          · exact kidsR_fits f d c t (some n) 0 [] s1 p rest s ⟨m, h2, h1, h3⟩ (by simp [bodies]; rw [h2, List.length_drop]; omega) h
          · exact primR_fits ⟨m, h2, h1, h3⟩ h
theorem kidsR_fits : ∀ (f d c t : Nat) (len : Option Nat) (got : Nat) (items : List Pk) (s : List UInt8) (p : Pk) (rest s0 : List UInt8), (∃ m, s = s0.drop m ∧ 2 ≤ m ∧ m ≤ s0.length) → 40 + (bodies items).length + 20 * s.length ≤ 20 * s0.length →
    kidsR f d c t len got items s (.ok p rest) → Fits s0 p rest
  | 0, d, c, t, len, got, items, s, p, rest, s0, h0, hs, h => by simp [kidsR] at h
  | f + 1, d, c, t, len, got, items, s, p, rest, s0, h0, hs, h => by
    have key : ∀ r : List UInt8, (∃ m, r = s0.drop m ∧ 2 ≤ m ∧ m ≤ s0.length) → r.length ≤ s.length → Fits s0 (.mk c true t [] items) r := by
      intro r hr hl
      have he := enc_len (.mk c true t [] items)
      have hb : body (.mk c true t [] items) = bodies items := rfl
      rw [hb] at he
      exact ⟨hr, by omega⟩
    simp only [kidsR] at h
    split at h
    · injection h with h1 h2
      subst h1 h2
      exact key _ h0 (Nat.le_refl _)
    · split at h
      · cases h
      · rcases h with ⟨-, h⟩ | ⟨q, r, hq, h⟩
        · cases h
        · have hf := readR_fits f (d + 1) s q r hq
          obtain ⟨m, hm1, hm2, hm3⟩ := h0
          obtain ⟨j, hj1, hj2, hj3⟩ := hf.drop
          have hr : ∃ m, r = s0.drop m ∧ 2 ≤ m ∧ m ≤ s0.length := ⟨m + j, by rw [hj1, hm1, List.drop_drop], by omega, by rw [hm1, List.length_drop] at hj3; omega⟩
          have hrl : r.length ≤ s.length := by rw [hj1, List.length_drop]; omega
          split at h
          · split at h
            · injection h with h1 h2
              subst h1 h2
              exact key _ hr hrl
            · cases h
          · refine kidsR_fits f d c t len _ _ r p rest s0 hr ?_ h
            have := hf.size
            rw [bodies_append, List.length_append]
            omega
end
end Go.Proofs.YtjmahgefijncaaaGreatFmt.Ber

/- Packets in memory, whatever Value holds. -/
namespace Go.Proofs.YtjmahgefijncaaaGreatFmt.Tot
open Go Go.RowKit

mutual
/-- The packet in block p. -/
def Tree (w : World) (p : Nat) : Ber.Pk → Prop
  | .mk c b t data items => ∃ (D : Nat) (row : Option Nat) (C cap : Nat) (val bv : Value) (xs : List Value), c < 4 ∧ t < 2 ^ 64 ∧
      w.heap[p]? = some (.cells (PkCells ((c * 64 : Nat) : Int) (if b then 32 else 0) t val bv D (.slice (some ⟨C, 0, none⟩) xs.length cap) (.string ⟨#[]⟩)) 171 (0, 0)) ∧
      BufAt w D row (Lib.byteCells (Ber.body (.mk c b t data items))) ∧ KidRow w C cap xs ∧ BvAt w c b data bv ∧ (b = false → items = []) ∧ (b = true → data = []) ∧ Kids w xs items
def Kids (w : World) (xs : List Value) : List Ber.Pk → Prop
  | [] => xs = []
  | x :: r => ∃ q vs, xs = .pointer (some ⟨q, 0, none⟩) :: vs ∧ Tree w q x ∧ Kids w vs r
end


/-- What readPacket comes to. -/
def PackOut (N B R A : Nat) (l : List UInt8) (i : Nat) (r : Ber.Res) (e : Ending) (w' : World) : Prop :=
  match r with
  | .bad => False
  | .err => ∃ pv n ev, e = .returned (.tuple #[.pointer pv, .int .i64 n, ev]) ∧ ErrAt N B w' ev
  | .ok p rest => ∃ q k : Nat, e = .returned (.tuple #[.pointer (some ⟨q, 0, none⟩), .int .i64 k, .nilIface]) ∧ B ≤ q ∧ Stable B w' (fun _ => False) (fun w2 => Tree w2 q p) ∧ Rd w' R A l (i + k) ∧ rest = l.drop (i + k)

/-- A primitive packet stands. -/
theorem prim_stable {B : Nat} {w : World} {p D C cap c t : Nat} {row : Option Nat} {val bv : Value} {data : List UInt8} (hc : c < 4) (ht : t < 2 ^ 64)
    (hp : w.heap[p]? = some (.cells (PkCells ((c * 64 : Nat) : Int) 0 t val bv D (.slice (some ⟨C, 0, none⟩) 0 cap) (.string ⟨#[]⟩)) 171 (0, 0)))
    (hb : BufAt w D row (Lib.byteCells data)) (hk : KidRow w C cap []) (hpB : B ≤ p) (hDB : B ≤ D) (hCB : B ≤ C) (hrB : ∀ g, row = some g → B ≤ g)
    (hbv : (c ≠ 0 ∧ bv = .slice none 0 0) ∨ c = 0 ∧ ∃ G cp, bv = .slice (some ⟨G, 0, none⟩) data.length cp ∧ B ≤ G ∧ G < w.heap.size ∧ ∀ j v, (Lib.byteCells data)[j]? = some v → w.cell? ⟨G, j, none⟩ = some v) :
    Stable B w (fun _ => False) (fun w2 => Tree w2 p (.mk c false t data [])) := by
  intro w2 h2
  have hplt := blockLt hp
  unfold Tree
  refine ⟨D, row, C, cap, val, bv, [], hc, ht, (h2 p hpB hplt id).trans hp, hb.kept (h2 D hDB hb.ltD id) (fun g e => h2 g (hrB g e) (by subst e; exact hb.ltG) id), hk.stays (h2 C hCB hk.lt id), ?_, fun _ => rfl, (fun h => by cases h), rfl⟩
  unfold BvAt
  rcases hbv with ⟨h0, rfl⟩ | ⟨h0, G, cp, rfl, hG, hGl, hs⟩
  · rw [if_neg (by rintro ⟨h, _⟩; exact h0 h)]
  · rw [if_pos ⟨h0, rfl⟩]
    exact ⟨G, cp, rfl, fun j v hj => (World.cell?_of_block (w := w) (h2 G hG hGl id)).trans (hs j v hj)⟩

theorem Kids.length : ∀ {w : World} {xs : List Value} {items : List Ber.Pk}, Kids w xs items → xs.length = items.length
  | w, xs, [], h => by unfold Kids at h; rw [h]; rfl
  | w, xs, x :: r, h => by
    unfold Kids at h
    obtain ⟨q, vs, rfl, _, h2⟩ := h
    simp [Kids.length h2]
theorem Kids.snoc : ∀ {w : World} {xs : List Value} {items : List Ber.Pk} {q : Nat} {p : Ber.Pk}, Kids w xs items → Tree w q p → Kids w (xs ++ [.pointer (some ⟨q, 0, none⟩)]) (items ++ [p])
  | w, xs, [], q, p, h, ht => by
    unfold Kids at h
    subst h
    simp only [List.nil_append]
    unfold Kids
    exact ⟨q, [], rfl, ht, by unfold Kids; rfl⟩
  | w, xs, x :: r, q, p, h, ht => by
    unfold Kids at h
    obtain ⟨q', vs, rfl, h1, h2⟩ := h
    simp only [List.cons_append]
    unfold Kids
    exact ⟨q', vs ++ [.pointer (some ⟨q, 0, none⟩)], rfl, h1, Kids.snoc h2 ht⟩

/-- isEOCPacket of a packet. -/
theorem eoc_tree (w : World) (q : Nat) (p : Ber.Pk) (h : Tree w q p) :
    Calls Tryz.prog 119 #[.pointer (some ⟨q, 0, none⟩)] w fun e w' => e = .returned (.bool (Ber.isEOC p)) ∧ w = w' := by
  cases p with
  | mk c b t data items =>
    unfold Tree at h
    obtain ⟨D, row, C, cap, val, bv, xs, hc, ht, hp, hb, hk, hbv, hi, hd, hkids⟩ := h
    obtain ⟨bo, bn, bc, rfl, hbn⟩ : ∃ bo bn bc, bv = .slice bo bn bc ∧ (c = 0 ∧ b = false → bn = data.length) := by
      unfold BvAt at hbv
      split at hbv
      · obtain ⟨G, cp, h1, _⟩ := hbv
        exact ⟨_, _, _, h1, fun _ => rfl⟩
      · rename_i hne
        exact ⟨none, 0, 0, hbv, fun h => absurd h hne⟩
    refine (eoc_any w q ((c * 64 : Nat) : Int) (if b then 32 else 0) t _ bo bn bc _ _ xs.length cap _ (0, 0) hp).mono fun e w' ⟨he, hw⟩ => ⟨?_, hw⟩
    rw [he]
    congr 2
    have hxl := hkids.length
    by_cases h0 : c = 0 ∧ b = false
    · obtain ⟨rfl, rfl⟩ := h0
      rw [hbn ⟨rfl, rfl⟩, hxl, hi rfl]
      have e1 : ((t : Int) == 0) = decide (t = 0) := by by_cases h : t = 0 <;> simp [h]
      have e2 : data.isEmpty = decide (data.length = 0) := by cases data <;> simp
      simp only [Ber.isEOC, e1, e2]
      simp
    · have hf : ((((c * 64 : Nat) : Int) == 0) && ((if b then 32 else 0 : Int) == 0)) = false := by
        cases b
        · have : c ≠ 0 := fun h => h0 ⟨h, rfl⟩
          have h64 : (((c * 64 : Nat) : Int) == 0) = false := by rw [beq_eq_false_iff_ne]; omega
          rw [h64]; rfl
        · simp
      have hE : Ber.isEOC (.mk c b t data items) = false := by
        simp only [Ber.isEOC]
        cases b
        · have : c ≠ 0 := fun h => h0 ⟨h, rfl⟩
          simp [this]
        · simp
      rw [hE]
      rw [Bool.and_assoc ((t : Int) == 0), hf]
      simp
end Go.Proofs.YtjmahgefijncaaaGreatFmt.Tot

/- What the whole reading asks of package-level variables. -/
namespace Go.Proofs.YtjmahgefijncaaaGreatFmt
open Go Go.RowKit

/-- The tables of utf8.Valid. -/
structure UtvTab (w : World) : Prop where
  first : ∀ c : Nat, c < 256 → ∃ x : Nat, x < 256 ∧ w.cell? ⟨4, c, none⟩ = some (.int .u8 (x : Int))
  acc : ∀ k : Nat, k < 16 → ∃ lo hi : Nat, w.cell? ⟨5, k * 2, none⟩ = some (.int .u8 (lo : Int)) ∧ w.cell? ⟨5, k * 2 + 1, none⟩ = some (.int .u8 (hi : Int))
theorem UtvTab.stays {w w' : World} (h : UtvTab w) (hb : Below w.heap.size w w') : UtvTab w' := by
  refine ⟨fun c hc => ?_, fun k hk => ?_⟩
  · obtain ⟨x, hx, h1⟩ := h.first c hc
    exact ⟨x, hx, (hb.cell (World.block_lt_of_cell? w ⟨_, c, none⟩ h1)).trans h1⟩
  · obtain ⟨lo, hi, h1, h2⟩ := h.acc k hk
    exact ⟨lo, hi, (hb.cell (World.block_lt_of_cell? w ⟨_, k * 2, none⟩ h1)).trans h1, (hb.cell (World.block_lt_of_cell? w ⟨_, k * 2 + 1, none⟩ h2)).trans h2⟩

structure EnvT (N : Nat) (w : World) : Prop where
  env : Env N w
  pow : Lib.TabBelow Tryz.prog N w "internal/strconv.uint64pow10" .u64 Lib.pow10Tab
  utv : ∀ w', Below N w w' → UtvTab w'
theorem EnvT.below {N B : Nat} {w w' : World} (h : EnvT N w) (k : Below B w w') (hB : N ≤ B) : EnvT N w' :=
  ⟨h.env.below k hB, h.pow.on (k.mono hB), fun w2 h2 => h.utv w2 ((k.mono hB).trans h2)⟩
theorem Keep.atMost {N B R : Nat} {w w' : World} (k : Keep B R w w') (hB : N ≤ B) (hR : N ≤ R) : Below N w w' := ⟨k.os, k.tape, k.output, k.size, fun q hq => k.block q (by omega) (by omega)⟩
theorem EnvT.keep {N B R : Nat} {w w' : World} (h : EnvT N w) (k : Keep B R w w') (hB : N ≤ B) (hR : N ≤ R) : EnvT N w' := h.below (k.atMost hB hR) (Nat.le_refl _)
theorem EnvT.powAt {N B : Nat} {w : World} (h : EnvT N w) (hB : N ≤ B) : Lib.TabBelow Tryz.prog B w "internal/strconv.uint64pow10" .u64 Lib.pow10Tab := fun w' h' => h.pow w' (h'.mono hB)
theorem EnvT.utvNow {N : Nat} {w : World} (h : EnvT N w) : UtvTab w := h.utv w (Below.refl _ _)
end Go.Proofs.YtjmahgefijncaaaGreatFmt

/- readPacket of constructed packets: the loop's invariant. -/
namespace Go.Proofs.YtjmahgefijncaaaGreatFmt.Tot
open Go Go.RowKit

theorem _root_.Go.Proofs.YtjmahgefijncaaaGreatFmt.Stable.widen {B B' : Nat} {w : World} {Own : Nat → Prop} {Q : World → Prop} (h : Stable B' w (fun _ => False) Q) (hB : B ≤ B') (hO : ∀ k, Own k → k < B') : Stable B w Own Q :=
  fun w2 h2 => h w2 fun k hk hlt _ => h2 k (Nat.le_trans hB hk) hlt (fun e => by have := hO k e; omega)
theorem _root_.Go.Proofs.YtjmahgefijncaaaGreatFmt.Stable.both {B : Nat} {w : World} {Own : Nat → Prop} {Q Q' : World → Prop} (h : Stable B w Own Q) (h' : Stable B w Own Q') : Stable B w Own (fun w => Q w ∧ Q' w) := fun w2 h2 => ⟨h w2 h2, h' w2 h2⟩

/-- Positions from l.length - m on: readPacket ends. -/
def ReadHolds (N R A : Nat) (l : List UInt8) (f : Nat) : Prop :=
  ∀ (w : World) (i d : Nat), Rd w R A l i → EnvT N w → d < 1000000 → 2 * (l.length - i) + 1 ≤ f →
    Calls Tryz.prog 110 #[.iface 157 (.pointer (some ⟨R, 0, none⟩)), .int .i64 d] w fun e w' => (∃ r, Ber.readR f d (l.drop i) r ∧ PackOut N w.heap.size R A l i r e w') ∧ Keep w.heap.size R w w'

/-- A packet under way. -/
structure Way (R A : Nat) (l : List UInt8) (i c t : Nat) (w : World) (P D : Nat) (k got : Nat) (row : Option Nat) (C cap : Nat) (xs : List Value) (items : List Ber.Pk) (wr : World) : Prop where
  le : got ≤ k
  rd : Rd wr R A l (i + k)
  keep : Keep w.heap.size R w wr
  hP : wr.heap[P]? = some (.cells (PkCells ((c * 64 : Nat) : Int) 32 t .nilIface (.slice none 0 0) D (.slice (some ⟨C, 0, none⟩) xs.length cap) (.string ⟨#[]⟩)) 171 (0, 0))
  hD : BufAt wr D row (Lib.byteCells (Ber.bodies items))
  hC : KidRow wr C cap xs
  cB : w.heap.size ≤ C
  rB : ∀ g, row = some g → w.heap.size ≤ g
  kids : Stable w.heap.size wr (fun k => k = P ∨ k = D ∨ row = some k ∨ k = C) (fun w2 => Kids w2 xs items)
  size : (Ber.bodies items).length ≤ 20 * k
  few : xs.length ≤ k

/-- The loop's head, at most kq rounds to come. -/
def LoopInv (R A : Nat) (l : List UInt8) (i d c t : Nat) (len : Option Nat) (f : Nat) (R0 : Ber.Res → Prop) (w : World) (P D : Nat) (kq : Nat) (v9 v12 : Value) (wr : World) : Prop :=
  ∃ (k got : Nat) (row : Option Nat) (C cap : Nat) (xs : List Value) (items : List Ber.Pk), v9 = .int .i64 k ∧ v12 = .int .i64 got ∧ kq ≤ f ∧ Way R A l i c t w P D k got row C cap xs items wr ∧ 2 * (l.length - (i + k)) + 2 ≤ kq ∧ ∀ r, Ber.kidsR kq d c t len got items (l.drop (i + k)) r → R0 r

/-- The loop's end: the packet stands. -/
theorem Way.done {N R A : Nat} {l : List UInt8} {i c t : Nat} {w : World} {P D k got : Nat} {row : Option Nat} {C cap : Nat} {xs : List Value} {items : List Ber.Pk} {wr : World}
    (h : Way R A l i c t w P D k got row C cap xs items wr) (hc : c < 4) (ht : t < 2 ^ 63) (hPB : w.heap.size ≤ P) (hDB : w.heap.size ≤ D) :
    PackOut N w.heap.size R A l i (.ok (.mk c true t [] items) (l.drop (i + k))) (.returned (.tuple #[.pointer (some ⟨P, 0, none⟩), .int .i64 k, .nilIface])) wr ∧ Keep w.heap.size R w wr := by
  refine ⟨⟨P, k, rfl, hPB, ?_, h.rd, rfl⟩, h.keep⟩
  intro w2 h2
  have hst : ∀ k, w.heap.size ≤ k → k < wr.heap.size → w2.heap[k]? = wr.heap[k]? := fun k h1 h3 => h2 k h1 h3 id
  unfold Tree
  refine ⟨D, row, C, cap, .nilIface, .slice none 0 0, xs, hc, by omega, ?_, h.hD.kept (hst D hDB h.hD.ltD) (fun g e => hst g (h.rB g e) (by have := h.hD; subst e; exact this.ltG)), h.hC.stays (hst C h.cB h.hC.lt), ?_, (fun e => by cases e), fun _ => rfl, h.kids w2 (fun k h1 h3 _ => hst k h1 h3)⟩
  · rw [hst P hPB (blockLt h.hP), h.hP]
    simp
  · unfold BvAt
    rw [if_neg (by rintro ⟨_, h⟩; cases h)]

/-- A child has been read. -/
theorem Way.child {R A : Nat} {l : List UInt8} {i c t : Nat} {w : World} {P D k got : Nat} {row : Option Nat} {C cap : Nat} {xs : List Value} {items : List Ber.Pk} {wr w2 : World} {q k' : Nat} {p : Ber.Pk}
    (h : Way R A l i c t w P D k got row C cap xs items wr) (hRlt : R < w.heap.size) (hPB : w.heap.size ≤ P) (hDB : w.heap.size ≤ D)
    (hk : Keep wr.heap.size R wr w2) (hr : Rd w2 R A l (i + k + k')) (hs : Stable wr.heap.size w2 (fun _ => False) (fun w => Tree w q p)) :
    Way R A l i c t w P D (k + k') (got + k') row C cap xs items w2 ∧ Stable w.heap.size w2 (fun k => k = P ∨ k = D ∨ row = some k ∨ k = C) (fun w2 => Kids w2 (xs ++ [.pointer (some ⟨q, 0, none⟩)]) (items ++ [p])) := by
  have hsz := h.keep.size
  have hst : ∀ k, w.heap.size ≤ k → k < wr.heap.size → w2.heap[k]? = wr.heap[k]? := fun k h1 h2 => hk.block k h2 (by omega)
  have hkids : Stable w.heap.size w2 (fun k => k = P ∨ k = D ∨ row = some k ∨ k = C) (fun w2 => Kids w2 xs items) :=
    h.kids.only (Only.ofKeep hk) (fun i h1 _ h2 => by omega) (fun i _ h => h)
  refine ⟨⟨by have := h.le; omega, by rw [← Nat.add_assoc]; exact hr, h.keep.trans (hk.mono hsz), (hst P hPB (blockLt h.hP)).trans h.hP, h.hD.kept (hst D hDB h.hD.ltD) (fun g e => hst g (h.rB g e) (by have := h.hD; subst e; exact this.ltG)), h.hC.stays (hst C h.cB h.hC.lt), h.cB, h.rB, hkids, by have := h.size; omega, by have := h.few; omega⟩, ?_⟩
  refine (hkids.both (hs.widen hsz ?_)).imp fun w ⟨h1, h2⟩ => h1.snoc h2
  rintro k (rfl | rfl | h1 | rfl)
  · exact blockLt h.hP
  · exact h.hD.ltD
  · have := h.hD; subst h1; exact this.ltG
  · exact h.hC.lt

/-- .. and appended. -/
theorem Way.next {R A : Nat} {l : List UInt8} {i c t : Nat} {w : World} {P D k k' got : Nat} {row row' : Option Nat} {C cap C' cap' : Nat} {xs : List Value} {items : List Ber.Pk} {w2 w3 : World} {q : Nat} {p : Ber.Pk}
    (h : Way R A l i c t w P D (k + k') got row C cap xs items w2) (hRlt : R < w.heap.size) (hAlt : A < w.heap.size) (hPB : w.heap.size ≤ P) (hDB : w.heap.size ≤ D)
    (hk : Stable w.heap.size w2 (fun k => k = P ∨ k = D ∨ row = some k ∨ k = C) (fun w2 => Kids w2 (xs ++ [.pointer (some ⟨q, 0, none⟩)]) (items ++ [p])))
    (hP : w3.heap[P]? = some (.cells (PkCells ((c * 64 : Nat) : Int) 32 t .nilIface (.slice none 0 0) D (.slice (some ⟨C', 0, none⟩) (xs.length + 1) cap') (.string ⟨#[]⟩)) 171 (0, 0)))
    (hD : BufAt w3 D row' (Lib.byteCells (Ber.bodies items ++ Ber.enc p))) (hC : KidRow w3 C' cap' (xs ++ [.pointer (some ⟨q, 0, none⟩)]))
    (hr : row' = row ∨ ∃ g, row' = some g ∧ w2.heap.size ≤ g) (hcc : C' = C ∨ w2.heap.size ≤ C') (hf : Only (fun k => k = P ∨ k = D ∨ row = some k ∨ k = C) w2 w3)
    (hsz : (Ber.bodies items).length + (Ber.enc p).length ≤ 20 * (k + k')) (hfew : xs.length + 1 ≤ k + k') :
    Way R A l i c t w P D (k + k') got row' C' cap' (xs ++ [.pointer (some ⟨q, 0, none⟩)]) (items ++ [p]) w3 := by
  have hs := h.keep.size
  have hown : ∀ g, (g = P ∨ g = D ∨ row = some g ∨ g = C) → w.heap.size ≤ g := by
    rintro g (rfl | rfl | h1 | rfl)
    · exact hPB
    · exact hDB
    · exact h.rB g h1
    · exact h.cB
  have hst : ∀ g, g < w.heap.size → w3.heap[g]? = w2.heap[g]? := fun g hg => hf.block g (by omega) (fun e => by have := hown g e; omega)
  refine ⟨h.le, h.rd.stays (hst R hRlt) (hst A hAlt), h.keep.trans (hf.toKeep (fun g e => Or.inl (hown g e)) hs), by rw [List.length_append]; exact hP, by rw [Ber.bodies_append]; exact hD, hC, ?_, ?_, hk.only hf (fun i _ _ h => h) ?_, by rw [Ber.bodies_append, List.length_append]; exact hsz, by rw [List.length_append]; exact hfew⟩
  · rcases hcc with e | e
    · rw [e]; exact h.cB
    · omega
  · intro g e
    rcases hr with e2 | ⟨g', e2, e3⟩
    · exact h.rB g (by rw [← e2]; exact e)
    · rw [e2] at e; rw [← Option.some.inj e]; omega
  · rintro g hg (h1 | h1 | h1 | h1)
    · exact Or.inl h1
    · exact Or.inr (Or.inl h1)
    · rcases hr with e2 | ⟨g', e2, e3⟩
      · exact Or.inr (Or.inr (Or.inl (by rw [← e2]; exact h1)))
      · rw [e2] at h1; have := Option.some.inj h1; omega
    · rcases hcc with e | e
      · exact Or.inr (Or.inr (Or.inr (by rw [← e]; exact h1)))
      · omega
end Go.Proofs.YtjmahgefijncaaaGreatFmt.Tot

/- readPacket: what is refused. -/
namespace Go.Proofs.YtjmahgefijncaaaGreatFmt.Tot
open Go Go.RowKit

theorem new_keep (s : ByteArray) (hs : 0 < s.size) (hs2 : s.size < 1000) (N B : Nat) (w : World) (hB : B ≤ w.heap.size) :
    Calls Tryz.prog 69 #[.string s] w fun e w' => ∃ a, e = .returned (.iface 144 (.pointer (some a))) ∧ ErrAt N B w' (.iface 144 (.pointer (some a))) ∧ Below w.heap.size w w' := by
  refine (new_err s hs hs2 N w).mono fun e w' ⟨ev, he, h1, h2⟩ => ?_
  obtain ⟨a, rfl⟩ := h1.iface
  exact ⟨a, he, h1.mono hB, h2⟩

set_option maxRecDepth 100000 in
set_option maxHeartbeats 4000000 in
theorem pack_deep (N : Nat) (w : World) (R A : Nat) (l : List UInt8) (i : Nat) (d : Nat) (hd : 1000 ≤ d) (hd2 : d < 1000000) :
    Calls Tryz.prog 110 #[.iface 157 (.pointer (some ⟨R, 0, none⟩)), .int .i64 d] w fun e w' => PackOut N w.heap.size R A l i .err e w' ∧ Keep w.heap.size R w w' := by
  have hdi : decide ((d : Int) ≥ 1000) = true := by simp; omega
  go_enter Tryz.func110, Tryz.ntmps110
  go_wp2_with fail
  refine (new_keep _ (by decide) (by decide) N w.heap.size _ (Nat.le_refl _)).mono ?_
  rintro e w1 ⟨a, rfl, he, hb⟩
  have HE := Lib.hid he
  have HB := Lib.hid hb
  clear he hb
  go_wp2
  go_ret3
  exact ⟨⟨_, _, _, rfl, HE.out⟩, Keep.ofBelow HB.out⟩

set_option maxRecDepth 100000 in
set_option maxHeartbeats 4000000 in
theorem pack_head (N : Nat) (w : World) (R A : Nat) (l : List UInt8) (i : Nat) (h : Rd w R A l i) (hE : Env N w) (hN : N ≤ R) (d : Nat) (hd : d < 1000) (hh : Ber.header (l.drop i) = none) :
    Calls Tryz.prog 110 #[.iface 157 (.pointer (some ⟨R, 0, none⟩)), .int .i64 d] w fun e w' => PackOut N w.heap.size R A l i .err e w' ∧ Keep w.heap.size R w w' := by
  have hhd := head_any N w R A l i h hE hN
  have hdi : decide ((d : Int) ≥ 1000) = false := by simp; omega
  have hRlt := h.lt
  have HHD := Lib.hid hhd
  have HH := Lib.hid hh
  clear hhd hh h hE
  go_enter Tryz.func110, Tryz.ntmps110
  go_wp2_with fail
  refine HHD.out.mono ?_
  rintro e w1 ⟨ho, hk⟩
  unfold HeadOut at ho
  rw [HH.out] at ho
  obtain ⟨x, y, ev, rfl, he⟩ := ho
  obtain ⟨a, rfl⟩ := he.iface
  simp only [noTag]
  have HE := Lib.hid (he.alloc (.cells #[.int .u8 0, .int .u8 0, .int .u64 0] 168))
  have HK := Lib.hid (hk.trans ((Keep.refl w.heap.size R w1).alloc hk.size (.cells #[.int .u8 0, .int .u8 0, .int .u64 0] 168)))
  clear he hk
  go_wp2
  go_ret3
  exact ⟨⟨_, _, _, rfl, HE.out⟩, HK.out⟩

set_option maxRecDepth 100000 in
set_option maxHeartbeats 4000000 in
theorem pack_long (N : Nat) (w : World) (R A : Nat) (l : List UInt8) (i : Nat) (h : Rd w R A l i) (hE : Env N w) (hN : N ≤ R) (d : Nat) (hd : d < 1000) (c t n : Nat) (b : Bool) (rest : List UInt8) (hh : Ber.header (l.drop i) = some (c, b, t, some n, rest)) (hn : 2147483647 < n) :
    Calls Tryz.prog 110 #[.iface 157 (.pointer (some ⟨R, 0, none⟩)), .int .i64 d] w fun e w' => PackOut N w.heap.size R A l i .err e w' ∧ Keep w.heap.size R w w' := by
  have hhd := head_any N w R A l i h hE hN
  have hdi : decide ((d : Int) ≥ 1000) = false := by simp; omega
  have hRlt := h.lt
  have hnb : decide ((n : Int) > 2147483647) = true := by simp; omega
  have hn1 : ((n : Int) != -1) = true := by rw [bne_iff_ne]; omega
  have HHD := Lib.hid hhd
  have HH := Lib.hid hh
  clear hhd hh h hE
  go_enter Tryz.func110, Tryz.ntmps110
  go_wp2_with fail
  refine HHD.out.mono ?_
  rintro e w1 ⟨ho, hk⟩
  unfold HeadOut at ho
  rw [HH.out] at ho
  obtain ⟨k, rfl, hr1, hrest⟩ := ho
  obtain ⟨x, y, z, htv, -⟩ := tagValue_open c b t
  rw [htv]
  simp only [lenInt]
  have hsz1 := hk.size
  have HK := Lib.hid (hk.trans ((Keep.refl w.heap.size R w1).alloc hk.size (.cells #[.int .u8 x, .int .u8 y, .int .u64 z] 168)))
  clear hr1 hrest hk htv
  go_wp2_with fail
  refine (new_keep _ (by decide) (by decide) N w.heap.size _ (by simp; omega)).mono ?_
  rintro e w3 ⟨a, rfl, he, hb⟩
  have HE := Lib.hid he
  have HB := Lib.hid (HK.out.trans (Keep.ofBelow (hb.mono (by simp; omega))))
  clear he hb
  go_wp2
  go_ret3
  exact ⟨⟨_, _, _, rfl, HE.out⟩, HB.out⟩

set_option maxRecDepth 100000 in
set_option maxHeartbeats 8000000 in
theorem pack_short (N : Nat) (w : World) (R A : Nat) (l : List UInt8) (i : Nat) (h : Rd w R A l i) (hE : Env N w) (hN : N ≤ R) (d : Nat) (hd : d < 1000) (c t n : Nat) (rest : List UInt8)
    (hh : Ber.header (l.drop i) = some (c, false, t, some n, rest)) (hn : n ≤ 2147483647) (hm480 : rest.length ≤ 480) (hlen : rest.length < n) :
    Calls Tryz.prog 110 #[.iface 157 (.pointer (some ⟨R, 0, none⟩)), .int .i64 d] w fun e w' => PackOut N w.heap.size R A l i .err e w' ∧ Keep w.heap.size R w w' := by
  have hhd := head_any N w R A l i h hE hN
  have hm2 := make2
  have hdi : decide ((d : Int) ≥ 1000) = false := by simp; omega
  have hRlt := h.lt
  have hAlt := h.ltA (by rcases Nat.eq_zero_or_pos l.length with h0 | h0; · rw [List.length_eq_zero_iff.1 h0] at hh; simp [Ber.header, Ber.ident] at hh
                         · exact h0)
  have HHD := Lib.hid hhd
  have HH := Lib.hid hh
  have HE := Lib.hid hE
  have HLEN := Lib.hid hlen
  have HM := Lib.hid hm480
  clear hhd hh h hE hlen hm480
  go_enter Tryz.func110, Tryz.ntmps110
  go_wp2_with fail
  refine HHD.out.mono ?_
  rintro e w1 ⟨ho, hk⟩
  unfold HeadOut at ho
  rw [HH.out] at ho
  obtain ⟨k, rfl, hr1, hrest⟩ := ho
  simp only [lenInt, tagValue]
  have hsz1 := hk.size
  obtain ⟨x, hx⟩ : ∃ x : Nat, x = c * 64 := ⟨_, rfl⟩
  rw [← hx]
  obtain ⟨m, hm⟩ : ∃ m, m = rest.length := ⟨_, rfl⟩
  have hrl : m = l.length - (i + k) := by rw [hm, hrest, List.length_drop]
  have hmn : m < n := by rw [hm]; exact HLEN.out
  have hm480 : m ≤ 480 := by rw [hm]; exact HM.out
  have hLl : ((startW w1 x 0 t).alloc (.cells #[.iface 157 (.pointer (some ⟨R, 0, none⟩)), .int .i64 n] 215)).heap[w1.heap.size + 1 + 1 + 1 + 1]? = some (.cells #[.iface 157 (.pointer (some ⟨R, 0, none⟩)), .int .i64 n] 215 (0, 0)) := by
    have := heap_alloc_new (startW w1 x 0 t) (.cells #[.iface 157 (.pointer (some ⟨R, 0, none⟩)), .int .i64 n] 215)
    rw [startW_size] at this
    exact this
  have hszl : ((startW w1 x 0 t).alloc (.cells #[.iface 157 (.pointer (some ⟨R, 0, none⟩)), .int .i64 n] 215)).heap.size = w1.heap.size + 1 + 1 + 1 + 1 + 1 := by rw [World.size_alloc, startW_size]
  have hkl : Keep w.heap.size R w ((startW w1 x 0 t).alloc (.cells #[.iface 157 (.pointer (some ⟨R, 0, none⟩)), .int .i64 n] 215)) := hk.trans (Keep.ofBelow ((startW_below w1 x 0 t).trans ((Below.refl _ _).alloc (by rw [startW_size]; omega) _) |>.mono hsz1))
  have hEl := HE.out.keep hkl (by omega) hN
  have hRl : Rd ((startW w1 x 0 t).alloc (.cells #[.iface 157 (.pointer (some ⟨R, 0, none⟩)), .int .i64 n] 215)) R A l (i + k) := ((((hr1.alloc _).alloc _).alloc _).alloc _).alloc _
  have hpos := hr1.pos
  have hall : Calls Tryz.prog 121 #[.iface 213 (.pointer (some ⟨w1.heap.size + 1 + 1 + 1 + 1, 0, none⟩))] ((startW w1 x 0 t).alloc (.cells #[.iface 157 (.pointer (some ⟨R, 0, none⟩)), .int .i64 n] 215)) fun e w' =>
      e = .returned (.tuple #[.slice (some ⟨w1.heap.size + 1 + 1 + 1 + 1 + 1, 0, none⟩) m 512, .nilIface]) ∧ Keep w.heap.size R w w' := by
    by_cases hm0 : m = 0
    · have hi0 : i + k = l.length := by omega
      rw [hi0] at hRl
      have hall := all_end N _ (w1.heap.size + 1 + 1 + 1 + 1) R A l hRl n hLl (by omega) (by omega) hEl (by omega) (by omega) (by omega)
      rw [hszl] at hall
      exact hall.mono fun e w' ⟨he, hkp, _⟩ => ⟨by rw [he, hm0], hkl.trans (hkp.mono (by omega))⟩
    · have hall := all_some N _ (w1.heap.size + 1 + 1 + 1 + 1) R A l (i + k) hRl (by omega) n hLl (by omega) (by omega) hEl hN (by omega) (by omega) m (by omega) hm480
      rw [hszl] at hall
      exact hall.mono fun e w' ⟨he, hkp, _, _⟩ => ⟨he, hkl.trans (hkp.mono (by omega))⟩
  have hnb : decide ((n : Int) > 2147483647) = false := by simp; omega
  have hn1 : ((n : Int) != -1) = true := by rw [bne_iff_ne]; omega
  have hn2 : ((n : Int) == -1) = false := by rw [beq_eq_false_iff_ne]; omega
  have hn3 : decide ((n : Int) > 0) = true := by simp; omega
  have hn4 : decide ((m : Int) < (n : Int)) = true := by simp; omega
  have HALL := Lib.hid hall
  clear hr1 hrest hk hx hLl hszl hkl hall hEl hRl hpos hrl hm
  go_wp2_with fail
  refine (limit_any _ R n).mono ?_
  rintro e w3 ⟨rfl, rfl⟩
  go_wp2_with fail
  refine HALL.out.mono ?_
  rintro e w5 ⟨rfl, hK5⟩
  have hE5 := HE.out.keep hK5 (by omega) hN
  obtain ⟨a, ha, hae⟩ := hE5.eofErr w.heap.size
  have HE5 := Lib.hid hE5
  have HK5 := Lib.hid hK5
  have HAE := Lib.hid hae
  clear hE5 hK5 hae
  go_wp2_with fail
  refine (uneof_any N w.heap.size w5 HE5.out _ HAE.out).mono ?_
  rintro e w6 ⟨ev, rfl, hev, rfl⟩
  have HEV := Lib.hid hev
  obtain ⟨a', rfl⟩ := hev.iface
  clear hev
  go_wp2
  go_ret3
  exact ⟨⟨_, _, _, rfl, HEV.out⟩, HK5.out⟩
end Go.Proofs.YtjmahgefijncaaaGreatFmt.Tot

/- readPacket of constructed packets. -/
namespace Go.Proofs.YtjmahgefijncaaaGreatFmt.Tot
open Go Go.RowKit

set_option maxRecDepth 100000 in
set_option maxHeartbeats 16000000 in
theorem pack_built_some (N R A : Nat) (l : List UInt8) (hN : N ≤ R) (f : Nat) (ih : ∀ g, g < f → ReadHolds N R A l g) (w : World) (i d c t : Nat) (n : Nat) (hn31 : n ≤ 2147483647) (rest : List UInt8) (R0 : Ber.Res → Prop) (h : Rd w R A l i) (hE : EnvT N w) (hd : d < 1000)
    (hh : Ber.header (l.drop i) = some (c, true, t, (some n), rest)) (hfu : 2 * (l.length - i) ≤ f) (hr : ∀ r, Ber.kidsR f d c t (some n) 0 [] rest r → R0 r) :
    Calls Tryz.prog 110 #[.iface 157 (.pointer (some ⟨R, 0, none⟩)), .int .i64 d] w fun e w' => (∃ r, R0 r ∧ PackOut N w.heap.size R A l i r e w') ∧ Keep w.heap.size R w w' := by
  have hhd := head_any N w R A l i h hE.env hN
  have hm2 := make2
  have hdi : decide ((d : Int) ≥ 1000) = false := by simp; omega
  obtain ⟨hc4, ht63, -, m0, hm01, hm02, hm03⟩ := Ber.header_bound hh
  have hRlt := h.lt
  have hAlt := h.ltA (by rcases Nat.eq_zero_or_pos l.length with h0 | h0; · rw [List.length_eq_zero_iff.1 h0] at hh; simp [Ber.header, Ber.ident] at hh
                         · exact h0)
  have hn1 : ((n : Int) != -1) = true := by rw [bne_iff_ne]; omega
  have hnb1 : decide ((n : Int) > 2147483647) = false := by simp; omega
  have HHD := Lib.hid hhd
  have HH := Lib.hid hh
  have HE := Lib.hid hE
  have HKR := Lib.hid hr
  have HIH := Lib.hid ih
  clear hhd hh h hE hr ih
  go_enter Tryz.func110, Tryz.ntmps110
  go_wp2_with fail
  refine HHD.out.mono ?_
  rintro e w1 ⟨ho, hk⟩
  unfold HeadOut at ho
  rw [HH.out] at ho
  obtain ⟨k, rfl, hr1, hrest⟩ := ho
  simp only [tagValue, lenInt]
  have hsz1 := hk.size
  obtain ⟨x, hx⟩ : ∃ x : Nat, x = c * 64 := ⟨_, rfl⟩
  rw [← hx]
  have HX := Lib.hid hx
  have hway : Way R A l i c t w (w1.heap.size + 1) (w1.heap.size + 1 + 1) k 0 none (w1.heap.size + 1 + 1 + 1) 2 [] [] (startW w1 x 32 t) := by
    have hk0 := hk.trans (Keep.ofBelow ((startW_below w1 x 32 t).mono hsz1))
    refine ⟨Nat.zero_le _, (((hr1.alloc _).alloc _).alloc _).alloc _, hk0, by rw [← hx]; exact startW_P w1 x 32 t, startW_D w1 x 32 t, startW_C w1 x 32 t, by omega, (fun g e => by cases e), fun w2 _ => by unfold Kids; rfl, by simp [Ber.bodies], by simp⟩
  have hkr0 : 2 * (l.length - (i + k)) + 2 ≤ f ∧ ∀ r, Ber.kidsR f d c t (some n) 0 [] (l.drop (i + k)) r → R0 r := by
    refine ⟨?_, by rw [← hrest]; exact HKR.out⟩
    have e1 := congrArg List.length (hrest.symm.trans hm02)
    rw [List.length_drop, List.length_drop, List.length_drop] at e1
    rw [List.length_drop] at hm03
    omega
  have HWAY := Lib.hid hway
  have HKR0 := Lib.hid hkr0
  clear hr1 hrest hk hx hway hkr0
  go_wp2_with fail
  go_loopg [9, 12] f (fun kq v9 v12 wr => LoopInv R A l i d c t (some n) f R0 w (w1.heap.size + 1) (w1.heap.size + 1 + 1) kq v9 v12 wr)
  case atStart => exact ⟨k, 0, none, _, _, _, _, rfl, rfl, Nat.le_refl _, HWAY.out, HKR0.out.1, HKR0.out.2⟩
  case round =>
    obtain ⟨k, got, row, C, cap, xs, items, rfl, rfl, hkq, hW, hfl, hK⟩ := hrel
    obtain ⟨g, rfl⟩ : ∃ g, gk = g + 1 := by
      cases gk with
      | zero => omega
      | succ g => exact ⟨g, rfl⟩
    have hpos := hW.rd.pos
    have hlen9 := hW.rd.len
    have hle := hW.le
    have hP0 := hW.hP
    simp only [Ber.kidsR] at hK
    by_cases hgn : n = got
    · subst hgn
      replace hK := hK _ (by rw [if_pos rfl])
      have t1 : ((n : Int) == (n : Int)) = true := by simp
      have hE := hW.done (N := N) hc4 ht63 (by omega) (by omega)
      have HE1 := Lib.hid hE
      have HK := Lib.hid hK
      clear hE hK hW hP0
      go_wp2
      go_ret3
      exact ⟨⟨_, HK.out, HE1.out.1⟩, HE1.out.2⟩
    · replace hK := fun r => (by have := hK r; rw [if_neg (by simp; exact hgn)] at this; exact this : _ → R0 r)
      have t1 : ((got : Int) == (n : Int)) = false := by rw [beq_eq_false_iff_ne]; omega
      by_cases hlt : n < got
      · replace hK := hK .err (by rw [if_pos (by simp; exact hlt)])
        have t2 : decide ((got : Int) > (n : Int)) = true := by simp; omega
        have HW := Lib.hid hW
        have HK := Lib.hid hK
        clear hW hK hP0
        go_wp2_with fail
        refine (new_keep _ (by decide) (by decide) N w.heap.size _ HW.out.keep.size).mono ?_
        rintro e w3 ⟨a, rfl, he, hb⟩
        have HEE := Lib.hid he
        have HB := Lib.hid (HW.out.keep.trans (Keep.ofBelow (hb.mono HW.out.keep.size)))
        clear he hb
        go_wp2
        go_ret3
        exact ⟨⟨.err, HK.out, _, _, _, rfl, HEE.out⟩, HB.out⟩
      · replace hK := fun r => (by have := hK r; rw [if_neg (by simp; omega)] at this; exact this : _ → R0 r)
        have t2 : decide ((got : Int) > (n : Int)) = false := by simp; omega
        have hEr := HE.out.keep hW.keep (by omega) hN
        have hcl := HIH.out g (by omega) _ (i + k) (d + 1) hW.rd hEr (by omega) (by omega)
        have hcl2 : Calls Tryz.prog 110 #[.iface 157 (.pointer (some ⟨R, 0, none⟩)), .int .i64 ((d : Int) + 1)] wr fun e w' => (∃ r, Ber.readR g (d + 1) (l.drop (i + k)) r ∧ PackOut N wr.heap.size R A l (i + k) r e w') ∧ Keep wr.heap.size R wr w' := hcl
        have HCL := Lib.hid hcl2
        have HW := Lib.hid hW
        have HK := Lib.hid hK
        clear hW hK hcl hcl2 hP0 hEr
        go_wp2_with fail
        refine HCL.out.mono ?_
        rintro e w2 ⟨⟨rc, hrp, ho⟩, hk2⟩
        have hkk := HK.out
        cases rc with
        | bad => exact absurd ho id
        | err =>
          replace hkk := hkk .err (Or.inl ⟨hrp, rfl⟩)
          obtain ⟨pv, m, ev, rfl, hev⟩ := ho
          have hkw := HW.out.keep.trans (hk2.mono HW.out.keep.size)
          have HKW := Lib.hid hkw
          have hev2 := hev.mono HW.out.keep.size
          have hE2 := HE.out.keep hkw (by omega) hN
          obtain ⟨a, rfl⟩ := hev.iface
          have HEV := Lib.hid hev2
          have HE2 := Lib.hid hE2
          have HKK := Lib.hid hkk
          clear hkw hev hev2 hE2 hkk hk2 hrp
          go_wp2_with fail
          refine (uneof_any N w.heap.size w2 HE2.out.env _ HEV.out).mono ?_
          rintro e w3 ⟨ev, rfl, hev3, rfl⟩
          obtain ⟨a3, rfl⟩ := hev3.iface
          have HEV3 := Lib.hid hev3
          clear hev3
          go_wp2
          go_ret3
          exact ⟨⟨.err, HKK.out, _, _, _, rfl, HEV3.out⟩, HKW.out⟩
        | ok p rest' =>
          replace hkk := fun r h => hkk r (Or.inr ⟨p, rest', hrp, h⟩)
          obtain ⟨q, k', rfl, hqB, hst, hrd, hrest'⟩ := ho
          have hfits := Ber.readR_fits _ _ _ _ _ hrp
          have hpos2 := hrd.pos
          have hcons : (l.drop (i + k)).length - rest'.length = k' := by rw [hrest', List.length_drop, List.length_drop]; omega
          have hk'2 : 2 ≤ k' := by
            obtain ⟨m, hm1, hm2, hm3⟩ := hfits.drop
            have h9 := congrArg List.length hm1
            rw [List.length_drop] at h9
            rw [← hcons]
            omega
          have hsize : (Ber.bodies items).length + (Ber.enc p).length ≤ 20 * (k + k') := by
            have h1 := hfits.size
            have h2 := HW.out.size
            rw [hrest', List.length_drop, List.length_drop] at h1
            omega
          rw [hcons] at hkk
          obtain ⟨hway2, hkids2⟩ := HW.out.child hRlt (by omega) (by omega) hk2 hrd hst
          have htree := hst.now
          have heoc := eoc_tree w2 q p htree
          have hrest2 : rest' = l.drop (i + (k + k')) := by rw [hrest', Nat.add_assoc]
          have t3 : decide ((got : Int) + (k' : Int) > 2147483647) = false := by simp; omega
          have hgk9 : got + k' < 1000000000 ∧ k + k' < 1000000000 := by omega
          obtain ⟨hgk1, hgk2⟩ := hgk9
          have HFIT := Lib.hid hfits
          have HSIZE := Lib.hid hsize
          have HKK := Lib.hid hkk
          have HWAY2 := Lib.hid hway2
          have HKIDS2 := Lib.hid hkids2
          have HTREE := Lib.hid htree
          have HEOC := Lib.hid heoc
          have HREST2 := Lib.hid hrest2
          clear hfits hsize hkk hway2 hkids2 htree heoc hrest2 hst hrd hk2 hrest' hrp hcons
          go_wp2_with fail
          refine HEOC.out.mono ?_
          rintro e w3 ⟨rfl, rfl⟩
          have hkk := HKK.out
          by_cases he : Ber.isEOC p = true
          · replace hkk := hkk .err (by rw [if_pos he, if_neg (by simp)])
            rw [he]
            have HKK2 := Lib.hid hkk
            clear hkk
            go_wp2_with fail
            refine (new_keep _ (by decide) (by decide) N w.heap.size _ HWAY2.out.keep.size).mono ?_
            rintro e w3 ⟨a, rfl, he2, hb⟩
            have HEE := Lib.hid he2
            have HB := Lib.hid (HWAY2.out.keep.trans (Keep.ofBelow (hb.mono HWAY2.out.keep.size)))
            clear he2 hb
            go_wp2
            go_ret3
            exact ⟨⟨.err, HKK2.out, _, _, _, rfl, HEE.out⟩, HB.out⟩
          · replace hkk := fun r h => hkk r (by rw [if_neg he]; exact h)
            have hef : Ber.isEOC p = false := by simpa using he
            rw [hef]
            have hnext : Calls Tryz.prog 120 #[.pointer (some ⟨w1.heap.size + 1, 0, none⟩), .pointer (some ⟨q, 0, none⟩)] w2 fun e w' => (∃ v, e = .returned v) ∧ ∃ row' C' cap',
                Way R A l i c t w (w1.heap.size + 1) (w1.heap.size + 1 + 1) (k + k') (got + k') row' C' cap' (xs ++ [.pointer (some ⟨q, 0, none⟩)]) (items ++ [p]) w' := by
              have hw2 := HWAY2.out
              obtain ⟨pc, pb, pt, pd, pi⟩ := p
              have htr := HTREE.out
              unfold Tree at htr
              obtain ⟨D2, row2, C2, cap2, val2, bv2, xs2, hc2, ht2, hp2, hb2, -, -, -, -, -⟩ := htr
              have hel := HSIZE.out
              have hbl : (Ber.body (.mk pc pb pt pd pi)).length ≤ (Ber.enc (.mk pc pb pt pd pi)).length := by simp only [Ber.enc, List.length_append]; omega
              refine (append_any w2 (w1.heap.size + 1) (w1.heap.size + 1 + 1) C cap q D2 row row2 ((c * 64 : Nat) : Int) 32 t .nilIface (.slice none 0 0) (.string ⟨#[]⟩) xs (Ber.bodies items) (Ber.body (.mk pc pb pt pd pi)) pc pt pb _ _ _ _ hc2 ht2 hw2.hP hw2.hC (by have := HW.out.few; omega) hw2.hD (by omega) (by omega) hp2 hb2).mono ?_
              rintro e w' ⟨he, row', C', cap', h1, h2, h3, h4, h5, h6⟩
              exact ⟨he, row', C', cap', hw2.next hRlt hAlt (by omega) (by omega) HKIDS2.out h1 h2 h3 h4 h5 h6 HSIZE.out (by have := HW.out.few; omega)⟩
            have HNEXT := Lib.hid hnext
            have HKK2 := Lib.hid hkk
            clear hnext hkk
            go_wp2_with fail
            refine HNEXT.out.mono ?_
            rintro e w4 ⟨⟨v, rfl⟩, row', C', cap', hw4⟩
            have HW4 := Lib.hid hw4
            clear hw4
            go_wp2_with fail
            go_roundg g
            case measure => exact Nat.lt_succ_self _
            case rel => exact ⟨k + k', got + k', row', C', cap', _, _, by go_num, by go_num, by omega, HW4.out, by omega, by rw [← HREST2.out]; exact HKK2.out⟩
end Go.Proofs.YtjmahgefijncaaaGreatFmt.Tot

