/- nameHex. -/
import Derived.Test.YtjmahgefijncaaaGreatFmtNSp
import Derived.BigRegion
import Derived.Deep.RegionLaw
namespace Go.Proofs.YtjmahgefijncaaaGreatFmt
open Go Go.RowKit

def hexDigits : List UInt8 := [48, 49, 50, 51, 52, 53, 54, 55, 56, 57, 97, 98, 99, 100, 101, 102]
theorem hexDigits_get : ∀ n, n < 16 → (hexDigits[n]?).map (·.toNat) = some (NT.hx false n.toUInt8).toNat := by decide +kernel

set_option maxRecDepth 100000 in
set_option maxHeartbeats 8000000 in
theorem hex_any (c : UInt8) (w : World) :
    Calls Tryz.prog 54 #[.int .u8 (c.toNat : Int)] w fun e w' => e = .returned (.string (Nm.bs (NT.hexB c))) ∧ Below w.heap.size w w' := by
  have hc := UInt8.toNat_lt c
  have e1 : ((c / 16).toNat) = c.toNat / 16 := by rw [UInt8.toNat_div]; rfl
  have e2 : ((c % 16).toNat) = c.toNat % 16 := by rw [UInt8.toNat_mod]; rfl
  obtain ⟨a, ha⟩ : ∃ a : Nat, a = c.toNat / 16 := ⟨_, rfl⟩
  obtain ⟨b, hb⟩ : ∃ b : Nat, b = c.toNat % 16 := ⟨_, rfl⟩
  have h1 : (c.toNat : Int) / 16 = (a : Int) := by omega
  have h2 : (c.toNat : Int) % 16 = (b : Int) := by omega
  have ha16 : a < 16 := by omega
  have hb16 : b < 16 := by omega
  have hx1 : NT.hx false (c / 16) = NT.hx false a.toUInt8 := by rw [ha, ← e1, NT.toNat_toU8]
  have hx2 : NT.hx false (c % 16) = NT.hx false b.toUInt8 := by rw [hb, ← e2, NT.toNat_toU8]
  have hg : ∀ (n : Nat) (hn : n < 16), ((⟨#[48, 49, 50, 51, 52, 53, 54, 55, 56, 57, 97, 98, 99, 100, 101, 102]⟩ : ByteArray)[n]'hn).toNat = (NT.hx false n.toUInt8).toNat := by
    intro n hn
    have := hexDigits_get n hn
    have hl : n < hexDigits.length := hn
    rw [List.getElem?_eq_getElem hl] at this
    exact Option.some.inj this
  have g1 := hg a ha16
  have g2 := hg b hb16
  have i1 : (0 : Int) ≤ (a : Int) := by omega
  have i2 : (a : Int) < 16 := by omega
  have i3 : (0 : Int) ≤ (b : Int) := by omega
  have i4 : (b : Int) < 16 := by omega
  have HRES := Lib.hid (show NT.hexB c = [NT.hx false a.toUInt8, NT.hx false b.toUInt8] by unfold NT.hexB; rw [hx1, hx2])
  generalize NT.hexB c = res at *
  generalize NT.hx false a.toUInt8 = x at *
  generalize NT.hx false b.toUInt8 = y at *
  have hcv : ∀ W : World, W.heap[w.heap.size]? = some (.cells #[.int .u8 (x.toNat : Int), .int .u8 (y.toNat : Int)] 5 (0, 0)) → (convert 51 9 (.slice (some ⟨w.heap.size, 0, none⟩) 2 2)).run Tryz.prog W = .ok (.string (Nm.bs [x, y])) W := by
    intro W hW
    exact run_convert_bytes_back W 51 9 5 ⟨w.heap.size, 0, none⟩ 2 [x, y] Tryz.underlying51 Tryz.underlying5 Tryz.underlying9 (by
      intro j hj
      match j, hj with
      | 0, _ => exact blockCell hW 0
      | 1, _ => exact blockCell hW 1)
  have hc1 := hcv (w.drew.alloc (.cells #[.int .u8 (x.toNat : Int), .int .u8 (y.toNat : Int)] 5)) (heap_alloc_new w.drew _)
  have hc2 := hcv (w.alloc (.cells #[.int .u8 (x.toNat : Int), .int .u8 (y.toNat : Int)] 5)) (heap_alloc_new w _)
  have hc3 := hcv (w.alloc (.cells #[.int .u8 (x.toNat : Int), .int .u8 (y.toNat : Int)] 5)).drew (heap_alloc_new w _)
  clear e1 e2 ha hb hx1 hx2 hg hcv
  go_enter Tryz.func54, Tryz.ntmps54
  go_wp2_with fail
  go_region
  go_wp2_with fail
  go_ret
  exact ⟨by rw [HRES.out]; rfl, ((Below.refl _ w).alloc (Nat.le_refl _) _).drew⟩
end Go.Proofs.YtjmahgefijncaaaGreatFmt
