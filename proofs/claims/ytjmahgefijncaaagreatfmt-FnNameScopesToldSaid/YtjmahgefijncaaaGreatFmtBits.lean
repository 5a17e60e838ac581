/- Bits of bytes and of 64-bit words, as the readers and writers of BER use them. -/
import Derived.WalkKit
namespace Go.Proofs.YtjmahgefijncaaaGreatFmt
open Go

theorem wraps_u64 (n : Int) (h₀ : 0 ≤ n) (h₁ : n < 2 ^ 64) : IntKind.u64.wrap n = n := by rw [IntKind.wrap_u64]; omega
theorem and192 {x : Nat} (h : x < 256) : bits .and .u8 (x : Int) 192 = ((x / 64 * 64 : Nat) : Int) := by
  have e := bits_nat .u8 8 (by decide) wraps_u8 x 192 (by omega) (by omega)
  have k : ∀ y, y < 256 → y &&& 192 = y / 64 * 64 := by decide +kernel
  rw [← k x h]; exact e.1
theorem and32 {x : Nat} (h : x < 256) : bits .and .u8 (x : Int) 32 = ((x / 32 % 2 * 32 : Nat) : Int) := by
  have e := bits_nat .u8 8 (by decide) wraps_u8 x 32 (by omega) (by omega)
  have k : ∀ y, y < 256 → y &&& 32 = y / 32 % 2 * 32 := by decide +kernel
  rw [← k x h]; exact e.1
theorem and31 {x : Nat} (h : x < 256) : bits .and .u64 (x : Int) 31 = ((x % 32 : Nat) : Int) := by
  have := bits_mask .u64 64 (by decide) wraps_u64 5 (by decide) (x : Int) (by omega) (by omega)
  simpa using this
theorem and127 {x : Nat} (h : x < 256) : bits .and .u64 (x : Int) 127 = ((x % 128 : Nat) : Int) := by
  have := bits_mask .u64 64 (by decide) wraps_u64 7 (by decide) (x : Int) (by omega) (by omega)
  simpa using this
theorem and128 {x : Nat} (h : x < 256) : bits .and .u64 (x : Int) 128 = ((x / 128 * 128 : Nat) : Int) := by
  have e := bits_nat .u64 64 (by decide) wraps_u64 x 128 (by omega) (by omega)
  have k : ∀ y, y < 256 → y &&& 128 = y / 128 * 128 := by decide +kernel
  rw [← k x h]; exact e.1
theorem or_low {x y : Nat} (hx : x % 128 = 0) (hxl : x < 2 ^ 64) (hy : y < 128) : bits .or .u64 (x : Int) (y : Int) = ((x + y : Nat) : Int) := by
  have := bits_join .u64 64 (by decide) wraps_u64 7 (x : Int) (y : Int) (by omega) (by omega) (by omega) (by omega) (by omega) (by omega)
  simpa using this
end Go.Proofs.YtjmahgefijncaaaGreatFmt
