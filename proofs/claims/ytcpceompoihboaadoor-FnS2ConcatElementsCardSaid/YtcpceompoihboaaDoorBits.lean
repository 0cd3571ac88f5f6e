/- Laws on int's bits that the walks of this seat want. -/
import Derived.Test.YtcpceompoihboaaDoorBase
import Derived.Lib.EndianBits
namespace Go.Proofs.YtcpceompoihboaaDoor
open Go.RowKit

theorem wraps_i64' (n : Int) (h0 : 0 ≤ n) (h1 : n < 2 ^ 63) : IntKind.i64.wrap n = n := by rw [IntKind.wrap_i64]; omega
theorem i64_or8 (y x : Int) (hy0 : 0 ≤ y) (hy : y < 256) (hx0 : 0 ≤ x) (hx : x % 256 = 0) (hx1 : x < 9223372036854775808) : bits .or .i64 y x = y + x :=
  bits_join_low .i64 63 (by decide) wraps_i64' 8 y x hy0 hy (by omega) hx0 hx hx1
theorem i64_or16 (y x : Int) (hy0 : 0 ≤ y) (hy : y < 65536) (hx0 : 0 ≤ x) (hx : x % 65536 = 0) (hx1 : x < 9223372036854775808) : bits .or .i64 y x = y + x :=
  bits_join_low .i64 63 (by decide) wraps_i64' 16 y x hy0 hy (by omega) hx0 hx hx1
theorem i64_or24 (y x : Int) (hy0 : 0 ≤ y) (hy : y < 16777216) (hx0 : 0 ≤ x) (hx : x % 16777216 = 0) (hx1 : x < 9223372036854775808) : bits .or .i64 y x = y + x :=
  bits_join_low .i64 63 (by decide) wraps_i64' 24 y x hy0 hy (by omega) hx0 hx hx1
/-- three bytes, the least first -/
theorem i64_le3 (a b c : Int) (ha0 : 0 ≤ a) (ha : a < 256) (hb0 : 0 ≤ b) (hb : b < 256) (hc0 : 0 ≤ c) (hc : c < 256) :
    bits .or .i64 (bits .or .i64 a (b * 256)) (c * 65536) = a + b * 256 + c * 65536 := by
  rw [i64_or8 a (b * 256) ha0 ha (by omega) (by omega) (by omega), i64_or16 _ (c * 65536) (by omega) (by omega) (by omega) (by omega) (by omega)]

theorem i64_mask (i : Nat) (hi : i ≤ 63) (x : Int) (h0 : 0 ≤ x) (h1 : x < 2 ^ 63) : bits .and .i64 x (2 ^ i - 1) = x % 2 ^ i :=
  bits_mask .i64 63 (by decide) wraps_i64' i hi x h0 h1
theorem i64_and127 (x : Int) (h0 : 0 ≤ x) (h1 : x < 9223372036854775808) : bits .and .i64 x 127 = x % 128 := i64_mask 7 (by decide) x h0 h1
theorem i64_and7 (x : Int) (h0 : 0 ≤ x) (h1 : x < 9223372036854775808) : bits .and .i64 x 7 = x % 8 := i64_mask 3 (by decide) x h0 h1
theorem i64_and3 (x : Int) (h0 : 0 ≤ x) (h1 : x < 9223372036854775808) : bits .and .i64 x 3 = x % 4 := i64_mask 2 (by decide) x h0 h1
theorem wrap64_in (n : Int) (h0 : -9223372036854775808 ≤ n) (h1 : n ≤ 9223372036854775807) : wrap64 n = n := by unfold wrap64; omega
theorem u32_hi8 (x y : Int) (hx₀ : 0 ≤ x) (hx : x % 256 = 0) (hx₁ : x < 4294967296) (hy₀ : 0 ≤ y) (hy : y < 256) : bits .or .u32 x y = x + y :=
  bits_join .u32 32 (by decide) wraps_u32 8 x y hx₀ hx hx₁ hy₀ hy (by omega)
theorem u32_hi16 (x y : Int) (hx₀ : 0 ≤ x) (hx : x % 65536 = 0) (hx₁ : x < 4294967296) (hy₀ : 0 ≤ y) (hy : y < 65536) : bits .or .u32 x y = x + y :=
  bits_join .u32 32 (by decide) wraps_u32 16 x y hx₀ hx hx₁ hy₀ hy (by omega)
theorem u8_and3 (x : Int) (h0 : 0 ≤ x) (h1 : x < 256) : bits .and .u8 x 3 = x % 4 := bits_mask .u8 8 (by decide) wraps_u8 2 (by decide) x h0 h1
theorem u32_and224 (x : Int) (h0 : 0 ≤ x) (h1 : x < 256) : bits .and .u32 x 224 = x / 32 * 32 := by
  have h : ∀ n : Fin 256, bits .and .u32 ((n.val : Nat) : Int) 224 = ((n.val : Nat) : Int) / 32 * 32 := by decide +kernel
  obtain ⟨n, rfl⟩ := Int.eq_ofNat_of_zero_le h0
  exact h ⟨n, by omega⟩

end Go.Proofs.YtcpceompoihboaaDoor
