/- Plain facts on the bit operations of the walks, as sums, quotients and remainders. -/
import Derived.Laws.BitsLemmas
import Derived.Laws.BitsAllLaws
namespace Go.Proofs.Ytmmhifomfbdfjaa
set_option linter.unusedVariables false
set_option linter.unusedSimpArgs false

theorem wraps_u32 (n : Int) (h₀ : 0 ≤ n) (h₁ : n < 2 ^ 32) : IntKind.u32.wrap n = n := by rw [IntKind.wrap_u32]; omega
theorem wraps_u16 (n : Int) (h₀ : 0 ≤ n) (h₁ : n < 2 ^ 16) : IntKind.u16.wrap n = n := by rw [IntKind.wrap_u16]; omega

theorem u32_and31 {x : Int} (h₀ : 0 ≤ x) (h₁ : x < 4294967296) : bits .and .u32 x 31 = x % 32 := bits_mask .u32 32 (by decide) wraps_u32 5 (by decide) x h₀ h₁
theorem u32_or24 {x y : Int} (h₀ : 0 ≤ x) (hm : x % 16777216 = 0) (h₁ : x < 4294967296) (g₀ : 0 ≤ y) (g₁ : y < 16777216) : bits .or .u32 x y = x + y :=
  bits_join .u32 32 (by decide) wraps_u32 24 x y h₀ hm h₁ g₀ g₁ (by omega)
theorem u32_or16 {x y : Int} (h₀ : 0 ≤ x) (hm : x % 65536 = 0) (h₁ : x < 4294967296) (g₀ : 0 ≤ y) (g₁ : y < 65536) : bits .or .u32 x y = x + y :=
  bits_join .u32 32 (by decide) wraps_u32 16 x y h₀ hm h₁ g₀ g₁ (by omega)
theorem u32_or8 {x y : Int} (h₀ : 0 ≤ x) (hm : x % 256 = 0) (h₁ : x < 4294967296) (g₀ : 0 ≤ y) (g₁ : y < 256) : bits .or .u32 x y = x + y :=
  bits_join .u32 32 (by decide) wraps_u32 8 x y h₀ hm h₁ g₀ g₁ (by omega)

theorem hi_eq {b0 b1 b2 b3 : Int} (B0 : 0 ≤ b0 ∧ b0 ≤ 255) (B1 : 0 ≤ b1 ∧ b1 ≤ 255) (B2 : 0 ≤ b2 ∧ b2 ≤ 255) (B3 : 0 ≤ b3 ∧ b3 ≤ 255) :
    bits .or .u32 (bits .or .u32 (bits .or .u32 (b0 * 16777216) (b1 * 65536)) (b2 * 256)) b3 = b0 * 16777216 + b1 * 65536 + b2 * 256 + b3 := by
  rw [u32_or24 (x := b0 * 16777216) (by omega) (by omega) (by omega) (by omega) (by omega), u32_or16 (x := b0 * 16777216 + b1 * 65536) (by omega) (by omega) (by omega) (by omega) (by omega), u32_or8 (x := b0 * 16777216 + b1 * 65536 + b2 * 256) (by omega) (by omega) (by omega) (by omega) (by omega)]
theorem lo_eq {h b4 : Int} (H : 0 ≤ h ∧ h < 4294967296) (B4 : 0 ≤ b4 ∧ b4 ≤ 255) :
    bits .or .u32 (h * 256 % 4294967296) b4 = h * 256 % 4294967296 + b4 := by
  rw [u32_or8 (by omega) (by omega) (by omega) (by omega) (by omega)]
theorem e_eq {x : Int} (d : Int) (hd : 0 < d) (h₀ : 0 ≤ x) (h₁ : x < 4294967296) : bits .and .u32 (x / d) 31 = x / d % 32 :=
  u32_and31 (Int.ediv_nonneg h₀ (by omega)) (by have := Int.ediv_le_self d h₀; omega)
theorem u32_or_zero {x : Int} (h₀ : 0 ≤ x) (h₁ : x < 4294967296) : bits .or .u32 0 x = x := by
  rw [bits_join .u32 32 (by decide) wraps_u32 32 0 x (by omega) (by omega) (by omega) h₀ (by omega) (by omega)]; omega
theorem u16_and_all {x : Int} (h₀ : 0 ≤ x) (h₁ : x < 65536) : bits .and .u16 x 65535 = x := by
  rw [show (65535 : Int) = 2 ^ 16 - 1 by decide, bits_mask .u16 16 (by decide) wraps_u16 16 (by decide) x h₀ h₁]; omega
theorem u16_and255 {x : Int} (h₀ : 0 ≤ x) (h₁ : x < 65536) : bits .and .u16 x 255 = x % 256 := bits_mask .u16 16 (by decide) wraps_u16 8 (by decide) x h₀ h₁
theorem u8_or_at (i : Nat) {x y : Int} (h₀ : 0 ≤ x) (hm : x % 2 ^ i = 0) (h₁ : x < 256) (g₀ : 0 ≤ y) (g₁ : y < 2 ^ i) (g₂ : y < 256) : bits .or .u8 x y = x + y :=
  bits_join .u8 8 (by decide) wraps_u8 i x y h₀ hm h₁ g₀ g₁ (by omega)
theorem pack4 {v6 v7 : Int} (h6 : 0 ≤ v6 ∧ v6 < 32) (h7 : 0 ≤ v7 ∧ v7 < 32) : bits .or .u8 (v6 * 32 % 256) v7 = v6 % 8 * 32 + v7 := by
  rw [u8_or_at 5 (by omega) (by omega) (by omega) (by omega) (by omega) (by omega)]; omega
theorem pack3 {v4 v5 v6 : Int} (h4 : 0 ≤ v4 ∧ v4 < 32) (h5 : 0 ≤ v5 ∧ v5 < 32) (h6 : 0 ≤ v6 ∧ v6 < 32) : bits .or .u8 (bits .or .u8 (v4 * 128 % 256) (v5 * 4)) (v6 / 8) = v4 % 2 * 128 + v5 * 4 + v6 / 8 := by
  rw [u8_or_at 7 (x := v4 * 128 % 256) (y := v5 * 4) (by omega) (by omega) (by omega) (by omega) (by omega) (by omega), u8_or_at 2 (by omega) (by omega) (by omega) (by omega) (by omega) (by omega)]; omega
theorem pack2 {v3 v4 : Int} (h3 : 0 ≤ v3 ∧ v3 < 32) (h4 : 0 ≤ v4 ∧ v4 < 32) : bits .or .u8 (v3 * 16 % 256) (v4 / 2) = v3 % 16 * 16 + v4 / 2 := by
  rw [u8_or_at 4 (by omega) (by omega) (by omega) (by omega) (by omega) (by omega)]; omega
theorem pack1 {v1 v2 v3 : Int} (h1 : 0 ≤ v1 ∧ v1 < 32) (h2 : 0 ≤ v2 ∧ v2 < 32) (h3 : 0 ≤ v3 ∧ v3 < 32) : bits .or .u8 (bits .or .u8 (v1 * 64 % 256) (v2 * 2)) (v3 / 16) = v1 % 4 * 64 + v2 * 2 + v3 / 16 := by
  rw [u8_or_at 6 (x := v1 * 64 % 256) (y := v2 * 2) (by omega) (by omega) (by omega) (by omega) (by omega) (by omega), u8_or_at 1 (by omega) (by omega) (by omega) (by omega) (by omega) (by omega)]; omega
theorem pack0 {v0 v1 : Int} (h0 : 0 ≤ v0 ∧ v0 < 32) (h1 : 0 ≤ v1 ∧ v1 < 32) : bits .or .u8 (v0 * 8) (v1 / 4) = v0 * 8 + v1 / 4 := by
  rw [u8_or_at 3 (by omega) (by omega) (by omega) (by omega) (by omega) (by omega)]
end Go.Proofs.Ytmmhifomfbdfjaa
