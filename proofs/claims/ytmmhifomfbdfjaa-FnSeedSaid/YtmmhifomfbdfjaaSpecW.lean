/- The plain twins: checksum, base 32, bytes with their check, the text of a key. -/
import Derived.Test.YtmmhifomfbdfjaaCrcPure
import Derived.Test.YtmmhifomfbdfjaaB0
import Derived.Test.YtmmhifomfbdfjaaBits
import Derived.Test.YtmmhifomfbdfjaaPure
import Derived.Test.YtmmhifomfbdfjaaEncT
import Derived.ArgAppend
namespace Go.Proofs.Ytmmhifomfbdfjaa
set_option linter.unusedVariables false
set_option linter.unusedSimpArgs false

theorem nat_xor_mod (a b : Nat) (n : Nat) : (a ^^^ b) % 2 ^ n = (a % 2 ^ n) ^^^ (b % 2 ^ n) := Nat.xor_mod_two_pow
theorem nat_xor_div (a b : Nat) (n : Nat) : (a ^^^ b) / 2 ^ n = (a / 2 ^ n) ^^^ (b / 2 ^ n) := Nat.xor_div_two_pow
theorem nat_xor_two (a b : Nat) (n : Nat) : (a ^^^ b) * 2 ^ n = (a * 2 ^ n) ^^^ (b * 2 ^ n) := by
  rw [← Nat.shiftLeft_eq, ← Nat.shiftLeft_eq, ← Nat.shiftLeft_eq, Nat.shiftLeft_xor_distrib]
theorem bit1_eq (n : Nat) (h : n < 65536) : bit1 n = (n * 2 % 65536) ^^^ (if n / 32768 = 1 then 4129 else 0) := by
  unfold bit1
  by_cases hn : n < 32768
  · rw [if_pos hn, if_neg (by omega), Nat.xor_zero]; omega
  · rw [if_neg hn, if_pos (by omega), show 2 * n - 65536 = n * 2 % 65536 by omega]
theorem xor_lt {a b : Nat} (ha : a < 65536) (hb : b < 65536) : a ^^^ b < 65536 := Nat.xor_lt_two_pow (n := 16) ha hb
theorem bit1_lt {n : Nat} (h : n < 65536) : bit1 n < 65536 := by
  rw [bit1_eq n h]
  exact xor_lt (Nat.mod_lt _ (by decide)) (by split <;> decide)
theorem bit1_xor {a b : Nat} (ha : a < 65536) (hb : b < 65536) : bit1 (a ^^^ b) = bit1 a ^^^ bit1 b := by
  rw [bit1_eq _ (xor_lt ha hb), bit1_eq a ha, bit1_eq b hb]
  have e1 : (a ^^^ b) * 2 % 65536 = (a * 2 % 65536) ^^^ (b * 2 % 65536) := by
    have h1 := nat_xor_two a b 1
    have h2 := nat_xor_mod (a * 2) (b * 2) 16
    simp only [Nat.pow_one] at h1
    rw [h1]; exact h2
  have e2 : (a ^^^ b) / 32768 = (a / 32768) ^^^ (b / 32768) := nat_xor_div a b 15
  rw [e1, e2]
  have ha1 : a / 32768 = 0 ∨ a / 32768 = 1 := by omega
  have hb1 : b / 32768 = 0 ∨ b / 32768 = 1 := by omega
  rcases ha1 with h | h <;> rcases hb1 with h' | h' <;> rw [h, h'] <;> simp
  · rw [Nat.xor_assoc]
  · rw [Nat.xor_assoc, Nat.xor_comm (b * 2 % 65536), Nat.xor_assoc]
  · rw [Nat.xor_assoc, Nat.xor_comm 4129, Nat.xor_assoc, Nat.xor_self, Nat.xor_zero]
theorem bits8_lt {n : Nat} (h : n < 65536) : bits8 n < 65536 := bit1_lt (bit1_lt (bit1_lt (bit1_lt (bit1_lt (bit1_lt (bit1_lt (bit1_lt h)))))))
theorem bits8_xor {a b : Nat} (ha : a < 65536) (hb : b < 65536) : bits8 (a ^^^ b) = bits8 a ^^^ bits8 b := by
  unfold bits8
  rw [bit1_xor ha hb, bit1_xor (bit1_lt ha) (bit1_lt hb), bit1_xor (bit1_lt (bit1_lt ha)) (bit1_lt (bit1_lt hb)), bit1_xor (bit1_lt (bit1_lt (bit1_lt ha))) (bit1_lt (bit1_lt (bit1_lt hb))),
    bit1_xor (bit1_lt (bit1_lt (bit1_lt (bit1_lt ha)))) (bit1_lt (bit1_lt (bit1_lt (bit1_lt hb)))), bit1_xor (bit1_lt (bit1_lt (bit1_lt (bit1_lt (bit1_lt ha))))) (bit1_lt (bit1_lt (bit1_lt (bit1_lt (bit1_lt hb))))),
    bit1_xor (bit1_lt (bit1_lt (bit1_lt (bit1_lt (bit1_lt (bit1_lt ha)))))) (bit1_lt (bit1_lt (bit1_lt (bit1_lt (bit1_lt (bit1_lt hb)))))),
    bit1_xor (bit1_lt (bit1_lt (bit1_lt (bit1_lt (bit1_lt (bit1_lt (bit1_lt ha))))))) (bit1_lt (bit1_lt (bit1_lt (bit1_lt (bit1_lt (bit1_lt (bit1_lt hb)))))))]
theorem bits8_low : ∀ i : Fin 256, bits8 i.1 = i.1 * 256 := by decide +kernel
theorem split_xor (c b : Nat) (hb : b < 256) : c ^^^ b * 256 = ((c / 256 ^^^ b) * 256) ^^^ (c % 256) := by
  have h1 : (c ^^^ b * 256) / 256 = (((c / 256 ^^^ b) * 256) ^^^ (c % 256)) / 256 := by
    have e1 := nat_xor_div c (b * 256) 8
    have e2 := nat_xor_div ((c / 256 ^^^ b) * 256) (c % 256) 8
    simp only [show (2 : Nat) ^ 8 = 256 by decide] at e1 e2
    rw [e1, e2, Nat.mul_div_cancel _ (by decide), Nat.mul_div_cancel _ (by decide), Nat.div_eq_of_lt (Nat.mod_lt c (by decide)), Nat.xor_zero]
  have h2 : (c ^^^ b * 256) % 256 = (((c / 256 ^^^ b) * 256) ^^^ (c % 256)) % 256 := by
    have e1 := nat_xor_mod c (b * 256) 8
    have e2 := nat_xor_mod ((c / 256 ^^^ b) * 256) (c % 256) 8
    simp only [show (2 : Nat) ^ 8 = 256 by decide] at e1 e2
    rw [e1, e2, Nat.mul_mod_left, Nat.mul_mod_left, Nat.mod_mod, Nat.xor_zero, Nat.zero_xor]
  omega
/-- The table at i. -/
theorem tab_at (i : Nat) (h : i < 256) : (tabL.getD i 0).toNat = bits8 (i * 256) := by
  unfold tabL
  rw [List.getD_eq_getElem?_getD, List.getElem?_map, List.getElem?_range h]; simp
theorem crcStep_bits (c b : Int) (hc : 0 ≤ c ∧ c < 65536) (hb : 0 ≤ b ∧ b ≤ 255) : crcStep c b = ((bits8 (c.toNat ^^^ b.toNat * 256) : Nat) : Int) := by
  unfold crcStep
  obtain ⟨C, hC⟩ : ∃ C, C = c.toNat := ⟨_, rfl⟩
  obtain ⟨B, hB⟩ : ∃ B, B = b.toNat := ⟨_, rfl⟩
  rw [← hC, ← hB]
  have hC1 : C < 65536 := by omega
  have hB1 : B < 256 := by omega
  have hx : C / 256 ^^^ B < 256 := Nat.xor_lt_two_pow (n := 8) (by omega) (by omega)
  rw [Nat.mod_eq_of_lt hx, tab_at _ hx, split_xor C B hB1, bits8_xor (by omega) (by omega), bits8_low ⟨C % 256, Nat.mod_lt _ (by decide)⟩, Nat.xor_comm]
  congr 2; simp; omega
end Go.Proofs.Ytmmhifomfbdfjaa
namespace Go.Proofs.Ytmmhifomfbdfjaa
open Go.RowKit Go.Proofs.YtmmhifomfbdfjaaW.PrintWords Go.Proofs.YtmmhifomfbdfjaaW.PrintLast Go.Proofs.YtmmhifomfbdfjaaW.PrintMore
set_option linter.unusedVariables false
set_option linter.unusedSimpArgs false
open PFnEncode

theorem w64 (n : Int) (h : -9223372036854775808 ≤ n ∧ n ≤ 9223372036854775807) : wrap64 n = n := by unfold wrap64; omega
theorem crc_bit (k : Nat) (x : Nat) (l : List Int) (n i j : Int) (hx : x < 65536) (h0 : 0 ≤ j) (h1 : j < 8) :
    spec_CRC.l1 (k + 1) (x : Int) l n i j = spec_CRC.l1 k ((bit1 x : Nat) : Int) l n i (j + 1) := by
  rw [spec_CRC.l1, if_pos h1, w64 (j + 1) (by omega)]
  have ha : bits .and .u16 (x : Int) 32768 = if x < 32768 then 0 else 32768 := by
    have := u16_and_nat x 32768 hx (by decide)
    rw [show ((32768 : Nat) : Int) = 32768 from rfl] at this
    rw [this]
    have e : x &&& 32768 = x / 32768 * 32768 := by
      have h1 : (x &&& 32768) / 2 ^ 15 = x / 2 ^ 15 &&& 32768 / 2 ^ 15 := Nat.and_div_two_pow
      have h2 : (x &&& 32768) % 2 ^ 15 = (x % 2 ^ 15) &&& (32768 % 2 ^ 15) := Nat.and_mod_two_pow
      simp only [show (2 : Nat) ^ 15 = 32768 by decide] at h1 h2
      have : x / 32768 = 0 ∨ x / 32768 = 1 := by omega
      rcases this with h | h <;> rw [h] at h1 ⊢ <;> simp at h1 h2 <;> omega
    rw [e]
    split <;> omega
  rw [ha]
  by_cases hh : x < 32768
  · rw [if_pos hh, if_pos rfl, IntKind.wrap_u16]
    congr 1
    unfold bit1
    rw [if_pos hh]; omega
  · rw [if_neg hh, if_neg (by decide), IntKind.wrap_u16]
    congr 1
    rw [show ((x : Int) * 2 % 65536) = ((2 * x - 65536 : Nat) : Int) by omega, show (4129 : Int) = ((4129 : Nat) : Int) from rfl, u16_xor_nat _ _ (by omega) (by decide)]
    unfold bit1
    rw [if_neg hh]

theorem crc_byte (k : Nat) (c : Int) (l : List Int) (i : Nat) (hc : 0 ≤ c ∧ c < 65536) (hi : i < l.length) (hl : l.length ≤ 1000000) (hb : 0 ≤ l.getD i 0 ∧ l.getD i 0 ≤ 255) :
    spec_CRC.l0 (k + 10) c l (l.length : Int) (i : Int) = spec_CRC.l0 k (crcStep c (l.getD i 0)) l (l.length : Int) ((i + 1 : Nat) : Int) := by
  rw [spec_CRC.l0, if_pos (by omega), if_pos (by omega), if_pos (by omega)]
  have e : rd l (i : Int) = l.getD i 0 := by simp [rd]
  rw [e]
  obtain ⟨b, hbb⟩ : ∃ b, b = l.getD i 0 := ⟨_, rfl⟩
  rw [← hbb] at hb ⊢
  rw [IntKind.wrap_u16, IntKind.wrap_u16, show b % 65536 * 256 % 65536 = b * 256 by omega, u16_xor _ _ hc.1 hc.2 (by omega) (by omega)]
  have hx : c.toNat ^^^ (b * 256).toNat < 65536 := xor_lt (by omega) (by omega)
  rw [crc_bit (k + 8) _ _ _ _ _ hx (by omega) (by omega), crc_bit (k + 7) _ _ _ _ _ (bit1_lt hx) (by omega) (by omega), crc_bit (k + 6) _ _ _ _ _ (bit1_lt (bit1_lt hx)) (by omega) (by omega),
    crc_bit (k + 5) _ _ _ _ _ (bit1_lt (bit1_lt (bit1_lt hx))) (by omega) (by omega), crc_bit (k + 4) _ _ _ _ _ (bit1_lt (bit1_lt (bit1_lt (bit1_lt hx)))) (by omega) (by omega),
    crc_bit (k + 3) _ _ _ _ _ (bit1_lt (bit1_lt (bit1_lt (bit1_lt (bit1_lt hx))))) (by omega) (by omega), crc_bit (k + 2) _ _ _ _ _ (bit1_lt (bit1_lt (bit1_lt (bit1_lt (bit1_lt (bit1_lt hx)))))) (by omega) (by omega),
    crc_bit (k + 1) _ _ _ _ _ (bit1_lt (bit1_lt (bit1_lt (bit1_lt (bit1_lt (bit1_lt (bit1_lt hx))))))) (by omega) (by omega)]
  rw [spec_CRC.l1, if_neg (by omega), w64 _ (by omega), crcStep_bits c b hc hb, show (b * 256).toNat = b.toNat * 256 by omega]
  congr 1

theorem crc_rest (l : List Int) (hl : l.length ≤ 1000000) (hb : ∀ x ∈ l, 0 ≤ x ∧ x ≤ 255) : ∀ (r i : Nat), i + r = l.length → spec_CRC.l0 (10 * r + 1) (crcT (l.take i)) l (l.length : Int) (i : Int) = some (crcT l) := by
  intro r
  induction r with
  | zero =>
    intro i hi
    rw [spec_CRC.l0, if_neg (by omega), List.take_of_length_le (by omega)]
  | succ r ih =>
    intro i hi
    have hbi : 0 ≤ l.getD i 0 ∧ l.getD i 0 ≤ 255 := by
      rw [List.getD_eq_getElem?_getD, List.getElem?_eq_getElem (by omega)]; exact hb _ (List.getElem_mem _)
    rw [show 10 * (r + 1) + 1 = (10 * r + 1) + 10 by omega, crc_byte _ _ l i (crcT_range _) (by omega) hl hbi, ← crcT_snoc l i (by omega)]
    exact ih (i + 1) (by omega)
theorem spec_crc (l : List Int) (hl : l.length ≤ 1000000) (hb : ∀ x ∈ l, 0 ≤ x ∧ x ≤ 255) : spec_CRC.f (10 * l.length + 1) l = some (crcT l) := crc_rest l hl hb l.length 0 (by omega)

/- Base 32. -/
theorem wraps_i64 (n : Int) (h₀ : 0 ≤ n) (h₁ : n < 2 ^ 63) : IntKind.i64.wrap n = n := by
  rw [IntKind.wrap_i64]; omega
theorem i64_and31 {x : Int} (h₀ : 0 ≤ x) (h₁ : x < 2 ^ 63) : bits .and .i64 x 31 = x % 32 := bits_mask .i64 63 (by decide) wraps_i64 5 (by decide) x h₀ h₁
theorem bt_letter {e : Int} (h0 : 0 ≤ e) (h1 : e < 32) : bt (⟨#[65, 66, 67, 68, 69, 70, 71, 72, 73, 74, 75, 76, 77, 78, 79, 80, 81, 82, 83, 84, 85, 86, 87, 88, 89, 90, 50, 51, 52, 53, 54, 55]⟩ : ByteArray) e = letter e := by
  have h : ∀ n : Fin 32, bt (⟨#[65, 66, 67, 68, 69, 70, 71, 72, 73, 74, 75, 76, 77, 78, 79, 80, 81, 82, 83, 84, 85, 86, 87, 88, 89, 90, 50, 51, 52, 53, 54, 55]⟩ : ByteArray) (n.1 : Int) = letter (n.1 : Int) := by decide +kernel
  have e' := h ⟨e.toNat, by omega⟩
  simp only [Int.toNat_of_nonneg h0] at e'
  exact e'

section
variable (k : Nat) (x : List Int) (A : Int) (l : List Int) (L i : Int)
theorem b32_emit (m : Int) (d : Nat) (hm : m = d + 5) (hd : d ≤ 7) (hA : 0 ≤ A ∧ A < 1048576) (hx : x.length ≤ 1000000) :
    spec_base32.l1 (k + 1) x A m l L i = spec_base32.l1 k (x ++ [letter (A / 2 ^ d % 32)]) A (d : Int) l L i := by
  subst hm
  have hw : wrap64 ((d : Int) + 5 - 5) = d := by rw [w64 _ (by omega)]; omega
  have hs : shr .i64 A (d : Int) = A / 2 ^ d := by
    unfold shr
    rw [Int.toNat_natCast, show min d IntKind.i64.bits = d from Nat.min_eq_left (by show d ≤ 64; omega)]
  have hq : 0 ≤ A / 2 ^ d ∧ A / 2 ^ d < 2 ^ 63 := by
    have h2 : (0 : Int) < 2 ^ d := Int.pow_pos (by decide)
    exact ⟨Int.ediv_nonneg hA.1 (by omega), by have := Int.ediv_le_self (2 ^ d) hA.1; omega⟩
  have hb : bits .and .i64 (shr .i64 A (d : Int)) 31 = A / 2 ^ d % 32 := by rw [hs, i64_and31 hq.1 hq.2]
  rw [spec_base32.l1, if_pos (by omega), hw, if_pos (by omega), hb, if_pos (by omega), if_pos (by omega), if_pos (by omega), bt_letter (by omega) (by omega)]
theorem b32_exit (m : Nat) (hm : m < 5) (hA : 0 ≤ A ∧ A < 1048576) (hi : 0 ≤ i ∧ i < 1000000) :
    spec_base32.l1 (k + 1) x A (m : Int) l L i = spec_base32.l0 k x (A % 2 ^ m) (m : Int) l L (i + 1) := by
  have hs : shl .i64 1 (m : Int) = 2 ^ m := by
    unfold shl
    rw [Int.toNat_natCast, show min m IntKind.i64.bits = m from Nat.min_eq_left (by show m ≤ 64; omega), Int.one_mul]
    match m, hm with
    | 0, _ => rfl
    | 1, _ => rfl
    | 2, _ => rfl
    | 3, _ => rfl
    | 4, _ => rfl
  have hp : (1 : Int) ≤ 2 ^ m ∧ (2 : Int) ^ m ≤ 16 := by
    match m, hm with
    | 0, _ => decide
    | 1, _ => decide
    | 2, _ => decide
    | 3, _ => decide
    | 4, _ => decide
  rw [spec_base32.l1, if_neg (by omega), if_pos (by omega), hs, w64 _ (by omega), w64 _ (by omega), bits_mask .i64 63 (by decide) wraps_i64 m (by omega) A hA.1 (by omega)]
theorem b32_in (b : Int) (m : Nat) (hm : m < 5) (hA : 0 ≤ A ∧ A < 4096) (hi : 0 ≤ i) (hL : i < L) (hll : i < l.length) (hb : rd l i = b) (hbr : 0 ≤ b ∧ b ≤ 255) :
    spec_base32.l0 (k + 1) x A (m : Int) l L i = spec_base32.l1 k x (A * 256 + b) ((m : Int) + 8) l L i := by
  subst hb
  rw [spec_base32.l0, if_pos hL, if_pos hi, if_pos hll, w64 (rd l i) (by omega), w64 (A * 256) (by omega), w64 _ (by omega),
    bits_join .i64 63 (by decide) wraps_i64 8 (A * 256) (rd l i) (by omega) (by omega) (by omega) (by omega) (by omega) (by omega)]
end

section
variable (k : Nat) (x : List Int) (A b : Int) (l : List Int) (L i : Int)
theorem b32_0 (hi : 0 ≤ i ∧ i < 1000000) (hL : i < L) (hll : i < l.length) (hb : rd l i = b) (hbr : 0 ≤ b ∧ b ≤ 255) (hx : x.length ≤ 100000) :
    spec_base32.l0 (k + 3) x 0 ((0 : Nat) : Int) l L i = spec_base32.l0 k (x ++ [letter (b / 8)]) (b % 8) ((3 : Nat) : Int) l L (i + 1) := by
  rw [b32_in (k + 2) x 0 l L i b 0 (by omega) (by omega) hi.1 hL hll hb hbr, b32_emit (k + 1) _ _ l L i _ 3 (by omega) (by omega) (by omega) (by omega), b32_exit k _ _ l L i 3 (by omega) (by omega) hi]
  rw [show (0 * 256 + b) / 2 ^ 3 % 32 = b / 8 by omega, show (0 * 256 + b) % 2 ^ 3 = b % 8 by omega]
theorem b32_3 (hA : 0 ≤ A ∧ A < 8) (hi : 0 ≤ i ∧ i < 1000000) (hL : i < L) (hll : i < l.length) (hb : rd l i = b) (hbr : 0 ≤ b ∧ b ≤ 255) (hx : x.length ≤ 100000) :
    spec_base32.l0 (k + 4) x A ((3 : Nat) : Int) l L i = spec_base32.l0 k (x ++ [letter (A * 4 + b / 64), letter (b / 2 % 32)]) (b % 2) ((1 : Nat) : Int) l L (i + 1) := by
  rw [b32_in (k + 3) x A l L i b 3 (by omega) (by omega) hi.1 hL hll hb hbr, b32_emit (k + 2) _ _ l L i _ 6 (by omega) (by omega) (by omega) (by omega), b32_emit (k + 1) _ _ l L i _ 1 (by omega) (by omega) (by omega) (by simp; omega), b32_exit k _ _ l L i 1 (by omega) (by omega) hi]
  rw [show (A * 256 + b) / 2 ^ 6 % 32 = A * 4 + b / 64 by omega, show (A * 256 + b) / 2 ^ 1 % 32 = b / 2 % 32 by omega, show (A * 256 + b) % 2 ^ 1 = b % 2 by omega, List.append_assoc]; rfl
theorem b32_1 (hA : 0 ≤ A ∧ A < 2) (hi : 0 ≤ i ∧ i < 1000000) (hL : i < L) (hll : i < l.length) (hb : rd l i = b) (hbr : 0 ≤ b ∧ b ≤ 255) (hx : x.length ≤ 100000) :
    spec_base32.l0 (k + 3) x A ((1 : Nat) : Int) l L i = spec_base32.l0 k (x ++ [letter (A * 16 + b / 16)]) (b % 16) ((4 : Nat) : Int) l L (i + 1) := by
  rw [b32_in (k + 2) x A l L i b 1 (by omega) (by omega) hi.1 hL hll hb hbr, b32_emit (k + 1) _ _ l L i _ 4 (by omega) (by omega) (by omega) (by omega), b32_exit k _ _ l L i 4 (by omega) (by omega) hi]
  rw [show (A * 256 + b) / 2 ^ 4 % 32 = A * 16 + b / 16 by omega, show (A * 256 + b) % 2 ^ 4 = b % 16 by omega]
theorem b32_4 (hA : 0 ≤ A ∧ A < 16) (hi : 0 ≤ i ∧ i < 1000000) (hL : i < L) (hll : i < l.length) (hb : rd l i = b) (hbr : 0 ≤ b ∧ b ≤ 255) (hx : x.length ≤ 100000) :
    spec_base32.l0 (k + 4) x A ((4 : Nat) : Int) l L i = spec_base32.l0 k (x ++ [letter (A * 2 + b / 128), letter (b / 4 % 32)]) (b % 4) ((2 : Nat) : Int) l L (i + 1) := by
  rw [b32_in (k + 3) x A l L i b 4 (by omega) (by omega) hi.1 hL hll hb hbr, b32_emit (k + 2) _ _ l L i _ 7 (by omega) (by omega) (by omega) (by omega), b32_emit (k + 1) _ _ l L i _ 2 (by omega) (by omega) (by omega) (by simp; omega), b32_exit k _ _ l L i 2 (by omega) (by omega) hi]
  rw [show (A * 256 + b) / 2 ^ 7 % 32 = A * 2 + b / 128 by omega, show (A * 256 + b) / 2 ^ 2 % 32 = b / 4 % 32 by omega, show (A * 256 + b) % 2 ^ 2 = b % 4 by omega, List.append_assoc]; rfl
theorem b32_2 (hA : 0 ≤ A ∧ A < 4) (hi : 0 ≤ i ∧ i < 1000000) (hL : i < L) (hll : i < l.length) (hb : rd l i = b) (hbr : 0 ≤ b ∧ b ≤ 255) (hx : x.length ≤ 100000) :
    spec_base32.l0 (k + 4) x A ((2 : Nat) : Int) l L i = spec_base32.l0 k (x ++ [letter (A * 8 + b / 32), letter (b % 32)]) 0 ((0 : Nat) : Int) l L (i + 1) := by
  rw [b32_in (k + 3) x A l L i b 2 (by omega) (by omega) hi.1 hL hll hb hbr, b32_emit (k + 2) _ _ l L i _ 5 (by omega) (by omega) (by omega) (by omega), b32_emit (k + 1) _ _ l L i _ 0 (by omega) (by omega) (by omega) (by simp; omega), b32_exit k _ _ l L i 0 (by omega) (by omega) hi]
  rw [show (A * 256 + b) / 2 ^ 5 % 32 = A * 8 + b / 32 by omega, show (A * 256 + b) / 2 ^ 0 % 32 = b % 32 by omega, show (A * 256 + b) % 2 ^ 0 = 0 by omega, List.append_assoc]; rfl
end

/-- Five bytes are eight letters. -/
theorem b32_chunk (k : Nat) (x l : List Int) (i : Nat) (hi : i + 5 ≤ l.length) (hl : l.length ≤ 1000) (hb : ∀ x ∈ l, 0 ≤ x ∧ x ≤ 255) (hx : x.length ≤ 10000) :
    spec_base32.l0 (k + 18) x 0 ((0 : Nat) : Int) l (l.length : Int) (i : Int) =
      spec_base32.l0 k (x ++ chunk (l.getD i 0) (l.getD (i + 1) 0) (l.getD (i + 2) 0) (l.getD (i + 3) 0) (l.getD (i + 4) 0)) 0 ((0 : Nat) : Int) l (l.length : Int) ((i + 5 : Nat) : Int) := by
  have hr : ∀ j, j < l.length → rd l (j : Int) = l.getD j 0 := fun j hj => by simp [rd]
  have hg : ∀ j, j < l.length → 0 ≤ l.getD j 0 ∧ l.getD j 0 ≤ 255 := fun j hj => by
    rw [List.getD_eq_getElem?_getD, List.getElem?_eq_getElem hj]; exact hb _ (List.getElem_mem _)
  have h0 := hg i (by omega)
  have h1 := hg (i + 1) (by omega)
  have h2 := hg (i + 2) (by omega)
  have h3 := hg (i + 3) (by omega)
  have h4 := hg (i + 4) (by omega)
  have r0 := hr i (by omega)
  have r1 := hr (i + 1) (by omega)
  have r2 := hr (i + 2) (by omega)
  have r3 := hr (i + 3) (by omega)
  have r4 := hr (i + 4) (by omega)
  rw [b32_0 (k + 15) x _ l _ _ (by omega) (by omega) (by omega) r0 h0 (by omega)]
  rw [show ((i : Int) + 1) = ((i + 1 : Nat) : Int) by omega, b32_3 (k + 11) _ _ _ l _ _ (by omega) (by omega) (by omega) (by omega) r1 h1 (by simp; omega)]
  rw [show (((i + 1 : Nat) : Int) + 1) = ((i + 2 : Nat) : Int) by omega, b32_1 (k + 8) _ _ _ l _ _ (by omega) (by omega) (by omega) (by omega) r2 h2 (by simp; omega)]
  rw [show (((i + 2 : Nat) : Int) + 1) = ((i + 3 : Nat) : Int) by omega, b32_4 (k + 4) _ _ _ l _ _ (by omega) (by omega) (by omega) (by omega) r3 h3 (by simp; omega)]
  rw [show (((i + 3 : Nat) : Int) + 1) = ((i + 4 : Nat) : Int) by omega, b32_2 k _ _ _ l _ _ (by omega) (by omega) (by omega) (by omega) r4 h4 (by simp; omega)]
  rw [show (((i + 4 : Nat) : Int) + 1) = ((i + 5 : Nat) : Int) by omega]
  simp only [chunk, List.append_assoc, List.cons_append, List.nil_append]

theorem b32_rest (l : List Int) (hl : l.length ≤ 1000) (hb : ∀ x ∈ l, 0 ≤ x ∧ x ≤ 255) (h5 : l.length % 5 ≤ 1) : ∀ (r q : Nat), q + r = l.length / 5 →
    spec_base32.l0 (18 * r + 5) (encL (l.take (5 * q))) 0 ((0 : Nat) : Int) l (l.length : Int) ((5 * q : Nat) : Int) = some (strOfNums (encL l)) := by
  intro r
  induction r with
  | zero =>
    intro q hq
    by_cases h0 : l.length % 5 = 0
    · rw [List.take_of_length_le (by omega), show 18 * 0 + 5 = 4 + 1 by omega, spec_base32.l0, if_neg (by omega), if_neg (by decide)]
    · have hlen : (encL (l.take (5 * q))).length = 8 * q := encL_length q _ (by rw [List.length_take]; omega)
      have hbr : 0 ≤ l.getD (5 * q) 0 ∧ l.getD (5 * q) 0 ≤ 255 := by rw [List.getD_eq_getElem?_getD, List.getElem?_eq_getElem (by omega)]; exact hb _ (List.getElem_mem _)
      rw [show 18 * 0 + 5 = 2 + 3 by omega, b32_0 2 _ _ l _ _ (by omega) (by omega) (by omega) (show rd l ((5 * q : Nat) : Int) = l.getD (5 * q) 0 by rw [rd, Int.toNat_natCast]) hbr (by omega)]
      obtain ⟨b, hbb⟩ : ∃ b, b = l.getD (5 * q) 0 := ⟨_, rfl⟩
      rw [← hbb] at hbr ⊢
      have hs : shl .i64 (b % 8) 2 = b % 8 * 4 := by
        unfold shl
        rw [show min (2 : Int).toNat IntKind.i64.bits = 2 from rfl, wraps_i64 _ (by omega) (by omega)]; omega
      have hw : wrap64 (5 - ((3 : Nat) : Int)) = 2 := by rw [w64 _ (by omega)]; omega
      have ha : bits .and .i64 (shl .i64 (b % 8) 2) 31 = b % 8 * 4 := by rw [hs, i64_and31 (by omega) (by omega)]; omega
      rw [show (2 : Nat) = 1 + 1 from rfl, spec_base32.l0, if_neg (by omega), if_pos (by decide), hw, if_pos (by decide), ha, if_pos (by omega), if_pos (by omega), if_pos (by simp; omega), bt_letter (by omega) (by omega)]
      have hsp : l = l.take (5 * q) ++ [b] := by
        have : l.drop (5 * q) = [b] := by
          rw [List.drop_eq_getElem_cons (by omega), List.drop_of_length_le (by omega), hbb, List.getD_eq_getElem?_getD, List.getElem?_eq_getElem (by omega)]; rfl
        conv => lhs; rw [← List.take_append_drop (5 * q) l, this]
      have he : encL l = encL (l.take (5 * q)) ++ [letter (b / 8), letter (b % 8 * 4)] := by
        conv => lhs; rw [hsp]
        rw [encL_append q _ _ (by rw [List.length_take]; omega)]
        congr 1
        simp [encL, chunk]
      rw [he, List.append_assoc]; rfl
  | succ r ih =>
    intro q hq
    have hlen : (encL (l.take (5 * q))).length = 8 * q := encL_length q _ (by rw [List.length_take]; omega)
    rw [show 18 * (r + 1) + 5 = (18 * r + 5) + 18 by omega, b32_chunk _ _ l (5 * q) (by omega) hl hb (by omega)]
    have he : encL (l.take (5 * (q + 1))) = encL (l.take (5 * q)) ++ chunk (l.getD (5 * q) 0) (l.getD (5 * q + 1) 0) (l.getD (5 * q + 2) 0) (l.getD (5 * q + 3) 0) (l.getD (5 * q + 4) 0) := by
      rw [take_five l q (by omega), encL_append q _ _ (by rw [List.length_take]; omega)]
      congr 1
    rw [← he]
    exact ih (q + 1) (by omega)
theorem spec_b32 (l : List Int) (hl : l.length ≤ 1000) (hb : ∀ x ∈ l, 0 ≤ x ∧ x ≤ 255) (h5 : l.length % 5 ≤ 1) : spec_base32.f (18 * (l.length / 5) + 5) l = some (strOfNums (encL l)) := by
  have h := b32_rest l hl hb h5 (l.length / 5) 0 (by omega)
  exact h
end Go.Proofs.Ytmmhifomfbdfjaa
namespace Go.Proofs.Ytmmhifomfbdfjaa
open Go.RowKit Go.Proofs.YtmmhifomfbdfjaaW.PrintWords Go.Proofs.YtmmhifomfbdfjaaW.PrintLast Go.Proofs.YtmmhifomfbdfjaaW.PrintMore
set_option linter.unusedVariables false
set_option linter.unusedSimpArgs false

theorem rds_cells {w : World} {ad : Addr} {l : List Int} (h : Rds w (some ad) l) : ∀ (j : Nat) (u : Value), (u8s l)[j]? = some u → w.cell? (ad.add j) = some u := by
  intro j u hu
  have hj : j < l.length := by
    have := (List.getElem?_eq_some_iff.1 hu).1; rwa [u8s_length] at this
  have hr := Kd.reads_of_C (enc := Value.int .u8) (d := (0 : Int)) (h1 := fun _ => rfl) h
  obtain ⟨ad', e, hc⟩ := hr.2.2 (by omega)
  injection e with e
  subst e
  rw [hc j hj, ← hu]
  rw [u8s, List.getElem?_map, List.getD_eq_getElem?_getD, List.getElem?_eq_getElem hj]; rfl

section
variable {w : World} {ops : Array Oper} {rest : List Oper} {o : Oper} {a : Act} {Q : Exit → Act → World → Prop}
theorem app_arg (hgd : o.guard = none) (s x : Operand) (ho : o.op = .call { callee := .builtin .append, args := #[s, x], argTypes := #[22, 22] }) (ad a2 : Addr) (xs ys : List Int) (m c : Nat)
    (hs : a.eval s = .slice (some ad) xs.length xs.length) (hx : a.eval x = .slice (some a2) m c) (hm : m = ys.length) (R1 : Rds w (some ad) xs) (R2 : Rds w (some a2) ys) (hy : 0 < ys.length) (hl : xs.length + ys.length ≤ 1000000)
    (h : ∀ v1 w1, Own w1 w.heap.size v1 (xs ++ ys) → w.grownBy w1 none → wpList Try.prog ops Q rest (a.put o.dst v1) w1) : wpList Try.prog ops Q (o :: rest) a w := by
  subst hm
  refine wpList_plain hgd fun K hK => ?_
  cases hi : Try.prog.info? 5 with
  | none => have := info5'; rw [hi] at this; simp at this
  | some i =>
    have hi5 := info5'
    rw [hi] at hi5
    simp only [Option.map_some, Option.some.injEq, Prod.mk.injEq] at hi5
    obtain ⟨hz, hsz, hby⟩ := hi5
    obtain ⟨v', w', hrun, how, hg⟩ := run_append_arg_grows (P := Try.prog) 22 o.type 5 i (.int .u8 0) 1 1 Try.underlying22 hi hz hsz hby rfl (by decide) (w := w) ad xs.length xs.length (u8s xs) (by rw [u8s_length]; omega) (rds_cells R1)
      a2 ys.length c (u8s ys) (by rw [u8s_length]; omega) (rds_cells R2) (by omega) (by unfold maxLen; omega) (by omega)
    unfold Oper.wp
    simp [execOp, ho, resolve, invoke, builtin, hs, hx, hrun, Result.andThen]
    refine hK _ _ (h v' w' (Kd.R_of_own (enc := Value.int .u8) (h1 := fun _ => rfl) ?_ (fun _ _ => trivial)) hg)
    rw [show u8s xs ++ u8s ys = encs (Value.int .u8) (xs ++ ys) by simp [u8s, encs], show xs.length + ys.length = (xs ++ ys).length by simp] at how
    exact how
end

set_option maxHeartbeats 800000 in
set_option maxRecDepth 100000 in
theorem spec_checked (w : World) (ad : Addr) (cap : Nat) (l : List Int) (hr : Rds w (some ad) l) (hc : l.length ≤ cap) (hl : l.length ≤ 1000) (hb : ∀ x ∈ l, 0 ≤ x ∧ x ≤ 255) :
    Calls Try.prog 27 #[.slice (some ad) l.length cap] w fun e w' => ∃ ad' c', e = .returned (.slice (some ad') (chk l).length c') ∧ (chk l).length ≤ c' ∧ Rds w' (some ad') (chk l) ∧ Below w.heap.size w w' := by
  have HR := Aside0.mk hr
  have hq := crcT_range l
  have HF := Aside0.mk (spec_crc l (by omega) hb)
  have HCH := Aside0.mk (show chk l = l ++ [crcT l % 256, crcT l / 256] from rfl)
  have HCL := Aside0.mk (chk_length l)
  obtain ⟨x, hx⟩ : ∃ x, x = crcT l := ⟨_, rfl⟩
  rw [← hx] at hq HF HCH
  clear hr hx
  go_enter Try.func27, Try.ntmps27
  go_wp2_with fail
  refine (PFnEncode.spec_CRC.calls _ (some ad) cap l x w HR.out hc HF.out).mono ?_
  rintro e w1 ⟨rfl, hd1⟩
  have B1 := Aside0.mk (hd1.below)
  clear hd1
  have HL := Aside0.mk (Kd.C_alloc (Kd.C_below HR.out B1.out) (.cells #[.int .u8 (x % 256), .int .u8 (x / 256)] 5))
  have HN := Aside0.mk (show Rds (w1.alloc (.cells #[.int .u8 (x % 256), .int .u8 (x / 256)] 5)) (some ⟨w1.heap.size, 0, none⟩) [x % 256, x / 256] from lit_rds w1 [x % 256, x / 256] (by simp))
  have B2 := Aside0.mk (below_alloc B1.out (.cells #[.int .u8 (x % 256), .int .u8 (x / 256)] 5))
  go_wp2_with ((with_reducible refine gate_dst (N := 18) rfl ?_); refine app_arg rfl (.tmp 11) (.tmp 17) rfl ad ⟨w1.heap.size, 0, none⟩ l [x % 256, x / 256] 2 2 rfl rfl rfl HL.out HN.out (by simp) (by simp; omega) ?_; intro v1 w2 ho hg; have HO := Aside0.mk ho; have HG := Aside0.mk hg; clear ho hg)
  have h := own_rds HO.out
  rw [← HCH.out] at h
  obtain ⟨A1, c1, rfl, hc1, hr1⟩ := h
  obtain ⟨ad1, rfl, _⟩ := hr1.2.2 (by rw [HCL.out]; omega)
  refine bodyPost_ret (results_tmp rfl _ _ _) rfl ⟨ad1, c1, rfl, hc1, hr1, B2.out.grown HG.out B2.out.size (by intro k hk; cases hk)⟩

set_option maxHeartbeats 800000 in
set_option maxRecDepth 100000 in
theorem spec_text (w : World) (k : Int) (A : Option Addr) (cap : Nat) (ys : List Int) (h0 : 0 ≤ k) (h1 : k < 6) (hr : Rds w A ys) (hc : ys.length ≤ cap) (hy : ys.length = 32) (hb : ∀ x ∈ ys, 0 ≤ x ∧ x ≤ 255) :
    Calls Try.prog 12 #[.int .i64 k, .slice A ys.length cap] w fun e w' => e = .returned (.string (strOfNums (keyL (pk k) ys))) ∧ Below w.heap.size w w' := by
  have hpk : 0 ≤ pk k ∧ pk k ≤ 255 := by rcases kinds h0 h1 with rfl | rfl | rfl | rfl | rfl | rfl <;> decide
  have hpf : PFnEncode.spec_prefix.f k = some (pk k) := by rcases kinds h0 h1 with rfl | rfl | rfl | rfl | rfl | rfl <;> rfl
  obtain ⟨c, ec⟩ : ∃ c, c = pk k := ⟨_, rfl⟩
  rw [← ec] at hpk hpf ⊢
  obtain ⟨d, hd⟩ : ∃ d, d = c :: ys := ⟨_, rfl⟩
  have hdl : d.length = 33 := by rw [hd]; simp [hy]
  have hdb : ∀ x ∈ d, 0 ≤ x ∧ x ≤ 255 := by rw [hd]; intro x hx; exact (List.mem_cons.1 hx).elim (fun e => e ▸ hpk) (hb x)
  have hcl : (chk d).length = 35 := by rw [chk_length, hdl]
  have HS := Aside0.mk (spec_b32 (chk d) (by omega) (chk_bytes hdb) (by omega))
  have HK := Aside0.mk (show keyL c ys = encL (chk d) by rw [hd, keyL])
  have HD := Aside0.mk hd
  have HDL := Aside0.mk hdl
  have HDB := Aside0.mk hdb
  have HPF := Aside0.mk hpf
  have HR := Aside0.mk hr
  have HY := Aside0.mk hy
  clear hr hb hd hdl hdb hpf ec hcl hy
  go_enter Try.func12, Try.ntmps12
  go_wp2_with fail
  refine (PFnEncode.spec_prefix.calls k c w HPF.out).mono ?_
  rintro e w1 ⟨rfl, hb1⟩
  have B1 := Aside0.mk hb1
  have HO := Aside0.mk (own_of_lit w1 w1.heap.size [c] (Nat.le_refl _) (by simp))
  have HR1 := Aside0.mk (Kd.C_alloc (Kd.C_below HR.out hb1) (.cells (u8s [c]).toArray 5))
  have B2 := Aside0.mk (below_alloc hb1 (.cells (u8s [c]).toArray 5))
  have hyl : ys.length ≤ 1000 := by rw [HY.out]; omega
  clear hb1
  go_wp2_with ((with_reducible refine gate_dst (N := 9) rfl ?_); refine app_any w1.heap.size rfl (.tmp 7) (.tmp 8) rfl (.slice (some ⟨w1.heap.size, 0, none⟩) 1 1) [c] ys A ys.length cap rfl rfl HO.out rfl HR1.out (by simp) (by simp; omega) ?_; intro v2 w2 ho hg hat; have hol := fun k hk => own_base (Kd.R_own HO.out).choose_spec k hk; have B3 := Aside0.mk (B2.out.grown hg B2.out.size (by intro k hk; have := hol k hk; have := B1.out.size; omega)); have h2 := own_rds (show Own w2 w1.heap.size v2 d by rw [HD.out]; exact ho); have hol2 := fun k hk => own_base (Kd.R_own ho).choose_spec k hk; clear ho hg hat hol; obtain ⟨A2, c2, e2, hc2, hr2⟩ := h2; subst e2; have had := hr2.2.2 (by rw [HDL.out]; omega); obtain ⟨ad2, e2, _⟩ := had; subst e2; have R2 := Aside0.mk hr2; clear hr2 hol2)
  refine (spec_checked w2 ad2 c2 d R2.out hc2 (by rw [HDL.out]; omega) HDB.out).mono ?_
  rintro e w3 ⟨ad3, c3, rfl, hc3, hr3, hb3⟩
  have B4 := Aside0.mk (below_step B3.out hb3)
  have R3 := Aside0.mk hr3
  clear hr3 hb3
  obtain ⟨D, hD⟩ : ∃ D, D = chk d := ⟨_, rfl⟩
  rw [← hD] at HS R3 HK hc3 ⊢
  clear hD
  go_wp2_with fail
  refine (PFnEncode.spec_base32.calls _ (some ad3) c3 D _ w3 R3.out hc3 HS.out).mono ?_
  rintro e w4 ⟨rfl, hb4⟩
  have B5 := Aside0.mk (below_step B4.out hb4)
  clear hb4
  go_wp2_with fail
  refine bodyPost_ret (results_tmp rfl _ _ _) rfl ⟨by rw [HK.out]; rfl, B5.out⟩
end Go.Proofs.Ytmmhifomfbdfjaa
