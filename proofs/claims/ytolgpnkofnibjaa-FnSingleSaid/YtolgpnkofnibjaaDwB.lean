/- Plain laws on the bits of bytes. -/
import Derived.Laws.BitsAllLaws
namespace Stamp
open Go

theorem b224 : ∀ c : Fin 256, (bits .and .u8 (c.val : Int) 224 == 192) = decide (192 ≤ c.val ∧ c.val < 224) := by decide +kernel
theorem b240 : ∀ c : Fin 256, (bits .and .u8 (c.val : Int) 240 == 224) = decide (224 ≤ c.val ∧ c.val < 240) := by decide +kernel
theorem b248 : ∀ c : Fin 256, (bits .and .u8 (c.val : Int) 248 == 240) = decide (240 ≤ c.val ∧ c.val < 248) := by decide +kernel
theorem b192 : ∀ c : Fin 256, (bits .and .u8 (c.val : Int) 192 != 128) = !decide (128 ≤ c.val ∧ c.val < 192) := by decide +kernel
theorem m31 : ∀ c : Fin 256, bits .and .u8 (c.val : Int) 31 = ((c.val % 32 : Nat) : Int) := by decide +kernel
theorem m63 : ∀ c : Fin 256, bits .and .u8 (c.val : Int) 63 = ((c.val % 64 : Nat) : Int) := by decide +kernel
theorem m15 : ∀ c : Fin 256, bits .and .u8 (c.val : Int) 15 = ((c.val % 16 : Nat) : Int) := by decide +kernel
theorem m7 : ∀ c : Fin 256, bits .and .u8 (c.val : Int) 7 = ((c.val % 8 : Nat) : Int) := by decide +kernel

theorem ofInt_i32 (a : Nat) (ha : a < 2147483648) : (BitVec.ofInt 32 (a : Int)).toNat = a := by
  rw [BitVec.ofInt_natCast, BitVec.toNat_ofNat]; exact Nat.mod_eq_of_lt (by omega)
theorem i32_or_nat (a b : Nat) (ha : a < 2147483648) (hb : b < 2147483648) : bits .or .i32 (a : Int) (b : Int) = ((a ||| b : Nat) : Int) := by
  have hx : a ||| b < 2 ^ 31 := Nat.or_lt_two_pow (by omega) (by omega)
  show IntKind.i32.wrap ((BitVec.ofInt 32 (a : Int) ||| BitVec.ofInt 32 (b : Int)).toNat : Int) = _
  rw [BitVec.toNat_or, ofInt_i32 a ha, ofInt_i32 b hb]
  simp [IntKind.wrap, IntKind.bits, IntKind.signed]
  omega
theorem or_join (i a b : Nat) (ha : a % 2 ^ i = 0) (hb : b < 2 ^ i) (ha2 : a < 2147483648) (hi : 2 ^ i ≤ 2147483648) : bits .or .i32 (a : Int) (b : Int) = ((a + b : Nat) : Int) := by
  rw [i32_or_nat a b ha2 (by omega), nat_join i a b ha hb]
end Stamp
