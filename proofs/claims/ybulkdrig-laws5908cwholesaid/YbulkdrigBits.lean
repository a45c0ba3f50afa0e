/-
  The few bit operations of this seat's first law, as arithmetic.
-/
import Derived.Test.YbulkdrigRows
import Derived.WalkKit
import Derived.Lib.EndianBits
namespace Go.Proofs.Ybulkdrig
set_option linter.unusedVariables false

theorem xor_ones16 (b : Nat) (hb : b < 2 ^ 16) : (2 ^ 16 - 1) ^^^ b = 2 ^ 16 - (b + 1) := by
  apply Nat.eq_of_testBit_eq
  intro i
  rw [Nat.testBit_xor, Nat.testBit_two_pow_sub_one, Nat.testBit_two_pow_sub_succ hb]
  by_cases h : i < 16
  · simp [h]
  · have : b.testBit i = false := Nat.testBit_lt_two_pow (Nat.lt_of_lt_of_le hb (Nat.pow_le_pow_right (by omega) (by omega)))
    simp [h, this]

theorem not16 (s : Int) (h0 : 0 ≤ s) (h1 : s ≤ 65535) : bits BinOp.xor IntKind.u16 (if IntKind.u16.signed = true then -1 else IntKind.u16.max) (IntKind.u16.wrap s) = 65535 - s := by
  have e : (if IntKind.u16.signed = true then (-1 : Int) else IntKind.u16.max) = 65535 := by decide
  rw [e, u16_wrap_id s h0 (by omega), u16_xor 65535 s (by omega) (by omega) h0 (by omega)]
  have := xor_ones16 s.toNat (by omega)
  rw [show (65535 : Int).toNat = 2 ^ 16 - 1 from rfl, this]
  omega
theorem not16' (s : Int) (h0 : 0 ≤ s) (h1 : s ≤ 65535) : bits BinOp.xor IntKind.u16 IntKind.u16.max (IntKind.u16.wrap s) = 65535 - s := not16 s h0 h1

theorem low16 (s : Int) (h0 : 0 ≤ s) (h1 : s ≤ 4294967295) : bits BinOp.and IntKind.u32 s 65535 = s % 65536 :=
  bits_mask .u32 32 (by decide) wraps_u32 16 (by decide) s h0 (by omega)

theorem six (z : Int) (h0 : 0 ≤ z) (h1 : z ≤ 255) : bits BinOp.or IntKind.u8 (bits BinOp.and IntKind.u8 z 15) 96 = 96 + z % 16 := by
  rw [u8_and15 z h0 (by omega), bits_join_low .u8 8 (by decide) wraps_u8 4 (z % 16) 96 (by omega) (by omega) (by omega) (by omega) (by decide) (by omega)]
  omega
theorem seven (z : Int) (h : z / 16 = 6) : bits BinOp.xor IntKind.u8 z 16 = z + 16 := by
  have : z = 96 ∨ z = 97 ∨ z = 98 ∨ z = 99 ∨ z = 100 ∨ z = 101 ∨ z = 102 ∨ z = 103 ∨ z = 104 ∨ z = 105 ∨ z = 106 ∨ z = 107 ∨ z = 108 ∨ z = 109 ∨ z = 110 ∨ z = 111 := by omega
  rcases this with h | h | h | h | h | h | h | h | h | h | h | h | h | h | h | h <;> subst h <;> decide

end Go.Proofs.Ybulkdrig
