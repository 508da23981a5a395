/-
  PLAIN LAWS: bits.
-/
import Derived.WalkKit
import Derived.Laws.Bits128
namespace Go.Proofs.Qxb6604516aMods
open Go.RowKit
set_option linter.unusedSimpArgs false
set_option linter.unusedVariables false

theorem u32_wrap (n : Nat) (h : n < 4294967296) : IntKind.u32.wrap (n : Int) = n := by
  rw [IntKind.wrap_u32]; omega
theorem u16_wrap (n : Nat) (h : n < 65536) : IntKind.u16.wrap (n : Int) = n := by
  rw [IntKind.wrap_u16]; omega
theorem u32_and (a b : Nat) (ha : a < 4294967296) (hb : b < 4294967296) : bits .and .u32 (a : Int) (b : Int) = ((a &&& b : Nat) : Int) := by
  show IntKind.u32.wrap ((BitVec.ofInt 32 (a : Int) &&& BitVec.ofInt 32 (b : Int)).toNat : Nat) = _
  rw [BitVec.ofInt_natCast, BitVec.ofInt_natCast, BitVec.toNat_and, BitVec.toNat_ofNat, BitVec.toNat_ofNat, Nat.mod_eq_of_lt (show a < 2 ^ 32 by omega), Nat.mod_eq_of_lt (show b < 2 ^ 32 by omega)]
  exact u32_wrap _ (Nat.lt_of_le_of_lt Nat.and_le_left ha)
theorem u16_and (a b : Nat) (ha : a < 65536) (hb : b < 65536) : bits .and .u16 (a : Int) (b : Int) = ((a &&& b : Nat) : Int) := by
  show IntKind.u16.wrap ((BitVec.ofInt 16 (a : Int) &&& BitVec.ofInt 16 (b : Int)).toNat : Nat) = _
  rw [BitVec.ofInt_natCast, BitVec.ofInt_natCast, BitVec.toNat_and, BitVec.toNat_ofNat, BitVec.toNat_ofNat, Nat.mod_eq_of_lt (show a < 2 ^ 16 by omega), Nat.mod_eq_of_lt (show b < 2 ^ 16 by omega)]
  exact u16_wrap _ (Nat.lt_of_le_of_lt Nat.and_le_left ha)
theorem and7 (a : Nat) : a &&& 7 = a % 8 := Nat.and_two_pow_sub_one_eq_mod a 3
theorem u32_and7 (a : Nat) (ha : a < 4294967296) : bits .and .u32 (a : Int) 7 = ((a % 8 : Nat) : Int) := by
  have := u32_and a 7 ha (by omega)
  rw [and7] at this
  exact this
end Go.Proofs.Qxb6604516aMods
