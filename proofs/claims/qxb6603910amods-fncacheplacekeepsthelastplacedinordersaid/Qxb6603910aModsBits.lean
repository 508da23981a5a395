/-
  PLAIN LAWS: a mask over a number; the hash.
-/
import Derived.WalkKit
import Derived.Laws.Bits128
namespace Go.Proofs.Qxb6603910aMods
open Go.RowKit
set_option linter.unusedSimpArgs false
set_option linter.unusedVariables false

theorem i64_mask (n : Int) (N L : Nat) (hN : N = 2 ^ L) (hL : L ≤ 16) : bits .and .i64 n ((N : Int) - 1) = n % (N : Int) := by
  have hpos : 0 < 2 ^ L := Nat.two_pow_pos L
  have hle : 2 ^ L ≤ 2 ^ 16 := Nat.pow_le_pow_right (by decide) hL
  have e1 : ((N : Int) - 1) = ((2 ^ L - 1 : Nat) : Int) := by rw [hN]; omega
  have h127 : (BitVec.ofInt 64 ((N : Int) - 1)).toNat = 2 ^ L - 1 := by
    rw [e1, BitVec.ofInt_natCast, BitVec.toNat_ofNat]
    apply Nat.mod_eq_of_lt
    have : (2 : Nat) ^ 16 = 65536 := by decide
    have : (2 : Nat) ^ 64 = 18446744073709551616 := by decide
    omega
  have key : (BitVec.ofInt 64 n &&& BitVec.ofInt 64 ((N : Int) - 1)).toNat = (n % ((2 ^ 64 : Nat) : Int)).toNat % 2 ^ L := by
    rw [BitVec.toNat_and, BitVec.toNat_ofInt, h127, Nat.and_two_pow_sub_one_eq_mod]
  show IntKind.i64.wrap ((BitVec.ofInt 64 n &&& BitVec.ofInt 64 ((N : Int) - 1)).toNat : Nat) = n % (N : Int)
  rw [key]
  have hlt : (n % ((2 ^ 64 : Nat) : Int)).toNat % 2 ^ L < 2 ^ L := Nat.mod_lt _ hpos
  have hdvd : ((2 ^ L : Nat) : Int) ∣ ((2 ^ 64 : Nat) : Int) := Int.natCast_dvd_natCast.2 (Nat.pow_dvd_pow 2 (by omega))
  have e2 : (((n % ((2 ^ 64 : Nat) : Int)).toNat % 2 ^ L : Nat) : Int) = n % (N : Int) := by
    rw [Int.natCast_emod, Int.toNat_of_nonneg (Int.emod_nonneg _ (by decide)), hN, Int.emod_emod_of_dvd _ hdvd]
  rw [e2, IntKind.wrap_i64]
  have h3 : n % (N : Int) < 65536 := by rw [← e2]; have : (2 : Nat) ^ 16 = 65536 := by decide
                                        omega
  have h4 : 0 ≤ n % (N : Int) := by rw [← e2]; omega
  omega

/-- The hash's mix. -/
def mix (ws seed : Int) : Int :=
  wrap64
                          (bits BinOp.xor IntKind.u64
                            (IntKind.u64.wrap
                              (bits BinOp.xor IntKind.u64
                                  (IntKind.u64.wrap
                                    (bits BinOp.xor IntKind.u64 (bits BinOp.xor IntKind.u64 ws seed)
                                        (bits BinOp.xor IntKind.u64 ws seed / 1073741824) *
                                      13787848793156543929))
                                  (IntKind.u64.wrap
                                      (bits BinOp.xor IntKind.u64 (bits BinOp.xor IntKind.u64 ws seed)
                                          (bits BinOp.xor IntKind.u64 ws seed / 1073741824) *
                                        13787848793156543929) /
                                    134217728) *
                                10723151780598845931))
                            (IntKind.u64.wrap
                                (bits BinOp.xor IntKind.u64
                                    (IntKind.u64.wrap
                                      (bits BinOp.xor IntKind.u64 (bits BinOp.xor IntKind.u64 ws seed)
                                          (bits BinOp.xor IntKind.u64 ws seed / 1073741824) *
                                        13787848793156543929))
                                    (IntKind.u64.wrap
                                        (bits BinOp.xor IntKind.u64 (bits BinOp.xor IntKind.u64 ws seed)
                                            (bits BinOp.xor IntKind.u64 ws seed / 1073741824) *
                                          13787848793156543929) /
                                      134217728) *
                                  10723151780598845931) /
                              2147483648))
/-- The slot where the probes for ws begin. -/
def homeN (seed : Int) (N : Nat) (ws : Int) : Nat := (mix ws seed % (N : Int)).toNat
theorem homeN_lt (seed : Int) (N : Nat) (ws : Int) (h : 0 < N) : homeN seed N ws < N := by
  unfold homeN
  have h1 := Int.emod_nonneg (mix ws seed) (show (N : Int) ≠ 0 by omega)
  have h2 := Int.emod_lt_of_pos (mix ws seed) (show (0 : Int) < N by omega)
  omega
theorem homeN_eq (seed : Int) (N L : Nat) (ws : Int) (hN : N = 2 ^ L) (hL : L ≤ 16) : bits .and .i64 (mix ws seed) ((N : Int) - 1) = (homeN seed N ws : Int) := by
  rw [i64_mask _ N L hN hL]
  unfold homeN
  have h1 := Int.emod_nonneg (mix ws seed) (show (N : Int) ≠ 0 by rw [hN]; have := Nat.two_pow_pos L; omega)
  omega
end Go.Proofs.Qxb6603910aMods
