/-
  The inputs that the law passes over.
-/
import Derived.Test.Qxb6603910aModsMain
namespace Go.Proofs.Qxb6603910aMods
open Go.RowKit Go.Maps
set_option linter.unusedSimpArgs false
set_option linter.unusedVariables false
attribute [local go_sem ↓] Go.wp_at_zero Go.wp_at_succ

set_option maxRecDepth 100000 in
theorem main_bad (w : World) (seed a0 : Int) (L N : Nat) (c0 : Bool) (a : Option Addr) (len cap : Nat) (hl : len ≤ maxLen) (hb : 65536 < len ∨ 16 < L ∨ (L ≤ 16 ∧ N = 2 ^ L ∧ (a0 < 1 ∨ (N : Int) ≤ a0))) :
    Calls Trym.prog 6 #[.int .i64 a0, .int .u8 L, .int .u64 seed, .bool c0, .slice a len cap] w fun e w' => e = .returned (.bool true) ∧ Below w.heap.size w w' := by
  have HB : Hid (65536 < len ∨ 16 < L ∨ (L ≤ 16 ∧ N = 2 ^ L ∧ (a0 < 1 ∨ (N : Int) ≤ a0))) := hb
  clear hb
  go_enter Trym.func6, Trym.ntmps6
  go_wp2_with fail
  refine (bytes_any w a0 L seed c0 a len cap hl).mono ?_
  rintro e w' ⟨⟨bb, rfl⟩, hw⟩
  obtain rfl : w = w' := hw.symm
  unfold maxLen at hl
  cases bb
  · go_wp2_with fail
    go_ret
    exact ⟨rfl, Below.refl _ _⟩
  by_cases h1 : 65536 < len
  · go_wp2_with fail
    go_ret
    exact ⟨rfl, Below.refl _ _⟩
  by_cases h2 : 16 < L
  · go_wp2_with fail
    go_ret
    exact ⟨rfl, Below.refl _ _⟩
  · obtain ⟨h3, h4, h5⟩ : L ≤ 16 ∧ N = 2 ^ L ∧ (a0 < 1 ∨ (N : Int) ≤ a0) := by
      rcases HB.out with h | h | h
      · exact absurd h h1
      · exact absurd h h2
      · exact h
    have hsh := shl_wrap L N h4 h3
    have hle : N ≤ 65536 := by rw [h4]; exact Nat.pow_le_pow_right (by decide) h3
    clear HB h4
    rcases h5 with h5 | h5
    · go_wp2_with fail
      go_ret
      exact ⟨rfl, Below.refl _ _⟩
    · by_cases h6 : a0 < 1
      · go_wp2_with fail
        go_ret
        exact ⟨rfl, Below.refl _ _⟩
      · go_wp2_with fail
        go_ret
        exact ⟨rfl, Below.refl _ _⟩
end Go.Proofs.Qxb6603910aMods
