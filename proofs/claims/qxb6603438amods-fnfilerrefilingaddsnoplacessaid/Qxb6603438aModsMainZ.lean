/-
  The empty script, a nil one too.
-/
import Derived.Test.Qxb6603438aModsRank
namespace Go.Proofs.Qxb6603438aMods
open Go.RowKit Go.Maps
set_option linter.unusedSimpArgs false
set_option linter.unusedVariables false
attribute [local go_sem ↓] Go.wp_at_zero Go.wp_at_succ

/-- Where an empty copy lies. -/
def EmptyCopy (w : World) (e : Ending) (w' : World) : Prop := ∃ a c, e = .returned (.slice a 0 c) ∧ Below w.heap.size w w'
theorem copy_empty (w : World) (a : Option Addr) (cap : Nat) (h : a = none → cap = 0) : Calls Trym.prog 15 #[.slice a 0 cap] w (EmptyCopy w) := by
  cases a with
  | none =>
    rw [h rfl]
    exact (copy_nil w).mono fun e w' ⟨he, hw⟩ => ⟨_, _, he, by rw [hw]; exact Below.refl _ _⟩
  | some a => exact (copy_none w a cap).mono fun e w' ⟨he, o, hw⟩ => ⟨_, _, he, by rw [hw]; exact (Below.refl _ _).alloc (Nat.le_refl _) _⟩

set_option maxHeartbeats 1000000 in
set_option maxRecDepth 100000 in
theorem main6_none (w : World) (a : Option Addr) (cap : Nat) (h : a = none → cap = 0) :
    Calls Trym.prog 6 #[.slice a 0 cap] w fun e w' => e = .returned (.bool true) ∧ Below w.heap.size w w' := by
  have HC : Hid (∀ w, Calls Trym.prog 15 #[.slice a 0 cap] w (EmptyCopy w)) := fun w => copy_empty w a cap h
  clear h
  go_enter Trym.func6, Trym.ntmps6
  go_wp2_with fail
  refine (bytes_none w a cap).mono ?_
  rintro e w' ⟨⟨bb, rfl, _⟩, hw⟩
  obtain rfl : w = w' := hw.symm
  cases bb
  · go_wp2_with fail
    go_ret
    exact ⟨rfl, Below.refl _ _⟩
  go_wp2_with fail
  refine (big_none _ a cap).mono ?_
  rintro e w' ⟨⟨bb, rfl, h4⟩, hw⟩
  obtain rfl : w = w' := hw.symm
  cases bb
  rotate_left
  · go_wp2_with fail
    go_ret
    exact ⟨rfl, Below.refl _ _⟩
  go_wp2_with fail
  refine (HC.out w).mono ?_
  rintro e w1 ⟨a1, c1, rfl, hbel1⟩
  go_wp2_with fail
  refine (new_any _).mono ?_
  rintro e w2 ⟨rfl, hw2⟩
  have hF2 : FAt w2 w1.heap.size (fun x => x = w1.heap.size) [] [] := by rw [hw2]; exact FAt.new w1
  have hbel2 : Below w.heap.size w w2 := by rw [hw2]; exact hbel1.alloc hbel1.size _
  clear hw2 hbel1
  generalize w1.heap.size = fb at *
  clear w1
  go_wp2_with fail
  refine wp_loop_rounds 1 ?_
  rw [rounds_succ]
  obtain ⟨j0, hj, hy0, hy1, hy2⟩ := info_parts info3
  obtain ⟨Z1, hZe1, hZ1, hmk1⟩ := make_runs (P := Trym.prog) w2 35 3 j0 _ 1 0 Trym.underlying35 hj hy0 hy1 (by omega) (by omega)
  obtain ⟨Z2, hZe2, hZ2, hmk2⟩ := make_runs (P := Trym.prog) (w2.alloc (.cells Z1 3)) 35 3 j0 _ 1 0 Trym.underlying35 hj hy0 hy1 (by omega) (by omega)
  clear hZe1 hZe2
  change (Instr.makeSlice 35 (.int .i64 0) (.int .i64 0)).run Trym.prog w2 = _ at hmk1
  change (Instr.makeSlice 35 (.int .i64 0) (.int .i64 0)).run Trym.prog (w2.alloc (.cells Z1 3)) = _ at hmk2
  rw [show (w2.alloc (.cells Z1 3)).heap.size = w2.heap.size + 1 by simp] at hmk2
  go_wp2_with fail
  refine wp_loop_rounds 1 ?_
  rw [rounds_succ]
  have hF4 := hF2.kept (G := fun _ => False) (((Turns.refl _ w2).alloc (.cells Z1 3)).alloc (.cells Z2 3)) (fun _ _ h => h)
  have hbel4 := (hbel2.alloc hbel2.size (.cells Z1 3)).alloc (Nat.le_trans hbel2.size (by simp)) (.cells Z2 3)
  generalize (w2.alloc (.cells Z1 3)).alloc (.cells Z2 3) = w4 at *
  go_wp2_with fail
  refine hF4.pairs.mono ?_
  rintro e w' ⟨rfl, hw⟩
  obtain rfl : w4 = w' := hw.symm
  go_wp2_with fail
  refine hF4.places.mono ?_
  rintro e w' ⟨rfl, hw⟩
  obtain rfl : w4 = w' := hw.symm
  go_wp2_with fail
  refine hF4.entries.mono ?_
  rintro e w' ⟨rfl, hw⟩
  obtain rfl : w4 = w' := hw.symm
  go_wp2_with fail
  refine wp_loop_rounds 1 ?_
  rw [rounds_succ]
  go_wp2_with fail
  go_ret
  exact ⟨rfl, hbel4⟩
end Go.Proofs.Qxb6603438aMods
