/-
  The empty script, a nil one too: FnFilerRefilingAddsNoPlaces.
-/
import Derived.Test.Qxb6603438aModsMainZ
import Derived.Test.Qxb6603438aModsTwice
namespace Go.Proofs.Qxb6603438aMods
open Go.RowKit Go.Maps
set_option linter.unusedSimpArgs false
set_option linter.unusedVariables false
attribute [local go_sem ↓] Go.wp_at_zero Go.wp_at_succ

set_option maxHeartbeats 1000000 in
set_option maxRecDepth 100000 in
theorem main7_none (w : World) (a : Option Addr) (cap : Nat) (h : a = none → cap = 0) :
    Calls Trym.prog 7 #[.slice a 0 cap] w fun e w' => e = .returned (.bool true) ∧ Below w.heap.size w w' := by
  have HC : Hid (∀ w, Calls Trym.prog 15 #[.slice a 0 cap] w (EmptyCopy w)) := fun w => copy_empty w a cap h
  clear h
  go_enter Trym.func7, Trym.ntmps7
  go_wp2_with fail
  refine (bytes2_none w a cap).mono ?_
  rintro e w' ⟨⟨bb, rfl, _⟩, hw⟩
  obtain rfl : w = w' := hw.symm
  cases bb
  · go_wp2_with fail
    go_ret
    exact ⟨rfl, Below.refl _ _⟩
  go_wp2_with fail
  refine (big_none _ a cap).mono ?_
  rintro e w' ⟨⟨bb, rfl, h4⟩, hw⟩
  obtain rfl : w = w' := hw.symm
  cases bb
  rotate_left
  · go_wp2_with fail
    go_ret
    exact ⟨rfl, Below.refl _ _⟩
  go_wp2_with fail
  refine (HC.out w).mono ?_
  rintro e w1 ⟨a1, c1, rfl, hbel1⟩
  go_wp2_with fail
  refine (new_any _).mono ?_
  rintro e w2 ⟨rfl, hw2⟩
  have hF2 : FAt w2 w1.heap.size (fun x => x = w1.heap.size) [] [] := by rw [hw2]; exact FAt.new w1
  have hbel2 : Below w.heap.size w w2 := by rw [hw2]; exact hbel1.alloc hbel1.size _
  clear hw2 hbel1
  generalize w1.heap.size = f1 at *
  clear w1
  go_wp2_with fail
  refine (new_any _).mono ?_
  rintro e w3 ⟨rfl, hw3⟩
  have hA : FAt w3 f1 (fun x => x = f1) [] [] := by rw [hw3]; exact hF2.kept (G := fun _ => False) ((Turns.refl _ w2).alloc _) (fun _ _ h => h)
  have hB : FAt w3 w2.heap.size (fun x => x = w2.heap.size) [] [] := by rw [hw3]; exact FAt.new w2
  have hbel3 : Below w.heap.size w w3 := by rw [hw3]; exact hbel2.alloc hbel2.size _
  clear hw3 hbel2 hF2
  generalize w2.heap.size = f2 at *
  clear w2
  go_wp2_with fail
  refine wp_loop_rounds 1 ?_
  rw [rounds_succ]
  go_wp2_with fail
  refine wp_loop_rounds 1 ?_
  rw [rounds_succ]
  go_wp2_with fail
  refine hA.pairs.mono ?_
  rintro e w' ⟨rfl, hw⟩
  obtain rfl : w3 = w' := hw.symm
  go_wp2_with fail
  refine hB.pairs.mono ?_
  rintro e w' ⟨rfl, hw⟩
  obtain rfl : w3 = w' := hw.symm
  go_wp2_with fail
  refine hB.places.mono ?_
  rintro e w' ⟨rfl, hw⟩
  obtain rfl : w3 = w' := hw.symm
  go_wp2_with fail
  refine hA.places.mono ?_
  rintro e w' ⟨rfl, hw⟩
  obtain rfl : w3 = w' := hw.symm
  go_wp2_with fail
  refine wp_loop_rounds 1 ?_
  rw [rounds_succ]
  go_wp2_with fail
  refine wp_loop_rounds 1 ?_
  rw [rounds_succ]
  go_wp2_with fail
  refine hA.entries.mono ?_
  rintro e w' ⟨rfl, hw⟩
  obtain rfl : w3 = w' := hw.symm
  go_wp2_with fail
  refine hB.entries.mono ?_
  rintro e w' ⟨rfl, hw⟩
  obtain rfl : w3 = w' := hw.symm
  go_wp2_with fail
  refine wp_loop_rounds 1 ?_
  rw [rounds_succ]
  go_wp2_with fail
  go_ret
  exact ⟨rfl, hbel3⟩
end Go.Proofs.Qxb6603438aMods
