import Derived.Test.Qxb6603438aModsFiler
namespace Go.Proofs.Qxb6603438aMods
open Go.RowKit Go.Maps
set_option linter.unusedSimpArgs false
set_option linter.unusedVariables false

abbrev Fl := ByteArray × ByteArray × Int
def scells (fs : List Fl) : List Value := fs.flatMap (fun f => [.string f.1, .string f.2.1, .int .i64 f.2.2])
/-- The script's cells lie behind ⟨b, off⟩. -/
def Cells3 (w : World) (b off : Nat) (fs : List Fl) : Prop := ∀ i f, fs[i]? = some f → w.cell? ⟨b, off + i * 3, none⟩ = some (.string f.1) ∧ w.cell? ⟨b, off + i * 3 + 1, none⟩ = some (.string f.2.1) ∧ w.cell? ⟨b, off + i * 3 + 2, none⟩ = some (.int .i64 f.2.2)
/-- It returns a bool; where that is false, p. -/
def RetB (p : Prop) (e : Ending) : Prop := ∃ bb : Bool, e = .returned (.bool bb) ∧ (bb = false → p)

set_option maxHeartbeats 400000 in
theorem bytes_any (w : World) (b off cap : Nat) (fs : List Fl) (hm : fs.length ≤ maxLen) (hc : Cells3 w b off fs) : 
    Calls Trym.prog 13 #[.slice (some ⟨b, off, none⟩) fs.length cap] w fun e w' => RetB True e ∧ w' = w := by
  unfold maxLen at hm
  go_enter Trym.func13, Trym.ntmps13
  go_wp2
  · go_ret
    exact ⟨⟨_, rfl, fun _ => trivial⟩, rfl⟩
  · go_loop [3, 4] (fun n i => ∃ (k : Nat) (z : Int), k ≤ fs.length ∧ i = .int .i64 k ∧ n = .int .i64 z) (fun _ i => fs.length - (intOf i).toNat)
    case atStart => exact ⟨0, _, Nat.zero_le _, rfl, rfl⟩
    case round =>
      obtain ⟨k, z, hk, rfl, rfl⟩ := hrel
      by_cases hlt : k < fs.length
      · obtain ⟨h1, h2, h3⟩ := hc k fs[k] (List.getElem?_eq_getElem hlt)
        go_wp2
        all_goals first
          | (go_ret; exact ⟨⟨_, rfl, fun _ => trivial⟩, rfl⟩)
          | (go_round
             case rel => exact ⟨k + 1, _, by omega, by go_num, rfl⟩
             case measure => simp [intOf]; omega)
      · go_wp2
        go_ret
        exact ⟨⟨_, rfl, fun _ => trivial⟩, rfl⟩
set_option maxHeartbeats 400000 in
theorem bytes2_any (w : World) (b off cap : Nat) (fs : List Fl) (hm : fs.length ≤ maxLen) (hc : Cells3 w b off fs) : 
    Calls Trym.prog 24 #[.slice (some ⟨b, off, none⟩) fs.length cap] w fun e w' => RetB True e ∧ w' = w := by
  unfold maxLen at hm
  go_enter Trym.func24, Trym.ntmps24
  go_wp2
  · go_ret
    exact ⟨⟨_, rfl, fun _ => trivial⟩, rfl⟩
  · go_loop [3, 4] (fun n i => ∃ (k : Nat) (z : Int), k ≤ fs.length ∧ i = .int .i64 k ∧ n = .int .i64 z) (fun _ i => fs.length - (intOf i).toNat)
    case atStart => exact ⟨0, _, Nat.zero_le _, rfl, rfl⟩
    case round =>
      obtain ⟨k, z, hk, rfl, rfl⟩ := hrel
      by_cases hlt : k < fs.length
      · obtain ⟨h1, h2, h3⟩ := hc k fs[k] (List.getElem?_eq_getElem hlt)
        go_wp2
        all_goals first
          | (go_ret; exact ⟨⟨_, rfl, fun _ => trivial⟩, rfl⟩)
          | (go_round
             case rel => exact ⟨k + 1, _, by omega, by go_num, rfl⟩
             case measure => simp [intOf]; omega)
      · go_wp2
        go_ret
        exact ⟨⟨_, rfl, fun _ => trivial⟩, rfl⟩
theorem bytes_none (w : World) (a : Option Addr) (cap : Nat) : Calls Trym.prog 13 #[.slice a 0 cap] w fun e w' => RetB True e ∧ w' = w := by
  go_enter Trym.func13, Trym.ntmps13
  go_wp2
  refine wp_loop_rounds 1 ?_
  rw [rounds_succ]
  go_wp2
  go_ret
  exact ⟨⟨_, rfl, fun _ => trivial⟩, rfl⟩
theorem bytes2_none (w : World) (a : Option Addr) (cap : Nat) : Calls Trym.prog 24 #[.slice a 0 cap] w fun e w' => RetB True e ∧ w' = w := by
  go_enter Trym.func24, Trym.ntmps24
  go_wp2
  refine wp_loop_rounds 1 ?_
  rw [rounds_succ]
  go_wp2
  go_ret
  exact ⟨⟨_, rfl, fun _ => trivial⟩, rfl⟩
set_option maxHeartbeats 400000 in
theorem big_any (w : World) (b off cap : Nat) (fs : List Fl) (hm : fs.length ≤ maxLen) (hc : Cells3 w b off fs) : 
    Calls Trym.prog 14 #[.slice (some ⟨b, off, none⟩) fs.length cap] w fun e w' => RetB (fs.length ≤ 4096) e ∧ w' = w := by
  unfold maxLen at hm
  by_cases h4 : fs.length ≤ 4096
  · go_enter Trym.func14, Trym.ntmps14
    go_wp2
    go_loop [3, 4] (fun n i => ∃ (k : Nat) (z : Int), k ≤ fs.length ∧ i = .int .i64 k ∧ n = .int .i64 z) (fun _ i => fs.length - (intOf i).toNat)
    case atStart => exact ⟨0, _, Nat.zero_le _, rfl, rfl⟩
    case round =>
      obtain ⟨k, z, hk, rfl, rfl⟩ := hrel
      by_cases hlt : k < fs.length
      · obtain ⟨h1, h2, h3⟩ := hc k fs[k] (List.getElem?_eq_getElem hlt)
        go_wp2
        all_goals first
          | (go_ret; exact ⟨⟨_, rfl, fun _ => (by first | exact trivial | exact h4)⟩, rfl⟩)
          | (go_round
             case rel => exact ⟨k + 1, _, by omega, by go_num, rfl⟩
             case measure => simp [intOf]; omega)
      · go_wp2
        go_ret
        exact ⟨⟨_, rfl, fun _ => (by first | exact trivial | exact h4)⟩, rfl⟩
  · have h5 : ¬ (fs.length : Int) ≤ 4096 := by omega
    go_enter Trym.func14, Trym.ntmps14
    go_wp2
    go_ret
    exact ⟨⟨_, rfl, fun h => by cases h⟩, rfl⟩
theorem big_none (w : World) (a : Option Addr) (cap : Nat) : Calls Trym.prog 14 #[.slice a 0 cap] w fun e w' => RetB True e ∧ w' = w := by
  go_enter Trym.func14, Trym.ntmps14
  go_wp2
  refine wp_loop_rounds 1 ?_
  rw [rounds_succ]
  go_wp2
  go_ret
  exact ⟨⟨_, rfl, fun _ => trivial⟩, rfl⟩
end Go.Proofs.Qxb6603438aMods
