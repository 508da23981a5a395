/-
  claimsTooBig.
-/
import Derived.Test.Qxb6603980aModsReads
namespace Go.Proofs.Qxb6603980aMods
open Go.RowKit Go.Maps
set_option linter.unusedSimpArgs false
set_option linter.unusedVariables false
attribute [local go_sem ↓] Go.wp_at_zero Go.wp_at_succ

set_option maxHeartbeats 1000000 in
theorem big_any (w : World) (a : Option Addr) (cap : Nat) (fs : List Fl) (g : Fl) (hm : fs.length ≤ maxLen) (hc : Told w a fs) :
    Calls Trym.prog 5 #[.slice a fs.length cap, .agg #[.string g.1, .string g.2.1, .string g.2.2]] w fun e w' => RetB e ∧ Turns (fun _ => False) w w' := by
  obtain ⟨g1, g2, g3⟩ := g
  have hT : Turns (fun _ => False) w (w.alloc (.cells #[.string g1, .string g2, .string g3] 24)) := (Turns.refl _ w).alloc _
  have q0 : (w.alloc (.cells #[.string g1, .string g2, .string g3] 24)).cell? ⟨w.heap.size, 0, none⟩ = some (.string g1) := by rw [cell_at (alloc_at rfl _)]; rfl
  have q1 : (w.alloc (.cells #[.string g1, .string g2, .string g3] 24)).cell? ⟨w.heap.size, 1, none⟩ = some (.string g2) := by rw [cell_at (alloc_at rfl _)]; rfl
  have q2 : (w.alloc (.cells #[.string g1, .string g2, .string g3] 24)).cell? ⟨w.heap.size, 2, none⟩ = some (.string g3) := by rw [cell_at (alloc_at rfl _)]; rfl
  have HT : Hid (Turns (fun _ => False) w (w.alloc (.cells #[.string g1, .string g2, .string g3] 24))) := hT
  have HC : Hid (Told w a fs) := hc
  clear hT hc
  unfold maxLen at hm
  go_enter Trym.func5, Trym.ntmps5
  go_wp2
  all_goals first
    | (go_ret; exact ⟨⟨_, rfl⟩, HT.out⟩)
    | skip
  all_goals (
    generalize w.alloc (.cells #[.string g1, .string g2, .string g3] 24) = w1 at *
    clear q0 q1 q2
    go_loopw [5, 6] (fun n i wr => ∃ (k : Nat) (z : Int), k ≤ fs.length ∧ i = .int .i64 k ∧ n = .int .i64 z ∧ Turns (fun _ => False) w wr) (fun _ i _ => fs.length - (intOf i).toNat)
    case atStart => exact ⟨0, _, Nat.zero_le _, rfl, rfl, HT.out⟩
    case round =>
      clear HT
      obtain ⟨k, z, hk, rfl, rfl, hT⟩ := hrel
      have HT : Hid (Turns (fun _ => False) w wr) := hT
      clear hT
      by_cases hlt : k < fs.length
      · obtain ⟨b, off, rfl, hb, hcc⟩ := HC.out.turns HT.out k hlt
        obtain ⟨h1, h2, h3⟩ := hcc k fs[k] (List.getElem?_eq_getElem hlt)
        clear hcc
        go_wp2
        all_goals first
          | (go_ret; exact ⟨⟨_, rfl⟩, HT.out.alloc _⟩)
          | (go_roundw
             case rel => exact ⟨k + 1, _, by omega, by go_num, rfl, HT.out.alloc _⟩
             case measure => simp [intOf]; omega)
      · go_wp2
        all_goals (go_ret; exact ⟨⟨_, rfl⟩, HT.out⟩))
end Go.Proofs.Qxb6603980aMods
