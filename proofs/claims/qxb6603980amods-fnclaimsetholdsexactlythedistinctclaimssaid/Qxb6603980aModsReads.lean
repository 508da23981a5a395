/-
  zzBytes, claimsTooBig, among, distinctCount.
-/
import Derived.Test.Qxb6603980aModsBase
namespace Go.Proofs.Qxb6603980aMods
open Go.RowKit Go.Maps
set_option linter.unusedSimpArgs false
set_option linter.unusedVariables false
attribute [local go_sem ↓] Go.wp_at_zero Go.wp_at_succ

/-- What the walk is told of the list. -/
def Cells3 (w : World) (b off : Nat) (fs : List Fl) : Prop := ∀ i f, fs[i]? = some f → w.cell? ⟨b, off + i * 3, none⟩ = some (.string f.1) ∧ w.cell? ⟨b, off + i * 3 + 1, none⟩ = some (.string f.2.1) ∧ w.cell? ⟨b, off + i * 3 + 2, none⟩ = some (.string f.2.2)
def Told (w : World) (a : Option Addr) (fs : List Fl) : Prop := ∀ k, k < fs.length → ∃ b off, a = some ⟨b, off, none⟩ ∧ b < w.heap.size ∧ Cells3 w b off fs
theorem Told.turns {w w' : World} {a : Option Addr} {fs : List Fl} (h : Told w a fs) (hT : Turns (fun _ => False) w w') : Told w' a fs := by
  intro k hk
  obtain ⟨b, off, e, hb, hc⟩ := h k hk
  refine ⟨b, off, e, Nat.lt_of_lt_of_le hb hT.size, fun i f hf => ?_⟩
  obtain ⟨c1, c2, c3⟩ := hc i f hf
  have hB := hT.below (B := w.heap.size) (fun _ _ h => h) (Nat.le_refl _)
  exact ⟨(hB.cell hb).trans c1, (hB.cell hb).trans c2, (hB.cell hb).trans c3⟩
def RetB (e : Ending) : Prop := ∃ bb : Bool, e = .returned (.bool bb)

set_option maxHeartbeats 1000000 in
theorem bytes_any (w : World) (a : Option Addr) (cap : Nat) (fs : List Fl) (g : Fl) (hm : fs.length ≤ maxLen) (hc : Told w a fs) :
    Calls Trym.prog 4 #[.slice a fs.length cap, .agg #[.string g.1, .string g.2.1, .string g.2.2]] w fun e w' => RetB e ∧ Turns (fun _ => False) w w' := by
  obtain ⟨g1, g2, g3⟩ := g
  have hT : Turns (fun _ => False) w (w.alloc (.cells #[.string g1, .string g2, .string g3] 24)) := (Turns.refl _ w).alloc _
  have hc1 := hc.turns hT
  have q0 : (w.alloc (.cells #[.string g1, .string g2, .string g3] 24)).cell? ⟨w.heap.size, 0, none⟩ = some (.string g1) := by rw [cell_at (alloc_at rfl _)]; rfl
  have q1 : (w.alloc (.cells #[.string g1, .string g2, .string g3] 24)).cell? ⟨w.heap.size, 1, none⟩ = some (.string g2) := by rw [cell_at (alloc_at rfl _)]; rfl
  have q2 : (w.alloc (.cells #[.string g1, .string g2, .string g3] 24)).cell? ⟨w.heap.size, 2, none⟩ = some (.string g3) := by rw [cell_at (alloc_at rfl _)]; rfl
  have HT : Hid (Turns (fun _ => False) w (w.alloc (.cells #[.string g1, .string g2, .string g3] 24))) := hT
  have HC : Hid (Told (w.alloc (.cells #[.string g1, .string g2, .string g3] 24)) a fs) := hc1
  clear hT hc1 hc
  unfold maxLen at hm
  go_enter Trym.func4, Trym.ntmps4
  go_wp2
  · go_ret
    exact ⟨⟨_, rfl⟩, HT.out⟩
  · generalize w.alloc (.cells #[.string g1, .string g2, .string g3] 24) = w1 at *
    go_loop [5, 6] (fun n i => ∃ (k : Nat) (z : Int), k ≤ fs.length ∧ i = .int .i64 k ∧ n = .int .i64 z) (fun _ i => fs.length - (intOf i).toNat)
    case atStart => exact ⟨0, _, Nat.zero_le _, rfl, rfl⟩
    case round =>
      obtain ⟨k, z, hk, rfl, rfl⟩ := hrel
      by_cases hlt : k < fs.length
      · obtain ⟨b, off, rfl, hb, hcc⟩ := HC.out k hlt
        obtain ⟨h1, h2, h3⟩ := hcc k fs[k] (List.getElem?_eq_getElem hlt)
        clear hcc
        go_wp2
        all_goals first
          | (go_ret; exact ⟨⟨_, rfl⟩, HT.out⟩)
          | (go_round
             case rel => exact ⟨k + 1, _, by omega, by go_num, rfl⟩
             case measure => simp [intOf]; omega)
      · go_wp2
        all_goals (go_ret; exact ⟨⟨_, rfl⟩, HT.out⟩)
end Go.Proofs.Qxb6603980aMods
