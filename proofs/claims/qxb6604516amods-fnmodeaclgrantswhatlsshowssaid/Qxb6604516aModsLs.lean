/-
  'zzLetter', 'zzTriple', 'zzLsFromMode'.
-/
import Derived.Test.Qxb6604516aModsShims
import Derived.Laws.BytesArg
namespace Go.Proofs.Qxb6604516aMods
open Go.RowKit Go.Maps
set_option linter.unusedSimpArgs false
set_option linter.unusedVariables false
attribute [local go_sem ↓] Go.wp_at_zero Go.wp_at_succ

theorem heap_setCell_at {w : World} {b o : Nat} {cs : Array Value} {t : TypeId} {fr : Nat × Nat} (h : w.heap[b]? = some (.cells cs t fr)) (v : Value) : (w.setCell ⟨b, o, none⟩ v).heap[b]? = some (.cells (cs.setIfInBounds o v) t fr) := by
  simp [World.setCell, Array.getElem?_modify, h]
theorem cell_at {w : World} {b o : Nat} {cs : Array Value} {t : TypeId} {fr : Nat × Nat} (h : w.heap[b]? = some (.cells cs t fr)) : w.cell? ⟨b, o, none⟩ = cs[o]? := cell_of_row w b o cs t fr h
theorem frozen_at {w : World} {b o : Nat} {cs : Array Value} {t : TypeId} (h : w.heap[b]? = some (.cells cs t (0, 0))) : w.frozen? ⟨b, o, none⟩ = false := by
  simp [World.frozen?, h]
theorem alloc_at (w : World) (o : Obj) : (w.alloc o).heap[w.heap.size]? = some o := (MapKept.heap_alloc w o).1
def bitL (x : Nat) (c : Int) : Int := if x % 2 = 1 then c else 45
def letterN (r : Nat) : Int := if r = 0 then 114 else if r = 1 then 119 else 120
theorem letter_any (w : World) (r : Nat) (hr : r < 3) : Calls Trym.prog 16 #[.int .i64 r] w fun e w' => e = .returned (.int .u8 (letterN r)) ∧ w' = w := by
  rcases (show r = 0 ∨ r = 1 ∨ r = 2 by omega) with rfl | rfl | rfl
  all_goals go_enter Trym.func16, Trym.ntmps16
  all_goals go_wp2
  all_goals go_ret
  all_goals exact ⟨rfl, rfl⟩
theorem t4 (p : Nat) (h : p ≤ 7) : (bits .and .u16 (p : Int) 4 = 0 ∧ bitL (p / 4) 114 = 45) ∨ (bits .and .u16 (p : Int) 4 = 4 ∧ bitL (p / 4) 114 = 114) := by
  have e : ∀ p, p < 8 → (p &&& 4 = 0 ∧ p / 4 % 2 ≠ 1) ∨ (p &&& 4 = 4 ∧ p / 4 % 2 = 1) := by decide
  have b := u16_and p 4 (by omega) (by omega)
  unfold bitL
  rcases e p (by omega) with ⟨e1, e2⟩ | ⟨e1, e2⟩
  · rw [e1] at b; exact .inl ⟨b, if_neg e2⟩
  · rw [e1] at b; exact .inr ⟨b, if_pos e2⟩
theorem t2 (p : Nat) (h : p ≤ 7) : (bits .and .u16 (p : Int) 2 = 0 ∧ bitL (p / 2) 119 = 45) ∨ (bits .and .u16 (p : Int) 2 = 2 ∧ bitL (p / 2) 119 = 119) := by
  have e : ∀ p, p < 8 → (p &&& 2 = 0 ∧ p / 2 % 2 ≠ 1) ∨ (p &&& 2 = 2 ∧ p / 2 % 2 = 1) := by decide
  have b := u16_and p 2 (by omega) (by omega)
  unfold bitL
  rcases e p (by omega) with ⟨e1, e2⟩ | ⟨e1, e2⟩
  · rw [e1] at b; exact .inl ⟨b, if_neg e2⟩
  · rw [e1] at b; exact .inr ⟨b, if_pos e2⟩
theorem t1 (p : Nat) (h : p ≤ 7) : (bits .and .u16 (p : Int) 1 = 0 ∧ bitL p 120 = 45) ∨ (bits .and .u16 (p : Int) 1 = 1 ∧ bitL p 120 = 120) := by
  have e : ∀ p, p < 8 → (p &&& 1 = 0 ∧ p % 2 ≠ 1) ∨ (p &&& 1 = 1 ∧ p % 2 = 1) := by decide
  have b := u16_and p 1 (by omega) (by omega)
  unfold bitL
  rcases e p (by omega) with ⟨e1, e2⟩ | ⟨e1, e2⟩
  · rw [e1] at b; exact .inl ⟨b, if_neg e2⟩
  · rw [e1] at b; exact .inr ⟨b, if_pos e2⟩
def triN (p : Nat) : List Int := [bitL (p / 4) 114, bitL (p / 2) 119, bitL p 120]
theorem conv3 (w : World) (a b c : Int) : (convert 45 9 (.slice (some ⟨w.heap.size, 0, none⟩) 3 3)).run Trym.prog (w.alloc (.cells #[.int .u8 a, .int .u8 b, .int .u8 c] 46)) = .ok (.string (strOfNums [a, b, c])) (w.alloc (.cells #[.int .u8 a, .int .u8 b, .int .u8 c] 46)) := by
  refine run_convert_bytes_arg _ 45 5 Trym.underlying45 Trym.underlying5 w.heap.size 0 3 3 [a, b, c] rfl ?_ 9 Trym.underlying9
  intro i hi
  rw [cell_at (alloc_at w _)]
  rcases (show i = 0 ∨ i = 1 ∨ i = 2 by omega) with rfl | rfl | rfl <;> rfl
set_option maxHeartbeats 1000000 in
set_option maxRecDepth 100000 in
theorem triple_any (w : World) (p : Nat) (hp : p ≤ 7) : Calls Trym.prog 9 #[.int .u16 p] w fun e w' => e = .returned (.string (strOfNums (triN p))) ∧ Below w.heap.size w w' := by
  unfold triN
  obtain ⟨x, hx⟩ : ∃ x, bitL (p / 4) 114 = x := ⟨_, rfl⟩
  obtain ⟨y, hy⟩ : ∃ y, bitL (p / 2) 119 = y := ⟨_, rfl⟩
  obtain ⟨z, hz⟩ : ∃ z, bitL p 120 = z := ⟨_, rfl⟩
  have h4 := t4 p hp
  have h2 := t2 p hp
  have h1 := t1 p hp
  rw [hx, hy, hz]
  rw [hx] at h4
  rw [hy] at h2
  rw [hz] at h1
  clear hx hy hz
  have hcv := conv3 w
  have hbl : ∀ Z, Below w.heap.size w (w.alloc (.cells Z 46)) := fun Z => (Below.refl _ w).alloc (Nat.le_refl _) _
  have HBL : Hid (∀ Z, Below w.heap.size w (w.alloc (.cells Z 46))) := hbl
  clear hbl
  rcases h4 with ⟨b4, rfl⟩ | ⟨b4, rfl⟩ <;> rcases h2 with ⟨b2, rfl⟩ | ⟨b2, rfl⟩ <;> rcases h1 with ⟨b1, rfl⟩ | ⟨b1, rfl⟩
  all_goals go_enter Trym.func9, Trym.ntmps9
  all_goals go_wp2
  all_goals go_ret
  all_goals exact ⟨rfl, HBL.out _⟩
end Go.Proofs.Qxb6604516aMods
