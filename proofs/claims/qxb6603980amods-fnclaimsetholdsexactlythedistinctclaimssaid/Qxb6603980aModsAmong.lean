/-
  among.
-/
import Derived.Test.Qxb6603980aModsBig
namespace Go.Proofs.Qxb6603980aMods
open Go.RowKit Go.Maps
set_option linter.unusedSimpArgs false
set_option linter.unusedVariables false
attribute [local go_sem ↓] Go.wp_at_zero Go.wp_at_succ

def amongB (fs : List Fl) (g : Fl) : Bool := fs.any (fun f => sameB f g)
theorem among_yes {fs : List Fl} {g : Fl} {k : Nat} (hk : k < fs.length) (h : sameB fs[k] g = true) : amongB fs g = true := by
  unfold amongB; exact List.any_eq_true.2 ⟨fs[k], List.getElem_mem hk, h⟩
theorem among_no {fs : List Fl} {g : Fl} (h : ∀ j f, j < fs.length → fs[j]? = some f → sameB f g = false) : amongB fs g = false := by
  unfold amongB
  rw [List.any_eq_false]
  intro f hf
  obtain ⟨j, hj, e⟩ := List.getElem_of_mem hf
  rw [h j f hj (by rw [List.getElem?_eq_getElem hj, e])]; simp
/-- The box that a struct came into. -/
def Box (w : World) (b : Nat) (g : Fl) : Prop := w.heap[b]? = some (.cells #[.string g.1, .string g.2.1, .string g.2.2] 24 (0, 0))
theorem Box.cells {w : World} {b : Nat} {g : Fl} (h : Box w b g) : w.cell? ⟨b, 0, none⟩ = some (.string g.1) ∧ w.cell? ⟨b, 1, none⟩ = some (.string g.2.1) ∧ w.cell? ⟨b, 2, none⟩ = some (.string g.2.2) :=
  ⟨by rw [cell_at h]; rfl, by rw [cell_at h]; rfl, by rw [cell_at h]; rfl⟩
theorem Box.turns {w w' : World} {b : Nat} {g : Fl} (h : Box w b g) (hT : Turns (fun _ => False) w w') : Box w' b g := hT.keeps h (fun h => h)

theorem cell_turn {w w' : World} {p : Addr} {v : Value} (hT : Turns (fun _ => False) w w') (h : w.cell? p = some v) : w'.cell? p = some v :=
  ((hT.below (B := w.heap.size) (fun _ _ h => h) (Nat.le_refl _)).cell (World.block_lt_of_cell? w p h)).trans h

set_option maxHeartbeats 1000000 in
theorem among_any (w : World) (a : Option Addr) (cap : Nat) (fs : List Fl) (g : Fl) (hm : fs.length ≤ maxLen) (hc : Told w a fs) :
    Calls Trym.prog 10 #[.slice a fs.length cap, .agg #[.string g.1, .string g.2.1, .string g.2.2]] w fun e w' => e = .returned (.bool (amongB fs g)) ∧ Turns (fun _ => False) w w' := by
  have HT : Hid (Turns (fun _ => False) w (w.alloc (.cells #[.string g.1, .string g.2.1, .string g.2.2] 24))) := (Turns.refl _ w).alloc _
  have HC : Hid (Told w a fs) := hc
  have HBX : Hid (Box (w.alloc (.cells #[.string g.1, .string g.2.1, .string g.2.2] 24)) w.heap.size g) := alloc_at rfl _
  clear hc
  unfold maxLen at hm
  go_enter Trym.func10, Trym.ntmps10
  go_wp2
  generalize hw1 : w.alloc (.cells #[.string g.1, .string g.2.1, .string g.2.2] 24) = w1 at *
  clear hw1
  generalize w.heap.size = bx at *
  go_loopw [5] (fun i wr => ∃ (k : Nat), k ≤ fs.length ∧ i = .int .i64 k ∧ Turns (fun _ => False) w wr ∧ Box wr bx g ∧ ∀ j f, j < k → fs[j]? = some f → sameB f g = false) (fun i _ => fs.length - (intOf i).toNat)
  case atStart => exact ⟨0, Nat.zero_le _, rfl, HT.out, HBX.out, fun j f hj => by omega⟩
  case round =>
    clear HT HBX
    obtain ⟨k, hk, rfl, hT, hbx, hno⟩ := hrel
    have HT : Hid (Turns (fun _ => False) w wr) := hT
    have HBX : Hid (Box wr bx g) := hbx
    have HNO : Hid (∀ j f, j < k → fs[j]? = some f → sameB f g = false) := hno
    clear hno
    by_cases hlt : k < fs.length
    · obtain ⟨b, off, rfl, hb, hcc⟩ := HC.out.turns HT.out k hlt
      obtain ⟨h1, h2, h3⟩ := hcc k fs[k] (List.getElem?_eq_getElem hlt)
      obtain ⟨x1, x2, x3⟩ := hbx.cells
      clear hcc hbx hT
      have HF : Hid (fs[k]? = some fs[k]) := List.getElem?_eq_getElem hlt
      have HS : Hid (∀ w, Calls Trym.prog 12 #[.agg #[.string fs[k].1, .string fs[k].2.1, .string fs[k].2.2], .agg #[.string g.1, .string g.2.1, .string g.2.2]] w fun e w' => e = .returned (.bool (sameB fs[k] g)) ∧ Turns (fun _ => False) w w') := fun w => same_any w fs[k] g
      have HY : Hid (sameB fs[k] g = true → amongB fs g = true) := fun h => among_yes hlt h
      generalize fs[k] = f at *
      obtain ⟨sb, hsb⟩ : ∃ sb, sameB f g = sb := ⟨_, rfl⟩
      have HSB : Hid (sameB f g = sb) := hsb
      rw [hsb] at HS
      clear hsb
      go_wp2_with fail
      go_region_held3 (fun w' => w'.cell? ⟨bx, 0, none⟩ = some (.string g.1) ∧ w'.cell? ⟨bx, 1, none⟩ = some (.string g.2.1) ∧ w'.cell? ⟨bx, 2, none⟩ = some (.string g.2.2) ∧ w'.cell? ⟨b, off + k * 3, none⟩ = some (.string f.1) ∧ w'.cell? ⟨b, off + k * 3 + 1, none⟩ = some (.string f.2.1) ∧ w'.cell? ⟨b, off + k * 3 + 2, none⟩ = some (.string f.2.2)) (go_keep)
        ((go_at_call 12; refine (HS.out _).mono ?_; rintro e w3 ⟨rfl, hT3⟩; have y1 := cell_turn hT3 (by exact x1); have y2 := cell_turn hT3 (by exact x2); have y3 := cell_turn hT3 (by exact x3); have y4 := cell_turn hT3 (by exact h1); have y5 := cell_turn hT3 (by exact h2); have y6 := cell_turn hT3 (by exact h3); have HT4 : Hid (Turns (fun _ => False) w w3) := (HT.out.drew).trans hT3 (fun _ _ h => h); have HBX4 : Hid (Box w3 bx g) := (show Box wr.drew bx g from HBX.out).turns hT3; clear hT3))
      clear x1 x2 x3 h1 h2 h3
      cases sb
      · go_wp2_with fail
        go_roundw
        case rel =>
          refine ⟨k + 1, by omega, by go_num, HT4.out, HBX4.out, fun j f' hj hf' => ?_⟩
          by_cases e : j = k
          · subst e
            rw [HF.out] at hf'
            cases hf'
            exact HSB.out
          · exact HNO.out j f' (by omega) hf'
        case measure => simp [intOf]; omega
      · go_wp2_with fail
        go_ret
        exact ⟨by rw [HY.out HSB.out]; rfl, HT4.out⟩
    · have HA : Hid (amongB fs g = false) := among_no (fun j f hj hf => HNO.out j f (by omega) hf)
      clear hT hbx
      go_wp2_with fail
      go_ret
      exact ⟨by rw [HA.out]; rfl, HT.out⟩
end Go.Proofs.Qxb6603980aMods
