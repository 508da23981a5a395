/-
  Closed facts of the program, the key's law, 'key', 'sameClaim'.
-/
import Derived.Test.Qxb6603980aModsRows
import Derived.Test.Qxb6603980aModsHeap
import Derived.Maps.OwnSet
import Derived.WalkKit
import Derived.WalkSpells
import Derived.WalkLawsBesides
import Derived.DeepKeys4
import Derived.BigQuiet
import Derived.Deep.RegionHeld3
import Derived.Deep.AppendLies
import Derived.Deep.DrawnRows
namespace Go.Proofs.Qxb6603980aMods
open Go.RowKit Go.Maps
set_option linter.unusedSimpArgs false
set_option linter.unusedVariables false
attribute [local go_sem ↓] Go.wp_at_zero Go.wp_at_succ

theorem laidOut : laidOutB Trym.prog = true := by kernel_rfl
theorem row34 : (34 : TypeId) < Trym.prog.types.size := of_decide_eq_true (by kernel_rfl)
theorem wide34 : (match Trym.prog.underlying 34 with | some (.array _ _) | some (.struct _) => true | _ => false) = true := by kernel_rfl
set_option maxRecDepth 100000 in
theorem law34 : Keyed Trym.prog 34 := Keyed.of_law (deep_law_laid laidOut (m := 2) (by omega) row34 (by kernel_rfl) wide34)
theorem zero4 (w : World) : (zeroValue 4).run Trym.prog w = .ok (.bool false) w := by kernel_rfl
theorem keyType34 : Trym.prog.keyType 34 = true := by kernel_rfl
theorem cells34 : Trym.prog.cellsOf 34 = 3 := by kernel_rfl
theorem cells24 : Trym.prog.cellsOf 24 = 3 := by kernel_rfl
theorem cells32 : Trym.prog.cellsOf 32 = 1 := by kernel_rfl
theorem cells9 : Trym.prog.cellsOf 9 = 1 := by kernel_rfl
theorem info34 : (Trym.prog.info? 34).map (fun i => (i.zero, i.size, i.bytes)) = some (some (.agg #[.string ⟨#[]⟩, .string ⟨#[]⟩, .string ⟨#[]⟩]), 3, 48) := by kernel_rfl

theorem lits9 (d : Nat) (s : ByteArray) (h : s.size ≤ maxLen) : ∃ l, Trym.prog.keyLits (d + 1) 9 [.string s] = some l := by
  unfold Program.keyLits
  rw [Trym.underlying9]
  simp [h]
theorem lits32 (d : Nat) (s : ByteArray) (h : s.size ≤ maxLen) : ∃ l, Trym.prog.keyLits (d + 1) 32 [.string s] = some l := by
  unfold Program.keyLits
  rw [Trym.underlying32]
  simp [h]
theorem key_some (a b c : ByteArray) (ha : a.size ≤ maxLen) (hb : b.size ≤ maxLen) (hc : c.size ≤ maxLen) : ∃ kl, keyOf Trym.prog 34 (.agg #[.string a, .string b, .string c]) = some kl := by
  unfold keyOf
  rw [Trym.underlying34]
  have hf : Value.formed Trym.prog 34 (.agg #[.string a, .string b, .string c]) = true := by
    simp [Value.formed, Trym.underlying34, cells34]
  obtain ⟨d, hd⟩ : ∃ d, Trym.prog.types.size = d + 1 := ⟨Trym.prog.types.size - 1, by have h : (34 : Nat) < Trym.prog.types.size := row34; omega⟩
  rw [hf, keyType34, hd]
  simp only [Bool.and_self, if_true]
  obtain ⟨l1, h1⟩ := lits32 d a ha
  obtain ⟨l2, h2⟩ := lits9 d b hb
  obtain ⟨l3, h3⟩ := lits9 d c hc
  have : Trym.prog.keyLits (d + 1 + 1) 34 (Value.agg #[.string a, .string b, .string c]).cells.toList = some (List.flatten [l1, l2, l3]) := by
    unfold Program.keyLits
    rw [Trym.underlying34]
    simp only [cells34, Value.cells]
    simp
    rw [cells32, cells9]
    simp [h1, h2, h3]
  rw [this]
  exact ⟨_, rfl⟩
theorem key_inj {a b c a' b' c' : ByteArray} {kl : Lit} (h : keyOf Trym.prog 34 (.agg #[.string a, .string b, .string c]) = some kl) (h' : keyOf Trym.prog 34 (.agg #[.string a', .string b', .string c']) = some kl) : a = a' ∧ b = b' ∧ c = c' := by
  have := law34.inj h h'
  simpa using this

abbrev Fl := ByteArray × ByteArray × ByteArray
def flV (f : Fl) : Value := .agg #[.string f.1, .string f.2.1, .string f.2.2]

theorem make_any (w : World) (a b c : ByteArray) : Calls Trym.prog 13 #[.string a, .string b, .string c] w fun e w' => e = .returned (.agg #[.string a, .string b, .string c]) ∧ w' = w.alloc (.cells #[.string a, .string b, .string c] 34) := by
  go_enter Trym.func13, Trym.ntmps13
  go_wp2
  exact bodyPost_ret (v := .agg #[.string a, .string b, .string c]) (by simp [results, Trym.results13, go_sem]) rfl ⟨rfl, rfl⟩
theorem key_any (w : World) (a b c : ByteArray) : Calls Trym.prog 9 #[.agg #[.string a, .string b, .string c]] w fun e w' => e = .returned (.agg #[.string a, .string b, .string c]) ∧ Turns (fun _ => False) w w' := by
  go_enter Trym.func9, Trym.ntmps9
  go_wp2_with fail
  refine (make_any _ a b c).mono ?_
  rintro e w' ⟨rfl, rfl⟩
  go_wp2_with fail
  exact bodyPost_ret (v := .agg #[.string a, .string b, .string c]) (by simp [results, Trym.results9, go_sem]) rfl ⟨rfl, (((Turns.refl _ w).alloc _).alloc _).alloc _⟩
/-- 'sameClaim'. -/
def sameB (f g : Fl) : Bool := (f.1.toList == g.1.toList) && (f.2.1.toList == g.2.1.toList) && (f.2.2.toList == g.2.2.toList)
theorem same_any (w : World) (f g : Fl) : Calls Trym.prog 12 #[.agg #[.string f.1, .string f.2.1, .string f.2.2], .agg #[.string g.1, .string g.2.1, .string g.2.2]] w fun e w' => e = .returned (.bool (sameB f g)) ∧ Turns (fun _ => False) w w' := by
  obtain ⟨f1, f2, f3⟩ := f
  obtain ⟨g1, g2, g3⟩ := g
  unfold sameB
  generalize hx : (f1.toList == g1.toList) = x
  generalize hy : (f2.toList == g2.toList) = y
  generalize hz : (f3.toList == g3.toList) = z
  cases x <;> cases y <;> cases z
  all_goals go_enter Trym.func12, Trym.ntmps12
  all_goals go_wp2
  all_goals go_ret
  all_goals exact ⟨rfl, ((Turns.refl _ w).alloc _).alloc _⟩
end Go.Proofs.Qxb6603980aMods
