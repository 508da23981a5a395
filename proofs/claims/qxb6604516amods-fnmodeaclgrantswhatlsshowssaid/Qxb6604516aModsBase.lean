/-
  Closed facts of the program, the key's law, the map that 'modeACL' makes.
-/
import Derived.Test.Qxb6604516aModsRows
import Derived.Maps.OwnSet
import Derived.WalkKit
import Derived.WalkSpells
import Derived.WalkLawsBesides
import Derived.DeepKeys4
import Derived.BigQuiet
import Derived.BigRegion
import Derived.Below
import Derived.Deep.DrawnRows
namespace Go.Proofs.Qxb6604516aMods
open Go.RowKit Go.Maps
set_option linter.unusedSimpArgs false
set_option linter.unusedVariables false

theorem laidOut : laidOutB Trym.prog = true := by kernel_rfl
theorem row41 : (41 : TypeId) < Trym.prog.types.size := of_decide_eq_true (by kernel_rfl)
theorem wide41 : (match Trym.prog.underlying 41 with | some (.array _ _) | some (.struct _) => true | _ => false) = true := by kernel_rfl
set_option maxRecDepth 100000 in
theorem law41 : Keyed Trym.prog 41 := Keyed.of_law (deep_law_laid laidOut (m := 2) (by omega) row41 (by kernel_rfl) wide41)
theorem zero24 (w : World) : (zeroValue 24).run Trym.prog w = .ok (.int .u16 0) w := by kernel_rfl
def key (t : Int) : Value := .agg #[.int .u16 t, .int .u32 4294967295]
theorem some1 : (keyOf Trym.prog 41 (key 1)).isSome = true := by kernel_rfl
theorem some4 : (keyOf Trym.prog 41 (key 4)).isSome = true := by kernel_rfl
theorem some32 : (keyOf Trym.prog 41 (key 32)).isSome = true := by kernel_rfl
theorem wf_u16 {n : Nat} (h : n ≤ 7) : (Lit.int .u16 (n : Int)).wf = true := by
  have e1 : IntKind.u16.min = 0 := by decide
  have e2 : IntKind.u16.max = 65535 := by decide
  show (decide (IntKind.u16.min ≤ (n : Int)) && decide ((n : Int) ≤ IntKind.u16.max)) = true
  rw [e1, e2]
  simp only [Bool.and_eq_true, decide_eq_true_eq]
  omega

/-- A map of three entries. -/
structure Tri (D : DataW Unit) (k1 k4 k32 : Lit) (u g o : Nat) : Prop where
  size : Maps.size D = 3
  h1 : Maps.has D k1 = true
  h4 : Maps.has D k4 = true
  h32 : Maps.has D k32 = true
  a1 : D.atKey k1 (.lit (.int .u16 0)) = .lit (.int .u16 u)
  a4 : D.atKey k4 (.lit (.int .u16 0)) = .lit (.int .u16 g)
  a32 : D.atKey k32 (.lit (.int .u16 0)) = .lit (.int .u16 o)
theorem tri_of {k1 k4 k32 : Lit} {u g o : Nat} (l1 : WideAt.IsKeyLit k1) (l4 : WideAt.IsKeyLit k4) (l32 : WideAt.IsKeyLit k32) (n1 : k1 ≠ k4) (n2 : k1 ≠ k32) (n3 : k4 ≠ k32) :
    Tri ((((DataW.map []).put k1 (.lit (.int .u16 u))).put k4 (.lit (.int .u16 g))).put k32 (.lit (.int .u16 o))) k1 k4 k32 u g o := by
  have t0 : Maps.Tidy (H := Unit) (.map []) := tidy_empty
  have t1 := t0.put l1 (.lit (.int .u16 u))
  have t2 := t1.put l4 (.lit (.int .u16 g))
  have e0 : Maps.size (H := Unit) (.map []) = 0 := rfl
  have z (k : Lit) : Maps.has (H := Unit) (.map []) k = false := by simp [Maps.has]
  have m1 := t1.isMap
  have m2 := t2.isMap
  refine ⟨?_, ?_, ?_, ?_, ?_, ?_, ?_⟩
  · rw [size_put t2, has_put_other n3.symm, has_put_other n2.symm, z, size_put t1, has_put_other n1.symm, z, size_put t0, z, e0]; rfl
  · rw [has_put_other n2, has_put_other n1, has_put_same t0.isMap l1]
  · rw [has_put_other n3, has_put_same m1 l4]
  · rw [has_put_same m2 l32]
  · rw [atKey_put_other n2, atKey_put_other n1, atKey_put_same t0.isMap l1]
  · rw [atKey_put_other n3, atKey_put_same m1 l4]
  · rw [atKey_put_same m2 l32]
theorem Tri.swap {D : DataW Unit} {k1 k4 k32 : Lit} {u g o : Nat} (h : Tri D k1 k4 k32 u g o) : Tri D k4 k1 k32 g u o := ⟨h.size, h.h4, h.h1, h.h32, h.a4, h.a1, h.a32⟩
theorem Tri.turn {D : DataW Unit} {k1 k4 k32 : Lit} {u g o : Nat} (h : Tri D k1 k4 k32 u g o) : Tri D k4 k32 k1 g o u := ⟨h.size, h.h4, h.h32, h.h1, h.a4, h.a32, h.a1⟩

/-- The map that 'modeACL' makes, as it lies in memory. -/
def Acl (B mb : Nat) (u g o : Nat) (w : World) : Prop := B ≤ mb ∧ ∃ D n k1 k4 k32, w.ownsMap Trym.prog 41 (plainElem Trym.prog 24) mb n D ∧ Tri D k1 k4 k32 u g o ∧ keyOf Trym.prog 41 (key 1) = some k1 ∧ keyOf Trym.prog 41 (key 4) = some k4 ∧ keyOf Trym.prog 41 (key 32) = some k32
end Go.Proofs.Qxb6604516aMods
