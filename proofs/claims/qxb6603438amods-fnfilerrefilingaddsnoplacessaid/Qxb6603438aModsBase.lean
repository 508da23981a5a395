/-
  Closed facts of the program, the key's law, small contracts of the shims.
-/
import Derived.Test.Qxb6603438aModsRows
import Derived.Test.Qxb6603438aModsHeap
import Derived.Maps.OwnSet
import Derived.WalkKit
import Derived.WalkSpells
import Derived.WalkLawsBesides
import Derived.DeepKeys4
import Derived.BigQuiet
import Derived.Deep.RegionHeld3
import Derived.Deep.AppendLies
import Derived.Deep.DrawnRows
namespace Go.Proofs.Qxb6603438aMods
open Go.RowKit Go.Maps
set_option linter.unusedSimpArgs false
set_option linter.unusedVariables false
attribute [local go_sem ↓] Go.wp_at_zero Go.wp_at_succ

theorem laidOut : laidOutB Trym.prog = true := by kernel_rfl
theorem row50 : (50 : TypeId) < Trym.prog.types.size := of_decide_eq_true (by kernel_rfl)
theorem wide50 : (match Trym.prog.underlying 50 with | some (.array _ _) | some (.struct _) => true | _ => false) = true := by kernel_rfl
theorem law50 : Keyed Trym.prog 50 := Keyed.of_law (deep_law_laid laidOut (m := 2) (by omega) row50 (by kernel_rfl) wide50)
theorem zero3 (w : World) : (zeroValue 3).run Trym.prog w = .ok (.int .i64 0) w := by kernel_rfl
theorem keyType50 : Trym.prog.keyType 50 = true := by kernel_rfl
theorem size_types : Trym.prog.types.size = 82 := by kernel_rfl
theorem cells50 : Trym.prog.cellsOf 50 = 2 := by kernel_rfl
theorem cells9 : Trym.prog.cellsOf 9 = 1 := by kernel_rfl
theorem info50 : (Trym.prog.info? 50).map (fun i => (i.zero, i.size, i.bytes)) = some (some (.agg #[.string ⟨#[]⟩, .string ⟨#[]⟩]), 2, 32) := by kernel_rfl
theorem info52 : (Trym.prog.info? 52).map (fun i => (i.zero, i.size, i.bytes)) = some (some (.agg #[.int .i64 0, .int .i64 0]), 2, 16) := by kernel_rfl

theorem lits9 (d : Nat) (s : ByteArray) (h : s.size ≤ maxLen) : ∃ l, Trym.prog.keyLits (d + 1) 9 [.string s] = some l := by
  unfold Program.keyLits
  rw [Trym.underlying9]
  simp [h]
theorem key_some (a r : ByteArray) (ha : a.size ≤ maxLen) (hr : r.size ≤ maxLen) : ∃ kl, keyOf Trym.prog 50 (.agg #[.string a, .string r]) = some kl := by
  unfold keyOf
  rw [Trym.underlying50]
  have hf : Value.formed Trym.prog 50 (.agg #[.string a, .string r]) = true := by
    simp [Value.formed, Trym.underlying50, cells50]
  rw [hf, keyType50, size_types]
  simp only [Bool.and_self, if_true]
  obtain ⟨l1, h1⟩ := lits9 81 a ha
  obtain ⟨l2, h2⟩ := lits9 81 r hr
  have : Trym.prog.keyLits (82 + 1) 50 (Value.agg #[.string a, .string r]).cells.toList = some (List.flatten [l1, l2]) := by
    unfold Program.keyLits
    rw [Trym.underlying50]
    simp only [cells50, Value.cells]
    simp
    rw [cells9]
    simp [h1, h2]
  rw [this]
  exact ⟨_, rfl⟩
/-- Two pairs that read as one key are one. -/
theorem key_inj {a r a' r' : ByteArray} {kl : Lit} (h : keyOf Trym.prog 50 (.agg #[.string a, .string r]) = some kl) (h' : keyOf Trym.prog 50 (.agg #[.string a', .string r']) = some kl) : a = a' ∧ r = r' := by
  have := law50.inj h h'
  simpa using this

theorem new_any (w : World) : Calls Trym.prog 16 #[] w fun e w' => e = .returned (.pointer (some ⟨w.heap.size, 0, none⟩)) ∧ w' = w.alloc (.cells #[.map none, .slice none 0 0, .slice none 0 0] 47) := by
  go_enter Trym.func16, Trym.ntmps16
  go_wp2
  go_ret
  exact ⟨rfl, rfl⟩
theorem pairs_any (w : World) (fb n c : Nat) (p : Option Addr) (h1 : w.cell? ⟨fb, 1, none⟩ = some (.slice p n c)) : Calls Trym.prog 18 #[.pointer (some ⟨fb, 0, none⟩)] w fun e w' => e = .returned (.int .i64 n) ∧ w' = w := by
  go_enter Trym.func18, Trym.ntmps18
  go_wp2
  go_ret
  exact ⟨rfl, rfl⟩
theorem entries_any (w : World) (fb n c : Nat) (p : Option Addr) (h1 : w.cell? ⟨fb, 2, none⟩ = some (.slice p n c)) : Calls Trym.prog 20 #[.pointer (some ⟨fb, 0, none⟩)] w fun e w' => e = .returned (.int .i64 n) ∧ w' = w := by
  go_enter Trym.func20, Trym.ntmps20
  go_wp2
  go_ret
  exact ⟨rfl, rfl⟩
theorem places_nil (w : World) (fb : Nat) (h1 : w.cell? ⟨fb, 0, none⟩ = some (.map none)) : Calls Trym.prog 19 #[.pointer (some ⟨fb, 0, none⟩)] w fun e w' => e = .returned (.int .i64 0) ∧ w' = w := by
  have hl := fun ty => Maps.len_nil (w := w) Trym.underlying43 ty
  go_enter Trym.func19, Trym.ntmps19
  go_wp2
  go_ret
  exact ⟨rfl, rfl⟩
theorem places_any (w : World) (fb mb n : Nat) (D : DataW Unit) (h1 : w.cell? ⟨fb, 0, none⟩ = some (.map (some mb))) (hown : w.ownsMap Trym.prog 50 (plainElem Trym.prog 3) mb n D) : Calls Trym.prog 19 #[.pointer (some ⟨fb, 0, none⟩)] w fun e w' => e = .returned (.int .i64 (Maps.size D)) ∧ w' = w := by
  have hl := fun ty => hown.len Trym.underlying43 ty
  go_enter Trym.func19, Trym.ntmps19
  go_wp2
  go_ret
  exact ⟨rfl, rfl⟩
theorem entry_any (w : World) (fb g n c i : Nat) (x y : Int) (h1 : w.cell? ⟨fb, 2, none⟩ = some (.slice (some ⟨g, 0, none⟩) n c)) (hi : i < n)
    (hx : w.cell? ⟨g, i * 2, none⟩ = some (.int .i64 x)) (hy : w.cell? ⟨g, i * 2 + 1, none⟩ = some (.int .i64 y)) :
    Calls Trym.prog 21 #[.pointer (some ⟨fb, 0, none⟩), .int .i64 i] w fun e w' => e = .returned (.tuple #[.int .i64 x, .int .i64 y]) ∧ ∃ k, w' = w.drewN k := by
  have i0 : (0 : Int) ≤ (i : Int) := by omega
  have i1 : (i : Int) < (n : Int) := by omega
  go_enter Trym.func21, Trym.ntmps21
  go_wp2
  go_quiet (fail)
  go_wp2
  go_ret2
  exact ⟨rfl, _, rfl⟩
theorem pair_any (w : World) (fb g n c i : Nat) (x y : ByteArray) (h1 : w.cell? ⟨fb, 1, none⟩ = some (.slice (some ⟨g, 0, none⟩) n c)) (hi : i < n)
    (hx : w.cell? ⟨g, i * 2, none⟩ = some (.string x)) (hy : w.cell? ⟨g, i * 2 + 1, none⟩ = some (.string y)) :
    Calls Trym.prog 22 #[.pointer (some ⟨fb, 0, none⟩), .int .i64 i] w fun e w' => e = .returned (.tuple #[.string x, .string y]) ∧ ∃ k, w' = w.drewN k := by
  have i0 : (0 : Int) ≤ (i : Int) := by omega
  have i1 : (i : Int) < (n : Int) := by omega
  go_enter Trym.func22, Trym.ntmps22
  go_wp2
  go_quiet (fail)
  go_wp2
  go_ret2
  exact ⟨rfl, _, rfl⟩
theorem place_any (w : World) (fb mb n : Nat) (a r : ByteArray) (kl : Lit) (D : DataW Unit) (h1 : w.cell? ⟨fb, 0, none⟩ = some (.map (some mb))) (hown : w.ownsMap Trym.prog 50 (plainElem Trym.prog 3) mb n D) 
    (hkey : keyOf Trym.prog 50 (.agg #[.string a, .string r]) = some kl) :
    Calls Trym.prog 23 #[.pointer (some ⟨fb, 0, none⟩), .string a, .string r] w fun e w' => ∃ c, e = .returned (.tuple #[.int .i64 c, .bool (Maps.has D kl)]) ∧ D.atKey kl (.lit (.int .i64 0)) = .lit (.int .i64 c) ∧ w' = w := by
  go_enter Trym.func23, Trym.ntmps23
  go_wp2_with (first
    | (at_lookup; refine wpList_lookup_own_ok_int _ rfl _ _ 43 rfl 50 3 .i64 law50 Trym.underlying43 Trym.underlying3 (zero3 _) mb n D rfl hown _ _ rfl hkey ?_; intro c hat hwc)
    | go_in)
  go_ret2
  exact ⟨c, rfl, hat, rfl⟩
end Go.Proofs.Qxb6603438aMods
