/-
  'modeACL', 'ZZModeACLLen', 'ZZModeACLEntry'.
-/
import Derived.Test.Qxb6604516aModsBase
import Derived.Test.Qxb6604516aModsBits
namespace Go.Proofs.Qxb6604516aMods
open Go.RowKit Go.Maps
set_option linter.unusedSimpArgs false
set_option linter.unusedVariables false
attribute [local go_sem ↓] Go.wp_at_zero Go.wp_at_succ

theorem some_of {α : Type} {x : Option α} (h : x.isSome = true) : ∃ k, x = some k := by
  cases x with
  | none => cases h
  | some k => exact ⟨k, rfl⟩
/-- One store into the map that the call makes. -/
theorem put_any {w0 w : World} {mb n : Nat} {D : DataW Unit} {t : Int} {k : Lit} {v : Nat} (hk : keyOf Trym.prog 41 (key t) = some k) (hv : v ≤ 7) (hm : w.ownsMap Trym.prog 41 (plainElem Trym.prog 24) mb n D) (hn : n < 100) (hb : Below w0.heap.size w0 w) (hmb : w0.heap.size ≤ mb) :
    ∃ w', (Instr.mapUpdate 38 (.map (some mb)) (.agg #[.int .u16 t, .int .u32 4294967295]) (.int .u16 (v : Nat))).run Trym.prog w = .ok () w' ∧ w'.ownsMap Trym.prog 41 (plainElem Trym.prog 24) mb (n + 1) (D.put k (.lit (.int .u16 (v : Nat)))) ∧ Below w0.heap.size w0 w' := by
  obtain ⟨w', r, m, g⟩ := hm.update law41 Trym.underlying38 (by unfold maxLen; omega) hk (plainElem_int (a := (v : Nat)) Trym.underlying24 (wf_u16 hv))
  exact ⟨w', r, m, hb.grown g hb.size (fun k hk => by cases hk; exact hmb)⟩

set_option maxHeartbeats 2000000 in
theorem acl_any (w : World) (m : Nat) (hm : m < 4294967296) :
    Calls Trym.prog 15 #[.int .u32 m] w fun e w' => e = .returned (.map (some w.heap.size)) ∧ Acl w.heap.size w.heap.size (m / 64 % 8) (m / 8 % 8) (m % 8) w' ∧ Below w.heap.size w w' := by
  have hmm := @run_makeMap Trym.prog
  obtain ⟨k1, hk1⟩ := some_of some1
  obtain ⟨k4, hk4⟩ := some_of some4
  obtain ⟨k32, hk32⟩ := some_of some32
  have n1 : k1 ≠ k4 := fun e => by
    have := law41.inj hk1 (e ▸ hk4)
    simp [key] at this
  have n2 : k1 ≠ k32 := fun e => by
    have := law41.inj hk1 (e ▸ hk32)
    simp [key] at this
  have n3 : k4 ≠ k32 := fun e => by
    have := law41.inj hk4 (e ▸ hk32)
    simp [key] at this
  have l1 := law41.key hk1
  have l4 := law41.key hk4
  have l32 := law41.key hk32
  have b1 : bits .and .u32 ((m : Int) / 64) 7 = ((m / 64 % 8 : Nat) : Int) := by
    rw [show (m : Int) / 64 = ((m / 64 : Nat) : Int) by omega]; exact u32_and7 _ (by omega)
  have b4 : bits .and .u32 ((m : Int) / 8) 7 = ((m / 8 % 8 : Nat) : Int) := by
    rw [show (m : Int) / 8 = ((m / 8 : Nat) : Int) by omega]; exact u32_and7 _ (by omega)
  have b32 : bits .and .u32 (m : Int) 7 = ((m % 8 : Nat) : Int) := u32_and7 _ hm
  have hu : m / 64 % 8 ≤ 7 := by omega
  have hg : m / 8 % 8 ≤ 7 := by omega
  have ho : m % 8 ≤ 7 := by omega
  generalize m / 64 % 8 = u at *
  generalize m / 8 % 8 = g at *
  generalize m % 8 = o at *
  have c1 := u16_wrap u (by omega)
  have c4 := u16_wrap g (by omega)
  have c32 := u16_wrap o (by omega)
  have m0 : ((w.alloc (.map #[] 0)).drew).ownsMap Trym.prog 41 (plainElem (H := Unit) Trym.prog 24) w.heap.size 0 (.map []) := World.ownsMap.drew (World.ownsMap_made w Trym.prog 41 _)
  have B0 : Below w.heap.size w (w.alloc (.map #[] 0)).drew := ((Below.refl _ w).alloc (Nat.le_refl _) _).drew
  obtain ⟨W_1, r_1, m_1, B_1⟩ := put_any hk1 hu m0 (by omega) B0 (Nat.le_refl _)
  obtain ⟨W_4, r_4, m_4, B_4⟩ := put_any hk4 hg m0 (by omega) B0 (Nat.le_refl _)
  obtain ⟨W_32, r_32, m_32, B_32⟩ := put_any hk32 ho m0 (by omega) B0 (Nat.le_refl _)
  obtain ⟨W_1_4, r_1_4, m_1_4, B_1_4⟩ := put_any hk4 hg m_1 (by omega) B_1 (Nat.le_refl _)
  obtain ⟨W_1_32, r_1_32, m_1_32, B_1_32⟩ := put_any hk32 ho m_1 (by omega) B_1 (Nat.le_refl _)
  obtain ⟨W_4_1, r_4_1, m_4_1, B_4_1⟩ := put_any hk1 hu m_4 (by omega) B_4 (Nat.le_refl _)
  obtain ⟨W_4_32, r_4_32, m_4_32, B_4_32⟩ := put_any hk32 ho m_4 (by omega) B_4 (Nat.le_refl _)
  obtain ⟨W_32_1, r_32_1, m_32_1, B_32_1⟩ := put_any hk1 hu m_32 (by omega) B_32 (Nat.le_refl _)
  obtain ⟨W_32_4, r_32_4, m_32_4, B_32_4⟩ := put_any hk4 hg m_32 (by omega) B_32 (Nat.le_refl _)
  obtain ⟨W_1_4_32, r_1_4_32, m_1_4_32, B_1_4_32⟩ := put_any hk32 ho m_1_4 (by omega) B_1_4 (Nat.le_refl _)
  obtain ⟨W_1_32_4, r_1_32_4, m_1_32_4, B_1_32_4⟩ := put_any hk4 hg m_1_32 (by omega) B_1_32 (Nat.le_refl _)
  obtain ⟨W_4_1_32, r_4_1_32, m_4_1_32, B_4_1_32⟩ := put_any hk32 ho m_4_1 (by omega) B_4_1 (Nat.le_refl _)
  obtain ⟨W_4_32_1, r_4_32_1, m_4_32_1, B_4_32_1⟩ := put_any hk1 hu m_4_32 (by omega) B_4_32 (Nat.le_refl _)
  obtain ⟨W_32_1_4, r_32_1_4, m_32_1_4, B_32_1_4⟩ := put_any hk4 hg m_32_1 (by omega) B_32_1 (Nat.le_refl _)
  obtain ⟨W_32_4_1, r_32_4_1, m_32_4_1, B_32_4_1⟩ := put_any hk1 hu m_32_4 (by omega) B_32_4 (Nat.le_refl _)
  have F_1_4_32 : Hid (Acl w.heap.size w.heap.size u g o W_1_4_32 ∧ Below w.heap.size w W_1_4_32) := by
    have t := tri_of (u := u) (g := g) (o := o) l1 l4 l32 n1 n2 n3
    exact ⟨⟨Nat.le_refl _, _, _, k1, k4, k32, m_1_4_32, t, hk1, hk4, hk32⟩, B_1_4_32⟩
  have F_1_32_4 : Hid (Acl w.heap.size w.heap.size u g o W_1_32_4 ∧ Below w.heap.size w W_1_32_4) := by
    have t := tri_of (u := u) (g := o) (o := g) l1 l32 l4 n2 n1 n3.symm
    exact ⟨⟨Nat.le_refl _, _, _, k1, k4, k32, m_1_32_4, t.swap.turn, hk1, hk4, hk32⟩, B_1_32_4⟩
  have F_4_1_32 : Hid (Acl w.heap.size w.heap.size u g o W_4_1_32 ∧ Below w.heap.size w W_4_1_32) := by
    have t := tri_of (u := g) (g := u) (o := o) l4 l1 l32 n1.symm n3 n2
    exact ⟨⟨Nat.le_refl _, _, _, k1, k4, k32, m_4_1_32, t.swap, hk1, hk4, hk32⟩, B_4_1_32⟩
  have F_4_32_1 : Hid (Acl w.heap.size w.heap.size u g o W_4_32_1 ∧ Below w.heap.size w W_4_32_1) := by
    have t := tri_of (u := g) (g := o) (o := u) l4 l32 l1 n3 n1.symm n2.symm
    exact ⟨⟨Nat.le_refl _, _, _, k1, k4, k32, m_4_32_1, t.turn.turn, hk1, hk4, hk32⟩, B_4_32_1⟩
  have F_32_1_4 : Hid (Acl w.heap.size w.heap.size u g o W_32_1_4 ∧ Below w.heap.size w W_32_1_4) := by
    have t := tri_of (u := o) (g := u) (o := g) l32 l1 l4 n2.symm n3.symm n1
    exact ⟨⟨Nat.le_refl _, _, _, k1, k4, k32, m_32_1_4, t.turn, hk1, hk4, hk32⟩, B_32_1_4⟩
  have F_32_4_1 : Hid (Acl w.heap.size w.heap.size u g o W_32_4_1 ∧ Below w.heap.size w W_32_4_1) := by
    have t := tri_of (u := o) (g := g) (o := u) l32 l4 l1 n3.symm n2.symm n1.symm
    exact ⟨⟨Nat.le_refl _, _, _, k1, k4, k32, m_32_4_1, t.turn.swap, hk1, hk4, hk32⟩, B_32_4_1⟩
  clear hk1 hk4 hk32 n1 n2 n3 l1 l4 l32 m0 B0 m_1_4_32 m_1_32_4 m_4_1_32 m_4_32_1 m_32_1_4 m_32_4_1 m_1_4 m_1_32 m_4_1 m_4_32 m_32_1 m_32_4 m_1 m_4 m_32 B_1_4_32 B_1_32_4 B_4_1_32 B_4_32_1 B_32_1_4 B_32_4_1 B_1_4 B_1_32 B_4_1 B_4_32 B_32_1 B_32_4 B_1 B_4 B_32
  go_enter Trym.func15, Trym.ntmps15
  go_wp2
  go_region
  all_goals go_wp2
  all_goals go_ret
  all_goals first | exact ⟨rfl, F_1_4_32.out⟩ | exact ⟨rfl, F_1_32_4.out⟩ | exact ⟨rfl, F_4_1_32.out⟩ | exact ⟨rfl, F_4_32_1.out⟩ | exact ⟨rfl, F_32_1_4.out⟩ | exact ⟨rfl, F_32_4_1.out⟩
end Go.Proofs.Qxb6604516aMods
