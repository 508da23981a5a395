/-
  'ZZModeACLLen', 'ZZModeACLEntry'; the first law's walk.
-/
import Derived.Test.Qxb6604516aModsAcl
namespace Go.Proofs.Qxb6604516aMods
open Go.RowKit Go.Maps
set_option linter.unusedSimpArgs false
set_option linter.unusedVariables false
attribute [local go_sem ↓] Go.wp_at_zero Go.wp_at_succ

theorem Acl.len {B mb u g o : Nat} {w : World} (h : Acl B mb u g o w) : (Builtin.len_ #[38] 3 #[.map (some mb)]).run Trym.prog w = .ok (.int .i64 3) w := by
  obtain ⟨_, D, n, k1, k4, k32, hm, t, _, _, _⟩ := h
  have := hm.len Trym.underlying38 3
  rw [t.size] at this
  exact this
theorem look_any {w : World} {mb n : Nat} {D : DataW Unit} {t : Int} {k : Lit} {v : Nat} (hm : w.ownsMap Trym.prog 41 (plainElem Trym.prog 24) mb n D) (hk : keyOf Trym.prog 41 (key t) = some k) (hh : Maps.has D k = true) (ha : D.atKey k (.lit (.int .u16 0)) = .lit (.int .u16 v)) :
    (Instr.lookup 38 (.map (some mb)) (.agg #[.int .u16 t, .int .u32 4294967295]) true).run Trym.prog w = .ok (.tuple #[.int .u16 v, .bool true]) w := by
  obtain ⟨x, ps, hrun, hv⟩ := hm.look_ok law41 Trym.underlying38 (zero24 _) (plainElem_int Trym.underlying24 (by decide)) hk
  obtain ⟨c, rfl, hc, hwc⟩ := plainElem_int_inv Trym.underlying24 hv
  simp only [Prod.mk.injEq] at hc
  rw [ha] at hc
  have e : (v : Int) = c := by simpa using hc.1
  subst e
  rw [hh] at hrun
  exact hrun
/-- What an entry is. -/
def Ent (m : Nat) (t : Int) (v : Nat) : Prop := (t = 1 ∧ v = m / 64 % 8) ∨ (t = 4 ∧ v = m / 8 % 8) ∨ (t = 32 ∧ v = m % 8)
theorem Acl.look {B mb m : Nat} {w : World} (h : Acl B mb (m / 64 % 8) (m / 8 % 8) (m % 8) w) {t : Int} {v : Nat} (ht : Ent m t v) : (Instr.lookup 38 (.map (some mb)) (.agg #[.int .u16 t, .int .u32 4294967295]) true).run Trym.prog w = .ok (.tuple #[.int .u16 v, .bool true]) w := by
  obtain ⟨_, D, n, k1, k4, k32, hm, tr, hk1, hk4, hk32⟩ := h
  rcases ht with ⟨rfl, rfl⟩ | ⟨rfl, rfl⟩ | ⟨rfl, rfl⟩
  · exact look_any hm hk1 tr.h1 tr.a1
  · exact look_any hm hk4 tr.h4 tr.a4
  · exact look_any hm hk32 tr.h32 tr.a32

theorem len_any (w : World) (m : Nat) (hm : m < 4294967296) : Calls Trym.prog 6 #[.int .u32 m] w fun e w' => e = .returned (.int .i64 3) ∧ Below w.heap.size w w' := by
  go_enter Trym.func6, Trym.ntmps6
  go_wp2_with fail
  refine (acl_any w m hm).mono ?_
  rintro e w' ⟨rfl, hA, hB⟩
  have hl := hA.len
  have HB : Hid (Below w.heap.size w w') := hB
  clear hA hB
  go_wp2_with fail
  go_ret
  exact ⟨rfl, HB.out⟩
theorem entry_any (w : World) (m : Nat) (hm : m < 4294967296) (t : Int) (v : Nat) (ht : Ent m t v) : Calls Trym.prog 7 #[.int .u32 m, .int .u16 t, .int .u32 4294967295] w fun e w' => e = .returned (.tuple #[.int .u16 v, .bool true]) ∧ Below w.heap.size w w' := by
  have HT : Hid (Ent m t v) := ht
  clear ht
  go_enter Trym.func7, Trym.ntmps7
  go_wp2_with fail
  refine (acl_any w m hm).mono ?_
  rintro e w' ⟨rfl, hA, hB⟩
  have hl := hA.look HT.out
  have HB : Hid (Below w.heap.size w w') := hB
  clear hA hB
  go_wp2_with fail
  go_ret2
  exact ⟨rfl, HB.out⟩

theorem main3 (w : World) (m : Nat) (hm : m < 4294967296) : Calls Trym.prog 3 #[.int .u32 m] w fun e w' => e = .returned (.bool true) ∧ Below w.heap.size w w' := by
  have e1 : Ent m 1 (m / 64 % 8) := .inl ⟨rfl, rfl⟩
  have e4 : Ent m 4 (m / 8 % 8) := .inr (.inl ⟨rfl, rfl⟩)
  have e32 : Ent m 32 (m % 8) := .inr (.inr ⟨rfl, rfl⟩)
  have hu : m / 64 % 8 ≤ 7 := by omega
  have hg : m / 8 % 8 ≤ 7 := by omega
  have ho : m % 8 ≤ 7 := by omega
  have hs : (m : Int) % 512 = ((m / 64 % 8 : Nat) : Int) * 64 + ((m / 8 % 8 : Nat) : Int) * 8 + ((m % 8 : Nat) : Int) := by omega
  generalize m / 64 % 8 = u at *
  generalize m / 8 % 8 = g at *
  generalize m % 8 = o at *
  have H1 : Hid (Ent m 1 u) := e1
  have H4 : Hid (Ent m 4 g) := e4
  have H32 : Hid (Ent m 32 o) := e32
  clear e1 e4 e32
  go_enter Trym.func3, Trym.ntmps3
  go_wp2_with fail
  refine (len_any w m hm).mono ?_
  rintro e w1 ⟨rfl, hB1⟩
  have HB1 : Hid (Below w.heap.size w w1) := hB1
  clear hB1
  go_wp2_with fail
  refine (entry_any w1 m hm 1 u H1.out).mono ?_
  rintro e w2 ⟨rfl, hB2⟩
  have HB2 : Hid (Below w.heap.size w w2) := HB1.out.trans (hB2.mono HB1.out.size)
  clear hB2 HB1
  go_wp2_with fail
  refine (entry_any w2 m hm 4 g H4.out).mono ?_
  rintro e w3 ⟨rfl, hB3⟩
  have HB3 : Hid (Below w.heap.size w w3) := HB2.out.trans (hB3.mono HB2.out.size)
  clear hB3 HB2
  go_wp2_with fail
  refine (entry_any w3 m hm 32 o H32.out).mono ?_
  rintro e w4 ⟨rfl, hB4⟩
  have HB4 : Hid (Below w.heap.size w w4) := HB3.out.trans (hB4.mono HB3.out.size)
  clear hB4 HB3
  go_wp2_with fail
  go_ret
  refine ⟨?_, HB4.out⟩
  simp
end Go.Proofs.Qxb6604516aMods
