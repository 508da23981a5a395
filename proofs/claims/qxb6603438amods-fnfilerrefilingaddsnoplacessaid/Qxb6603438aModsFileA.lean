import Derived.Test.Qxb6603438aModsBase
namespace Go.Proofs.Qxb6603438aMods
open Go.RowKit Go.Maps
set_option linter.unusedSimpArgs false
set_option linter.unusedVariables false
attribute [local go_sem ↓] Go.wp_at_zero Go.wp_at_succ

/-- The look-up in the map, at every count of draws. -/
theorem look_runs {w : World} {mb n : Nat} {D : DataW Unit} {a r : ByteArray} {kl : Lit} (hown : w.ownsMap Trym.prog 50 (plainElem Trym.prog 3) mb n D) (hkey : keyOf Trym.prog 50 (.agg #[.string a, .string r]) = some kl) {c0 : Int} (hat : D.atKey kl (.lit (.int .i64 0)) = .lit (.int .i64 c0)) :
    ∀ nq, (Instr.lookup 43 (.map (some mb)) (.agg #[.string a, .string r]) true).run Trym.prog (w.drewN nq) = .ok (.tuple #[.int .i64 c0, .bool (Maps.has D kl)]) (w.drewN nq) := by
  intro nq
  obtain ⟨v, ps, hrun, hv⟩ := (ownsMap_drewN hown nq).look_ok law50 Trym.underlying43 (zero3 _) (plainElem_int Trym.underlying3 (by decide)) hkey
  obtain ⟨c, rfl, hc, hwc⟩ := plainElem_int_inv Trym.underlying3 hv
  simp only [Prod.mk.injEq] at hc
  rw [hat] at hc
  have : c0 = c := by simpa using hc.1
  subst this
  exact hrun

set_option maxHeartbeats 400000 in
theorem file_known (w : World) (fb mb n : Nat) (a r : ByteArray) (kl : Lit) (D : DataW Unit) (x : Int) (pv ev : Value) (xs : List Value) (k : Nat) (c0 : Int)
    (hb : w.heap[fb]? = some (.cells #[.map (some mb), pv, ev] 47 (0, 0)))
    (hown : w.ownsMap Trym.prog 50 (plainElem Trym.prog 3) mb n D) 
    (hkey : keyOf Trym.prog 50 (.agg #[.string a, .string r]) = some kl) (hhas : Maps.has D kl = true) (hat : D.atKey kl (.lit (.int .i64 0)) = .lit (.int .i64 c0))
    (hrow : w.ownsRow 0 52 2 ev k xs) (hk : k + 1 ≤ 100000) :
    Calls Trym.prog 26 #[.pointer (some ⟨fb, 0, none⟩), .agg #[.string a, .string r], .int .i64 x] w fun e w' => e = .returned (.tuple #[]) ∧
      ∃ g cap, w'.heap[fb]? = some (.cells #[.map (some mb), pv, .slice (some ⟨g, 0, none⟩) (k + 1) cap] 47 (0, 0)) ∧ w'.ownsRow 0 52 2 (.slice (some ⟨g, 0, none⟩) (k + 1) cap) (k + 1) (xs ++ [.int .i64 c0, .int .i64 x]) ∧
        (ev.ownBlock = some g ∨ w.heap.size ≤ g) ∧ g < w'.heap.size ∧ Turns (fun b => b = fb ∨ ev.ownBlock = some b) w w' := by
  obtain ⟨i0, hi, hz0, hz1, hz2⟩ := info_parts info52
  have h0 : w.cell? ⟨fb, 0, none⟩ = some (.map (some mb)) := by rw [cell_at hb]; rfl
  have h2 : w.cell? ⟨fb, 2, none⟩ = some ev := by rw [cell_at hb]; rfl
  have hlt : fb < w.heap.size := block_lt hb
  have hne : some fb ≠ ev.ownBlock := fun e => by obtain ⟨cur, hc⟩ := row_block hrow e.symm; rw [hb] at hc; cases hc
  have hrun := look_runs (hown.alloc (.cells #[.string a, .string r] 50)) hkey hat
  rw [hhas] at hrun
  go_enter Trym.func26, Trym.ntmps26
  go_wp2
  go_quiet (fail)
  have hB : Hid (((w.alloc (.cells #[.string a, .string r] 50)).drewN nq).alloc (.cells #[.int .i64 c0, .int .i64 x] 52) |>.heap[fb]? = some (.cells #[.map (some mb), pv, ev] 47 (0, 0))) := by
    unfold Hid; rw [Below.heap_alloc _ _ _ (by rw [heap_drewN]; simp; omega), heap_drewN, Below.heap_alloc _ _ _ hlt]; exact hb
  go_wp2_with (at_builtin; go_must (refine wpList_append_lies _ rfl _ _ 45 (by rfl) 0 52 i0 (.agg #[.int .i64 0, .int .i64 0]) 2 16 Trym.underlying45 hi hz0 hz1 hz2 (by rfl) (by omega) ev k xs (by rfl) ?hown ⟨w.heap.size+1,0,none⟩ 1 1 [.int .i64 c0, .int .i64 x] (by rfl) (by rfl) ?hnews ?h1 (by omega) (by unfold maxLen; omega) (by omega) (by omega) (w.heap.size+2) ?hs ?_; (case hown => exact (ownsRow_drewN (hrow.alloc _) nq).alloc _); (case hnews => exact World.news_of_block (alloc_at (by simp [heap_drewN]) _)); (case h1 => intro u hu; simp at hu; rcases hu with rfl | rfl <;> rfl); (case hs => simp [heap_drewN]); intro g cap w1 hown1 hgrow1 hat1 hlt1; have hb1 : Hid (w1.heap[fb]? = some (.cells #[.map (some mb), pv, ev] 47 (0, 0))) := (hgrow1.block fb (by simp [heap_drewN]; omega) hne).trans hB.out; have q1 : w1.cell? ⟨fb, 2, none⟩ = some ev := cell_at hb1.out; have q2 : w1.frozen? ⟨fb, 2, none⟩ = false := frozen_at hb1.out))
  go_end0
  have hgf : g ≠ fb := by
    rcases hat1 with h | h
    · exact fun e => hne (by rw [h, e])
    · omega
  refine ⟨rfl, g, cap, by rw [heap_setCell_at hb1.out]; rfl, row_setCell hown1 _ _ (by simpa [Value.ownBlock] using hgf), or_right' hat1 (by omega), by rw [size_setCell]; exact hlt1, ?_⟩
  exact (((((Turns.refl _ w).alloc _).drewN nq).alloc _).grown hgrow1 (fun k hk => .inl (.inr hk))).setCell _ _ (.inl (.inl rfl))
end Go.Proofs.Qxb6603438aMods
