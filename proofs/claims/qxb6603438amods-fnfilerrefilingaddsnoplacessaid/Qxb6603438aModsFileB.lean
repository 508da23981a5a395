import Derived.Test.Qxb6603438aModsFileA
import Derived.Deep.RegionLaw
namespace Go.Proofs.Qxb6603438aMods
open Go.RowKit Go.Maps
set_option linter.unusedSimpArgs false
set_option linter.unusedVariables false
attribute [local go_sem ↓] Go.wp_at_zero Go.wp_at_succ

set_option maxHeartbeats 400000 in
theorem file_new (w : World) (fb mb n : Nat) (a r : ByteArray) (kl : Lit) (D : DataW Unit) (x : Int) (pv ev : Value) (xs ys : List Value) (j k : Nat)
    (hb : w.heap[fb]? = some (.cells #[.map (some mb), pv, ev] 47 (0, 0)))
    (hown : w.ownsMap Trym.prog 50 (plainElem Trym.prog 3) mb n D) (hn : n ≤ 100000)
    (hkey : keyOf Trym.prog 50 (.agg #[.string a, .string r]) = some kl) (hhas : Maps.has D kl = false) 
    (hrowp : w.ownsRow 0 50 2 pv j ys) (hj : j + 1 ≤ 100000)
    (hrow : w.ownsRow 0 52 2 ev k xs) (hk : k + 1 ≤ 100000) :
    Calls Trym.prog 26 #[.pointer (some ⟨fb, 0, none⟩), .agg #[.string a, .string r], .int .i64 x] w fun e w' => e = .returned (.tuple #[]) ∧
      ∃ g cap g' cap', w'.heap[fb]? = some (.cells #[.map (some mb), .slice (some ⟨g, 0, none⟩) (j + 1) cap, .slice (some ⟨g', 0, none⟩) (k + 1) cap'] 47 (0, 0)) ∧ w'.ownsRow 0 50 2 (.slice (some ⟨g, 0, none⟩) (j + 1) cap) (j + 1) (ys ++ [.string a, .string r]) ∧
        w'.ownsRow 0 52 2 (.slice (some ⟨g', 0, none⟩) (k + 1) cap') (k + 1) (xs ++ [.int .i64 j, .int .i64 x]) ∧ w'.ownsMap Trym.prog 50 (plainElem Trym.prog 3) mb (n + 1) (D.put kl (.lit (.int .i64 j))) ∧
        (pv.ownBlock = some g ∨ w.heap.size ≤ g) ∧ (ev.ownBlock = some g' ∨ w.heap.size ≤ g') ∧ Turns (fun b => b = fb ∨ b = mb ∨ pv.ownBlock = some b ∨ ev.ownBlock = some b) w w' := by
  obtain ⟨i0, hi, hz0, hz1, hz2⟩ := info_parts info52
  obtain ⟨i1, hi1, hy0, hy1, hy2⟩ := info_parts info50
  have h0 : w.cell? ⟨fb, 0, none⟩ = some (.map (some mb)) := by rw [cell_at hb]; rfl
  have hlt : fb < w.heap.size := block_lt hb
  have hrun := look_runs (hown.alloc (.cells #[.string a, .string r] 50)) hkey (c0 := 0) (Maps.atKey_of_not_has hhas _)
  rw [hhas] at hrun
  obtain ⟨pa, pc, hpv⟩ := row_form hrowp
  have h1 : w.cell? ⟨fb, 1, none⟩ = some (.slice pa j pc) := by rw [cell_at hb, hpv]; rfl
  have h2 : w.cell? ⟨fb, 2, none⟩ = some ev := by rw [cell_at hb]; rfl
  have HPV : Hid (pv = .slice pa j pc) := hpv
  clear hpv
  have hnilm := fun w => run_eql_map_nil (P := Trym.prog) w 43 50 3 (some mb) Trym.underlying43
  go_enter Trym.func26, Trym.ntmps26
  go_wp2
  go_quiet (fail)
  go_wp2_with fail
  obtain ⟨w2, hrun2, hown2, hturn2⟩ := (ownsMap_drewN (hown.alloc (.cells #[.string a, .string r] 50)) (nq + 1)).update law50 Trym.underlying43 (by unfold maxLen; omega) hkey (plainElem_int (H := Unit) Trym.underlying3 (a := (j : Int)) (WalkArith.wf_i64 (by omega)))
  go_region
  clear hrun2
  have hmb := hown.lt
  have hfm : some fb ≠ some mb := fun e => by obtain ⟨es, cl, hc⟩ := map_block hown; cases e; rw [hb] at hc; cases hc
  have hb2 : w2.heap[fb]? = some (.cells #[.map (some mb), pv, ev] 47 (0, 0)) := by
    rw [hturn2.block fb (by rw [heap_drewN]; simp; omega) hfm, heap_drewN, Below.heap_alloc _ _ _ hlt]; exact hb
  have hbx : w2.heap[w.heap.size]? = some (.cells #[.string a, .string r] 50) := by
    rw [hturn2.block w.heap.size (by rw [heap_drewN]; simp) (by simp; omega), heap_drewN]; exact alloc_at rfl _
  have g1 : w2.cell? ⟨fb, 1, none⟩ = some (.slice pa j pc) := by rw [cell_at hb2, HPV.out]; rfl
  have g2 : w2.cell? ⟨w.heap.size, 0, none⟩ = some (.string a) := by rw [cell_at hbx]; rfl
  have g3 : w2.cell? ⟨w.heap.size, 1, none⟩ = some (.string r) := by rw [cell_at hbx]; rfl
  have f1 : w2.frozen? ⟨fb, 1, none⟩ = false := frozen_at hb2
  go_wp2_with fail
  have hrowp2 : w2.ownsRow 0 50 2 (.slice pa j pc) j ys := by
    have h3 := (ownsRow_drewN (hrowp.alloc (.cells #[.string a, .string r] 50)) (nq + 1)).kept hturn2 (.inr (row_ne_map hrowp hown))
    rw [HPV.out] at h3; exact h3
  have hne1 : some fb ≠ (Value.slice pa j pc).ownBlock := (row_ne_cells hrowp2 hb2 (by decide)).symm
  have hne2 : some w.heap.size ≠ (Value.slice pa j pc).ownBlock := by rw [← HPV.out]; exact (row_lt hrowp (Nat.le_refl _)).symm
  have hfa : (w2.alloc (.cells #[.string a, .string r] 50)).frozen? ⟨fb, 1, none⟩ = false := frozen_at ((Below.heap_alloc _ _ _ (block_lt hb2)).trans hb2)
  have hca : (w2.alloc (.cells #[.string a, .string r] 50)).cell? ⟨fb, 1, none⟩ = some (.slice pa j pc) := (cell_at ((Below.heap_alloc _ _ _ (block_lt hb2)).trans hb2)).trans (by rw [HPV.out]; rfl)
  have hl2 : w.heap.size < w2.heap.size := block_lt hbx
  go_region_law ((refine step_append_lies _ (by rfl) _ _ 44 (by rfl) 0 50 i1 (.agg #[.string ⟨#[]⟩, .string ⟨#[]⟩]) 2 32 Trym.underlying44 hi1 hy0 hy1 hy2 (by rfl) (by omega) (.slice pa j pc) j ys (by rfl) ?hown ⟨w2.heap.size, 0, none⟩ 1 1 [.string a, .string r] (by rfl) (by rfl) ?hnews ?h1 (by omega) (by unfold maxLen; omega) (by omega) (by omega) (w2.heap.size + 1) ?hs ?_; (case hown => exact World.ownsRow.alloc hrowp2 _); (case hnews => exact World.news_of_block (alloc_at (by rfl) _)); (case h1 => intro u hu; simp at hu; rcases hu with rfl | rfl <;> rfl); (case hs => simp); intro g cap w3 hown3 hgrow hat3 hlt3; have q1 : w3.cell? ⟨fb, 1, none⟩ = some (.slice pa j pc) := (by rw [hgrow.cell_far _ (by simp; omega) hne1]; go_keep); have q2 : w3.frozen? ⟨fb, 1, none⟩ = false := (by rw [hgrow.frozen_far _ (by simp; omega) hne1]; go_keep)))
  all_goals
    have hsz2 := hturn2.size
    simp [heap_drewN] at hsz2
    have hrow2 : w2.ownsRow 0 52 2 ev k xs := (ownsRow_drewN (hrow.alloc (.cells #[.string a, .string r] 50)) (nq + 1)).kept hturn2 (.inr (row_ne_map hrow hown))
    have hb3 : w3.heap[fb]? = some (.cells #[.map (some mb), pv, ev] 47 (0, 0)) := (hgrow.block fb (by simp; omega) hne1).trans ((Below.heap_alloc _ _ _ (by omega)).trans hb2)
    have hne3 : ev.ownBlock ≠ (Value.slice pa j pc).ownBlock ∨ ev.ownBlock = none := by
      rcases he : ev.ownBlock with _ | g0
      · exact .inr rfl
      · obtain ⟨cur, hc⟩ := row_block hrow2 he
        exact .inl (row_ne_cells hrowp2 hc (by decide)).symm
    have hrow3 : w3.ownsRow 0 52 2 ev k xs := (hrow2.alloc (.cells #[.string a, .string r] 50)).kept (w := (w2.alloc (.cells #[.string a, .string r] 50)).drew) hgrow hne3.symm
    have hm3 : w3.ownsMap Trym.prog 50 (plainElem Trym.prog 3) mb (n + 1) (D.put kl (.lit (.int .i64 j))) := (hown2.alloc (.cells #[.string a, .string r] 50)).kept (w := (w2.alloc (.cells #[.string a, .string r] 50)).drew) hgrow (row_ne_map hrowp2 hown2).symm
    have hT3 : Turns (fun b => b = fb ∨ b = mb ∨ pv.ownBlock = some b ∨ ev.ownBlock = some b) w w3 :=
      ((((((Turns.refl _ w).alloc (.cells #[.string a, .string r] 50)).drewN (nq + 1)).grown hturn2 (fun k hk => by cases hk; exact .inl (.inr (.inl rfl)))).alloc (.cells #[.string a, .string r] 50)).drew).grown hgrow (fun k hk => .inl (.inr (.inr (.inl (by rw [HPV.out]; exact hk)))))
    have hgf : g ≠ fb := by
      rcases hat3 with h | h
      · exact fun e => hne1 (by rw [h, e])
      · omega
    have hgp : pv.ownBlock = some g ∨ w.heap.size ≤ g := by
      rw [HPV.out]; exact or_right' hat3 (by omega)
    have hsz3 : w.heap.size ≤ w3.heap.size := hT3.size
    have hrowe4 : (w3.setCell ⟨fb, 1, none⟩ (.slice (some ⟨g, 0, none⟩) (j + 1) cap)).ownsRow 0 52 2 ev k xs := row_setCell hrow3 _ _ (row_ne_cells hrow3 hb3 (by decide))
    have hrowp4 : (w3.setCell ⟨fb, 1, none⟩ (.slice (some ⟨g, 0, none⟩) (j + 1) cap)).ownsRow 0 50 2 (.slice (some ⟨g, 0, none⟩) (j + 1) cap) (j + 1) (ys ++ [.string a, .string r]) := row_setCell hown3 _ _ (by simpa [Value.ownBlock] using hgf)
    have hm4 : (w3.setCell ⟨fb, 1, none⟩ (.slice (some ⟨g, 0, none⟩) (j + 1) cap)).ownsMap Trym.prog 50 (plainElem Trym.prog 3) mb (n + 1) (D.put kl (.lit (.int .i64 j))) := hm3.setCell (fun e => hfm (by rw [e])) _
    have hb4 := heap_setCell_at (o := 1) hb3 (.slice (some ⟨g, 0, none⟩) (j + 1) cap)
    have hT4 := hT3.setCell ⟨fb, 1, none⟩ (.slice (some ⟨g, 0, none⟩) (j + 1) cap) (.inl (.inl rfl))
    generalize w3.setCell ⟨fb, 1, none⟩ (.slice (some ⟨g, 0, none⟩) (j + 1) cap) = w4 at *
    clear hrun hb2 hbx g1 g2 g3 f1 hfa hca q1 q2 hgrow hown3 hm3 hrow3 hrow2 hrowp2 hT3 hb3
    have j2 : w4.cell? ⟨fb, 2, none⟩ = some ev := cell_at hb4
    have hl4 : fb < w4.heap.size := block_lt hb4
    have hne4 : some fb ≠ ev.ownBlock := (row_ne_cells hrowe4 hb4 (by decide)).symm
    have HB4 : Hid (w4.heap[fb]? = some (.cells #[.map (some mb), .slice (some ⟨g, 0, none⟩) (j + 1) cap, ev] 47 (0, 0))) := hb4
    clear hb4
    go_wp2_with (at_builtin; go_must (refine wpList_append_lies _ rfl _ _ 45 (by rfl) 0 52 i0 (.agg #[.int .i64 0, .int .i64 0]) 2 16 Trym.underlying45 hi hz0 hz1 hz2 (by rfl) (by omega) ev k xs (by rfl) ?hown ⟨w4.heap.size,0,none⟩ 1 1 [.int .i64 j, .int .i64 x] (by rfl) (by rfl) ?hnews ?h1 (by omega) (by unfold maxLen; omega) (by omega) (by omega) (w4.heap.size+1) ?hs ?_; (case hown => exact hrowe4.alloc _); (case hnews => exact World.news_of_block (alloc_at rfl _)); (case h1 => intro u hu; simp at hu; rcases hu with rfl | rfl <;> rfl); (case hs => simp); intro g' cap' w5 hown5 hgrow5 hat5 hlt5; have hb5 : Hid (w5.heap[fb]? = some (.cells #[.map (some mb), .slice (some ⟨g, 0, none⟩) (j + 1) cap, ev] 47 (0, 0))) := (hgrow5.block fb (by simp; omega) hne4).trans ((Below.heap_alloc _ _ _ (block_lt HB4.out)).trans HB4.out); have q1 : w5.cell? ⟨fb, 2, none⟩ = some ev := cell_at hb5.out; have q2 : w5.frozen? ⟨fb, 2, none⟩ = false := frozen_at hb5.out))
    go_end0
    have hg5 : g' ≠ fb := by
      rcases hat5 with h | h
      · exact fun e => hne4 (by rw [h, e])
      · omega
    have hne6 : (Value.slice (some ⟨g, 0, none⟩) (j + 1) cap).ownBlock ≠ ev.ownBlock := fun e => by
      obtain ⟨cur, hc⟩ := row_block hrowp4 rfl
      exact row_ne_cells hrowe4 hc (by decide) (by rw [← e]; rfl)
    refine ⟨rfl, g, cap, g', cap', by rw [heap_setCell_at hb5.out]; rfl, ?_, ?_, ?_, hgp, ?_, ?_⟩
    · exact row_setCell ((hrowp4.alloc _).kept hgrow5 (.inr hne6)) _ _ (by simpa [Value.ownBlock] using hgf)
    · exact row_setCell hown5 _ _ (by simpa [Value.ownBlock] using hg5)
    · exact ((hm4.alloc _).kept hgrow5 (row_ne_map hrowe4 hm4).symm).setCell (fun e => hfm (by rw [e])) _
    · exact or_right' hat5 (fun h => by have := hT4.size; omega)
    · exact ((hT4.alloc _).grown hgrow5 (fun k hk => .inl (.inr (.inr (.inr hk))))).setCell _ _ (.inl (.inl rfl))
end Go.Proofs.Qxb6603438aMods
