/-
  THE ORDER OF USE: what the cache holds behind the placements pd.
-/
import Derived.Test.Qxb6603910aModsPlace
namespace Go.Proofs.Qxb6603910aMods
open Go.RowKit Go.Maps
set_option linter.unusedSimpArgs false
set_option linter.unusedVariables false

theorem res_inj {C i i' : Nat} (h1 : i ≤ i') (h2 : i' < i + C) (h : i % C = i' % C) : i = i' := by
  have hd : (i' - i) % C = 0 := Nat.sub_mod_eq_zero_of_mod_eq h.symm
  have : i' - i < C := by omega
  rw [Nat.mod_eq_of_lt this] at hd
  omega
theorem res_ne {C i i' : Nat} (h1 : i < i' + C) (h2 : i' < i + C) (h : i ≠ i') : i % C ≠ i' % C := by
  intro e
  rcases Nat.le_total i i' with h3 | h3
  · exact h (res_inj h3 h2 e)
  · exact h (res_inj h3 h1 e.symm).symm
theorem live_pos {C j q : Nat} (hC : 1 ≤ C) (hq : q < min j C) : ∃ i, j - min j C ≤ i ∧ i < j ∧ i % C = q := by
  by_cases hj : j ≤ C
  · exact ⟨q, by omega, by omega, Nat.mod_eq_of_lt (by omega)⟩
  · have hr := Nat.mod_lt (j - 1 - q) (show 0 < C by omega)
    have hdm := Nat.div_add_mod (j - 1 - q) C
    refine ⟨j - 1 - (j - 1 - q) % C, by omega, by omega, ?_⟩
    have e : j - 1 - (j - 1 - q) % C = q + C * ((j - 1 - q) / C) := by omega
    rw [e, Nat.add_mul_mod_self_left]
    exact Nat.mod_eq_of_lt (by omega)

/-- How many are kept. -/
def keepN (C : Nat) (pd : List Int) : Nat := min pd.length C
def nwOf (C : Nat) (pd : List Int) (i : Nat) : Int := if i + 1 < pd.length then (((i + 1) % C : Nat) : Int) else -1
def odOf (C : Nat) (pd : List Int) (i : Nat) : Int := if pd.length - keepN C pd < i then (((i - 1) % C : Nat) : Int) else -1

/-- WHAT THE CACHE HOLDS behind the placements pd. -/
structure Inv (seed : Int) (N C : Nat) (c0 : Bool) (s : CS) (pd : List Int) : Prop where
  plen : s.pl.length = C
  ilen : s.ix.length = N
  tab : TOk N (keepN C pd) (s.hm seed) s.ix
  taken : s.taken = (keepN C pd : Nat)
  newest : s.newest = if pd.length = 0 then -1 else (((pd.length - 1) % C : Nat) : Int)
  oldest : s.oldest = if pd.length = 0 then -1 else (((pd.length - keepN C pd) % C : Nat) : Int)
  ev : s.ev = (pd.length - C : Nat)
  comp : s.comp = (c0 && decide (pd.length ≤ C))
  places : ∀ i, pd.length - keepN C pd ≤ i → i < pd.length → s.pl[i % C]? = some (pd.getD i 0, nwOf C pd i, odOf C pd i, 0)
  dist : ∀ i i', pd.length - keepN C pd ≤ i → i < pd.length → pd.length - keepN C pd ≤ i' → i' < pd.length → pd.getD i 0 = pd.getD i' 0 → i = i'

theorem ws_of {s : CS} {q : Nat} {e : Pl} (h : s.pl[q]? = some e) : s.ws q = e.1 := by simp [CS.ws, List.getD, h]

section
variable {seed : Int} {N C : Nat} {c0 : Bool} {s : CS} {pd : List Int}
theorem Inv.ws_at (h : Inv seed N C c0 s pd) {i : Nat} (h1 : pd.length - keepN C pd ≤ i) (h2 : i < pd.length) : s.ws (i % C) = pd.getD i 0 := ws_of (h.places i h1 h2)
theorem Inv.live (h : Inv seed N C c0 s pd) (hC : 1 ≤ C) {q : Nat} (hq : q < keepN C pd) : ∃ i, pd.length - keepN C pd ≤ i ∧ i < pd.length ∧ i % C = q ∧ s.ws q = pd.getD i 0 := by
  obtain ⟨i, h1, h2, h3⟩ := live_pos hC hq
  exact ⟨i, h1, h2, h3, by rw [← h3]; exact h.ws_at h1 h2⟩
theorem Inv.apart (h : Inv seed N C c0 s pd) (hC : 1 ≤ C) {q q' : Nat} (hq : q < keepN C pd) (hq' : q' < keepN C pd) (e : s.ws q = s.ws q') : q = q' := by
  obtain ⟨i, a1, a2, a3, a4⟩ := h.live hC hq
  obtain ⟨i', b1, b2, b3, b4⟩ := h.live hC hq'
  have := h.dist i i' a1 a2 b1 b2 (by rw [← a4, ← b4]; exact e)
  rw [← a3, ← b3, this]
theorem Inv.ranged (h : Inv seed N C c0 s pd) (hC : C ≤ 65536) : Ranged s := by
  have ht := h.tab
  rw [← h.ilen] at ht
  exact ranged_of ht (by rw [h.plen]; exact Nat.min_le_right _ _) (by rw [h.plen]; exact hC)
theorem keepN_le (C : Nat) (pd : List Int) : keepN C pd ≤ C := Nat.min_le_right _ _
theorem keepN_snoc (C : Nat) (pd : List Int) (ws : Int) : keepN C (pd ++ [ws]) = min (pd.length + 1) C := by simp [keepN]

/-- Nobody of the kept is ws: what 'find' then says. -/
theorem Inv.none (h : Inv seed N C c0 s pd) (hC : 1 ≤ C) {ws : Int} (hn : ∀ i, pd.length - keepN C pd ≤ i → i < pd.length → pd.getD i 0 ≠ ws) : ∀ u, u < N → s.ix.getD u 0 = 0 ∨ ∃ q : Nat, s.ix.getD u 0 = (q : Int) + 1 ∧ s.ws q ≠ ws := by
  intro u hu
  rcases h.tab.vals u hu with e | ⟨q, e, hk⟩
  · exact .inl e
  · obtain ⟨i, a1, a2, _, a4⟩ := h.live hC hk
    exact .inr ⟨q, e, by rw [a4]; exact hn i a1 a2⟩
end

/-- THE STEP, plainly: a state that parts from a good one as a placement leaves it is good. -/
theorem inv_step {seed : Int} {N C : Nat} {c0 : Bool} {s s' : CS} {pd : List Int} {ws : Int} (h : Inv seed N C c0 s pd) (hC : 1 ≤ C)
    (hn : ∀ i, pd.length - keepN C pd ≤ i → i < pd.length → pd.getD i 0 ≠ ws)
    (plen : s'.pl.length = C) (ilen : s'.ix.length = N) (tab : TOk N (min (pd.length + 1) C) (s'.hm seed) s'.ix) (taken : s'.taken = (min (pd.length + 1) C : Nat)) (newest : s'.newest = ((pd.length % C : Nat) : Int))
    (oldest : s'.oldest = (((pd.length + 1 - min (pd.length + 1) C) % C : Nat) : Int)) (ev : s'.ev = (pd.length + 1 - C : Nat)) (comp : s'.comp = (c0 && decide (pd.length + 1 ≤ C)))
    (here : s'.pl[pd.length % C]? = some (ws, -1, if pd.length + 1 - min (pd.length + 1) C < pd.length then (((pd.length - 1) % C : Nat) : Int) else -1, 0))
    (there : ∀ i, pd.length + 1 - min (pd.length + 1) C ≤ i → i < pd.length → s'.pl[i % C]? = some (pd.getD i 0, (((i + 1) % C : Nat) : Int), if pd.length + 1 - min (pd.length + 1) C < i then (((i - 1) % C : Nat) : Int) else -1, 0)) :
    Inv seed N C c0 s' (pd ++ [ws]) := by
  have hk := keepN_snoc C pd ws
  have hl : (pd ++ [ws]).length = pd.length + 1 := by simp
  have hg : ∀ i, i < pd.length → (pd ++ [ws]).getD i 0 = pd.getD i 0 := fun i hi => by simp [List.getD, List.getElem?_append_left hi]
  have hg2 : (pd ++ [ws]).getD pd.length 0 = ws := by simp [List.getD]
  refine ⟨plen, ilen, by rw [hk]; exact tab, by rw [hk]; exact taken, ?_, ?_, by rw [hl]; exact ev, by rw [hl]; exact comp, ?_, ?_⟩
  · rw [hl, if_neg (by omega)]; simpa using newest
  · rw [hl, hk, if_neg (by omega)]; exact oldest
  · intro i h1 h2
    rw [hl, hk] at h1
    rw [hl] at h2
    by_cases e : i = pd.length
    · subst e
      rw [hg2, here]
      simp [nwOf, odOf, hk]
    · rw [hg i (by omega), there i h1 (by omega)]
      simp [nwOf, odOf, hk, hl]
      omega
  · intro i i' h1 h2 h3 h4 e
    rw [hl, hk] at h1 h3
    rw [hl] at h2 h4
    by_cases ei : i = pd.length
    · by_cases ei' : i' = pd.length
      · omega
      · subst ei
        rw [hg2, hg i' (by omega)] at e
        exact absurd e.symm (hn i' (by unfold keepN; omega) (by omega))
    · by_cases ei' : i' = pd.length
      · subst ei'
        rw [hg2, hg i (by omega)] at e
        exact absurd e (hn i (by unfold keepN; omega) (by omega))
      · rw [hg i (by omega), hg i' (by omega)] at e
        exact h.dist i i' (by unfold keepN; omega) (by omega) (by unfold keepN; omega) (by omega) e
end Go.Proofs.Qxb6603910aMods
