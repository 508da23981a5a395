/-
  THE PLAIN LAW: distinct pairs in order of first filing.
-/
import Derived.Test.Qxb6603438aModsCopy
namespace Go.Proofs.Qxb6603438aMods
set_option linter.unusedSimpArgs false
set_option linter.unusedVariables false

/-- The distinct ones of a list, in order of first place. -/
def dist (l : List Pr) : List Pr := l.foldl addP []
theorem dist_snoc (l : List Pr) (p : Pr) : dist (l ++ [p]) = addP (dist l) p := by simp [dist]
theorem mem_addP (ps : List Pr) (p x : Pr) : x ∈ addP ps p ↔ x ∈ ps ∨ x = p := by
  unfold addP; split
  · constructor
    · exact .inl
    · rintro (h | rfl) <;> assumption
  · simp
theorem prefix_addP (ps : List Pr) (p : Pr) : ps <+: addP ps p := by
  unfold addP; split
  · exact List.prefix_refl _
  · exact List.prefix_append _ _
theorem mem_fold (x : Pr) : ∀ (l : List Pr) (ps : List Pr), x ∈ l.foldl addP ps ↔ x ∈ ps ∨ x ∈ l
  | [], ps => by simp
  | p :: l, ps => by rw [List.foldl_cons, mem_fold x l, mem_addP]; simp [or_assoc]
theorem mem_dist (x : Pr) (l : List Pr) : x ∈ dist l ↔ x ∈ l := by simp [dist, mem_fold]
theorem prefix_fold : ∀ (l : List Pr) (ps : List Pr), ps <+: l.foldl addP ps
  | [], ps => List.prefix_refl _
  | p :: l, ps => (prefix_addP ps p).trans (prefix_fold l _)
theorem dist_append (l m : List Pr) : dist l <+: dist (l ++ m) := by
  unfold dist; rw [List.foldl_append]; exact prefix_fold m _
theorem dist_take {qs : List Pr} {i j : Nat} (h : i ≤ j) : dist (qs.take i) <+: dist (qs.take j) := by
  obtain ⟨d, rfl⟩ := Nat.le.dest h
  rw [List.take_add]; exact dist_append _ _
theorem length_addP (ps : List Pr) (p : Pr) : (addP ps p).length ≤ ps.length + 1 := by unfold addP; split <;> simp
theorem dist_le : ∀ (k : Nat) (qs : List Pr), (dist (qs.take k)).length ≤ k := by
  intro k qs
  induction k with
  | zero => simp [dist]
  | succ k ih =>
    by_cases h : k < qs.length
    · rw [List.take_succ_eq_append_getElem h, dist_snoc]
      exact Nat.le_trans (length_addP _ _) (by omega)
    · rw [List.take_of_length_le (by omega)]
      rw [List.take_of_length_le (by omega)] at ih
      omega
theorem dist_step {qs : List Pr} {k : Nat} (h : k < qs.length) : dist (qs.take (k + 1)) = addP (dist (qs.take k)) qs[k] := by
  rw [List.take_succ_eq_append_getElem h, dist_snoc]
/-- At a first filing the list grows. -/
theorem dist_new {qs : List Pr} {k : Nat} (h : k < qs.length) (hn : qs[k] ∉ qs.take k) : dist (qs.take (k + 1)) = dist (qs.take k) ++ [qs[k]] := by
  rw [dist_step h, addP, if_neg (by rw [mem_dist]; exact hn)]
theorem dist_old {qs : List Pr} {k : Nat} (h : k < qs.length) (hn : qs[k] ∈ qs.take k) : dist (qs.take (k + 1)) = dist (qs.take k) := by
  rw [dist_step h, addP, if_pos (by rw [mem_dist]; exact hn)]
/-- The place of a pair, asked for at whatever time from its first filing on. -/
theorem place_of_first {qs : List Pr} {f j : Nat} (hf : f < qs.length) (hn : qs[f] ∉ qs.take f) (hj : f ≤ j) : (dist (qs.take j)).idxOf qs[f] = (dist (qs.take f)).length := by
  rcases Nat.eq_or_lt_of_le hj with rfl | hlt
  · exact List.idxOf_eq_length (by rw [mem_dist]; exact hn)
  · obtain ⟨t, ht⟩ := dist_take (qs := qs) (i := f + 1) (j := j) hlt
    rw [← ht, dist_new hf hn, List.append_assoc, List.idxOf_append, if_neg (by rw [mem_dist]; exact hn)]
    simp
theorem pair_of_first {qs : List Pr} {f j : Nat} (hf : f < qs.length) (hn : qs[f] ∉ qs.take f) (hj : f < j) : (dist (qs.take j))[(dist (qs.take f)).length]? = some qs[f] := by
  obtain ⟨t, ht⟩ := dist_take (qs := qs) (i := f + 1) (j := j) hj
  rw [← ht, dist_new hf hn, List.append_assoc, List.getElem?_append_right (Nat.le_refl _)]
  simp
/-- The first filing of the pair that was filed at i. -/
theorem first_spec {qs : List Pr} {i k : Nat} (hi : i < qs.length) (hk : k ≤ i) (hb : ∀ j, j < k → qs[j]? ≠ some qs[i]) (he : k = i ∨ qs[k]? = some qs[i]) : qs[k]? = some qs[i] ∧ qs[i] ∉ qs.take k := by
  refine ⟨?_, ?_⟩
  · rcases he with rfl | he
    · exact List.getElem?_eq_getElem hi
    · exact he
  · intro hm
    obtain ⟨j, hj, e⟩ := List.mem_iff_getElem.1 hm
    have hj' : j < k := by simp at hj; omega
    rw [List.getElem_take] at e
    exact hb j hj' (by rw [List.getElem?_eq_getElem (by omega), e])
end Go.Proofs.Qxb6603438aMods
