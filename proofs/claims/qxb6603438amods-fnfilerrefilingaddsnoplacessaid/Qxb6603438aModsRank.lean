import Derived.Test.Qxb6603438aModsState
namespace Go.Proofs.Qxb6603438aMods
open Go.RowKit Go.Maps
set_option linter.unusedSimpArgs false
set_option linter.unusedVariables false

theorem info3 : (Trym.prog.info? 3).map (fun i => (i.zero, i.size, i.bytes)) = some (some (.int .i64 0), 1, 8) := by kernel_rfl
/-- The first filing of the pair that was filed at j. -/
def IsFirst (fs : List Fl) (j f : Nat) : Prop := f ≤ j ∧ ∃ (hj : j < fs.length), (fs.map prF)[f]? = some (prF fs[j]) ∧ prF fs[j] ∉ (fs.map prF).take f
theorem str_eq {a b : ByteArray} (h : (a.toList == b.toList) = true) : a = b := by
  rw [beq_iff_eq, ByteArray.toList_eq, ByteArray.toList_eq] at h
  exact WideShapes.bytes_inj h
theorem str_ne {a b : ByteArray} (h : (a.toList == b.toList) = false) : a ≠ b := by
  rintro rfl; simp at h

theorem isFirst_of {fs : List Fl} {i k : Nat} (hi : i < fs.length) (hk : k ≤ i) (hno : ∀ j, j < k → (fs.map prF)[j]? ≠ some (prF fs[i])) (he : k = i ∨ (fs.map prF)[k]? = some (prF fs[i])) : IsFirst fs i k := by
  have h1 : (fs.map prF)[i]'(by simpa using hi) = prF fs[i] := by simp
  obtain ⟨h2, h3⟩ := first_spec (qs := fs.map prF) (i := i) (k := k) (by simpa using hi) hk (by rw [h1]; exact hno) (by rw [h1]; exact he)
  rw [h1] at h2 h3
  exact ⟨hk, hi, h2, h3⟩
/-- How the count of distinct ones goes on. -/
theorem dist_at_first {fs : List Fl} {i : Nat} (h : IsFirst fs i i) : ((dist ((fs.map prF).take i)).length : Int) + 1 = (dist ((fs.map prF).take (i + 1))).length := by
  obtain ⟨_, hi, h2, h3⟩ := h
  have h1 : (fs.map prF)[i]'(by simpa using hi) = prF fs[i] := by simp
  rw [dist_new (qs := fs.map prF) (k := i) (by simpa using hi) (by rw [h1]; exact h3)]
  simp
theorem dist_at_later {fs : List Fl} {i k : Nat} (h : IsFirst fs i k) (hk : k < i) : ((dist ((fs.map prF).take i)).length : Int) = (dist ((fs.map prF).take (i + 1))).length := by
  obtain ⟨_, hi, h2, h3⟩ := h
  have h1 : (fs.map prF)[i]'(by simpa using hi) = prF fs[i] := by simp
  rw [dist_old (qs := fs.map prF) (k := i) (by simpa using hi) (by
    rw [h1]
    refine List.mem_iff_getElem?.2 ⟨k, ?_⟩
    rw [List.getElem?_take_of_lt hk]; exact h2)]
/-- The two rows 'first' and 'rank' behind k rounds. -/
def Row2 (fs : List Fl) (fB : Nat) (w4 wr : World) (k : Nat) : Prop := ∃ a1 a2 : Array Value,
  wr.heap[fB]? = some (.cells a1 3 (0, 0)) ∧ a1.size = fs.length ∧ (∀ j, j < k → ∃ f, a1[j]? = some (.int .i64 (f : Nat)) ∧ IsFirst fs j f) ∧
  wr.heap[fB + 1]? = some (.cells a2 3 (0, 0)) ∧ a2.size = fs.length ∧ (∀ j, j < k → a2[j]? = some (.int .i64 (dist ((fs.map prF).take j)).length)) ∧ Turns (fun x => x = fB ∨ x = fB + 1) w4 wr
theorem Row2.step {fs : List Fl} {fB : Nat} {w4 wr : World} {i k : Nat} (h : Row2 fs fB w4 wr i) (hi : i < fs.length) (hf : IsFirst fs i k) (d : Nat) :
    Row2 fs fB w4 (((wr.drewN d).setCell ⟨fB, i, none⟩ (.int .i64 k)).setCell ⟨fB + 1, i, none⟩ (.int .i64 (dist ((fs.map prF).take i)).length)) (i + 1) := by
  obtain ⟨a1, a2, h1, h2, h3, h4, h5, h6, h7⟩ := h
  have g1 : (wr.drewN d).heap[fB]? = some (.cells a1 3 (0, 0)) := by rw [heap_drewN]; exact h1
  have g2 : (wr.drewN d).heap[fB + 1]? = some (.cells a2 3 (0, 0)) := by rw [heap_drewN]; exact h4
  refine ⟨a1.setIfInBounds i (.int .i64 k), a2.setIfInBounds i (.int .i64 (dist ((fs.map prF).take i)).length), ?_, by simpa using h2, ?_, ?_, by simpa using h5, ?_, ?_⟩
  · refine Eq.trans (Below.heap_setCell _ _ _ _ ?_) (heap_setCell_at g1 _)
    show fB ≠ fB + 1; omega
  · intro j hj
    by_cases e : j = i
    · subst e
      exact ⟨k, by rw [Array.getElem?_setIfInBounds_self_of_lt (by omega)], hf⟩
    · obtain ⟨f, q1, q2⟩ := h3 j (by omega)
      exact ⟨f, by rw [Array.getElem?_setIfInBounds_ne (by omega)]; exact q1, q2⟩
  · refine heap_setCell_at ?_ _
    refine Eq.trans (Below.heap_setCell _ _ _ _ ?_) g2
    show fB + 1 ≠ fB; omega
  · intro j hj
    by_cases e : j = i
    · subst e
      rw [Array.getElem?_setIfInBounds_self_of_lt (by omega)]
    · rw [Array.getElem?_setIfInBounds_ne (by omega)]; exact h6 j (by omega)
  · exact ((h7.drewN d).setCell _ _ (.inl (.inl rfl))).setCell _ _ (.inl (.inr rfl))
theorem Row2.cells {fs : List Fl} {fB : Nat} {w4 wr : World} {k : Nat} (h : Row2 fs fB w4 wr k) {i : Nat} (hi : i < fs.length) :
    (∃ v, wr.cell? ⟨fB, i, none⟩ = some v) ∧ (∃ v, wr.cell? ⟨fB + 1, i, none⟩ = some v) ∧ wr.frozen? ⟨fB, i, none⟩ = false ∧ wr.frozen? ⟨fB + 1, i, none⟩ = false := by
  obtain ⟨a1, a2, h1, h2, h3, h4, h5, h6, h7⟩ := h
  refine ⟨⟨a1[i], ?_⟩, ⟨a2[i], ?_⟩, frozen_at h1, frozen_at h4⟩
  · rw [cell_at h1]; simp
  · rw [cell_at h4]; simp
theorem Row2.turns {fs : List Fl} {fB : Nat} {w4 wr : World} {k : Nat} (h : Row2 fs fB w4 wr k) : Turns (fun x => x = fB ∨ x = fB + 1) w4 wr := by
  obtain ⟨a1, a2, h1, h2, h3, h4, h5, h6, h7⟩ := h; exact h7
theorem Row2.first {fs : List Fl} {fB : Nat} {w4 wr : World} {k : Nat} (h : Row2 fs fB w4 wr k) {j : Nat} (hj : j < k) : ∃ f : Nat, IsFirst fs j f ∧ wr.cell? ⟨fB, j, none⟩ = some (.int .i64 f) := by
  obtain ⟨a1, a2, h1, h2, h3, h4, h5, h6, h7⟩ := h
  obtain ⟨f, q1, q2⟩ := h3 j hj
  exact ⟨f, q2, by rw [cell_at h1]; exact q1⟩
theorem Row2.rank {fs : List Fl} {fB : Nat} {w4 wr : World} {k : Nat} (h : Row2 fs fB w4 wr k) {j : Nat} (hj : j < k) : wr.cell? ⟨fB + 1, j, none⟩ = some (.int .i64 (dist ((fs.map prF).take j)).length) := by
  obtain ⟨a1, a2, h1, h2, h3, h4, h5, h6, h7⟩ := h
  rw [cell_at h4]; exact h6 j hj

theorem FAt.drewN {w : World} {fb : Nat} {F : Nat → Prop} {ps : List Pr} {es : List (Nat × Int)} (h : FAt w fb F ps es) (d : Nat) : FAt (w.drewN d) fb F ps es :=
  h.kept (G := fun _ => False) ((Turns.refl _ w).drewN d) (fun _ _ h => h)
/-- What the entry of filing k holds. -/
theorem entry_first {fs : List Fl} {k f : Nat} (hk : k < fs.length) (h : IsFirst fs k f) : (st fs).2[k]? = some ((dist ((fs.map prF).take f)).length, fs[k].2.2) := by
  obtain ⟨hfk, _, h2, h3⟩ := h
  have hf : f < (fs.map prF).length := by simp; omega
  have e : (fs.map prF)[f] = prF fs[k] := by rw [List.getElem?_eq_getElem hf] at h2; exact Option.some.inj h2
  rw [st_get fs hk, ← e, place_of_first hf (by rw [e]; exact h3) hfk]
theorem pair_first {fs : List Fl} {k : Nat} (hk : k < fs.length) (h : IsFirst fs k k) : (dist (fs.map prF))[(dist ((fs.map prF).take k)).length]? = some (pr fs[k].1 fs[k].2.1) := by
  obtain ⟨hfk, _, h2, h3⟩ := h
  have hf : k < (fs.map prF).length := by simp; omega
  have e : (fs.map prF)[k] = prF fs[k] := by simp
  have := pair_of_first (qs := fs.map prF) (f := k) (j := (fs.map prF).length) hf (by rw [e]; exact h3) hf
  rw [List.take_length, e] at this
  exact this
theorem place_first {fs : List Fl} {k : Nat} (hk : k < fs.length) (h : IsFirst fs k k) : pr fs[k].1 fs[k].2.1 ∈ dist (fs.map prF) ∧ (dist (fs.map prF)).idxOf (pr fs[k].1 fs[k].2.1) = (dist ((fs.map prF).take k)).length := by
  obtain ⟨hfk, _, h2, h3⟩ := h
  have hf : k < (fs.map prF).length := by simp; omega
  have e : (fs.map prF)[k] = prF fs[k] := by simp
  refine ⟨?_, ?_⟩
  · rw [mem_dist, ← (show prF fs[k] = pr fs[k].1 fs[k].2.1 from rfl), ← e]; exact List.getElem_mem hf
  · have := place_of_first (qs := fs.map prF) (f := k) (j := (fs.map prF).length) hf (by rw [e]; exact h3) (by omega)
    rw [List.take_length, e] at this
    exact this
end Go.Proofs.Qxb6603438aMods
