/-
  PLAIN LAWS: a script filed twice. Two filers side by side.
-/
import Derived.Test.Qxb6603438aModsRank
namespace Go.Proofs.Qxb6603438aMods
open Go.RowKit Go.Maps
set_option linter.unusedSimpArgs false
set_option linter.unusedVariables false

theorem fold_known : ∀ (m ps : List Pr), (∀ x ∈ m, x ∈ ps) → m.foldl addP ps = ps
  | [], _, _ => rfl
  | x :: m, ps, h => by
    rw [List.foldl_cons, addP, if_pos (h x (by simp))]
    exact fold_known m ps (fun y hy => h y (by simp [hy]))
theorem dist_twice (l : List Pr) (k : Nat) : dist (l ++ l.take k) = dist l := by
  unfold dist
  rw [List.foldl_append]
  exact fold_known _ _ (fun x hx => (mem_dist x l).2 (List.mem_of_mem_take hx))
theorem st_twice_fst (fs : List Fl) (k : Nat) : (st (fs ++ fs.take k)).1 = dist (fs.map prF) := by
  rw [st_fst, List.map_append, List.map_take, dist_twice]
theorem st_twice_step {fs : List Fl} {k : Nat} (h : k < fs.length) : st (fs ++ fs.take (k + 1)) = (addP (st (fs ++ fs.take k)).1 (prF fs[k]), (st (fs ++ fs.take k)).2 ++ [((st (fs ++ fs.take k)).1.idxOf (prF fs[k]), fs[k].2.2)]) := by
  rw [List.take_succ_eq_append_getElem h, ← List.append_assoc, st_snoc]
/-- Every filing has a first one of its pair. -/
theorem first_exists (fs : List Fl) {i : Nat} (hi : i < fs.length) : ∃ f, IsFirst fs i f := by
  have key : ∀ k, k ≤ i → (∃ f, IsFirst fs i f) ∨ ∀ j, j < k → (fs.map prF)[j]? ≠ some (prF fs[i]) := by
    intro k
    induction k with
    | zero => intro _; right; intro j hj; omega
    | succ k ih =>
      intro hk
      rcases ih (by omega) with h | h
      · exact .inl h
      · by_cases e : (fs.map prF)[k]? = some (prF fs[i])
        · exact .inl ⟨k, isFirst_of hi (by omega) h (.inr e)⟩
        · right
          intro j hj
          by_cases ej : j = k
          · subst ej; exact e
          · exact h j (by omega)
  rcases key i (Nat.le_refl _) with h | h
  · exact h
  · exact ⟨i, isFirst_of hi (Nat.le_refl _) h (.inl rfl)⟩
/-- The entries of a script filed twice. -/
theorem entry_twice_low {fs : List Fl} {k f : Nat} (hk : k < fs.length) (h : IsFirst fs k f) : (st (fs ++ fs)).2[k]? = some ((dist ((fs.map prF).take f)).length, fs[k].2.2) := by
  rw [st_get (fs ++ fs) (i := k) (by simp; omega), ← entry_first hk h, st_get fs hk]
  rw [List.getElem_append_left hk, List.map_append, List.take_append_of_le_length (by simp; omega)]
theorem entry_twice_high {fs : List Fl} {k f : Nat} (hk : k < fs.length) (h : IsFirst fs k f) : (st (fs ++ fs)).2[k + fs.length]? = some ((dist ((fs.map prF).take f)).length, fs[k].2.2) := by
  rw [st_get (fs ++ fs) (i := k + fs.length) (by simp; omega)]
  have e1 : (fs ++ fs)[k + fs.length]'(by simp; omega) = fs[k] := by
    rw [List.getElem_append_right (by omega)]; simp
  have e2 : ((fs ++ fs).map prF).take (k + fs.length) = fs.map prF ++ (fs.map prF).take k := by
    rw [List.map_append, List.take_append, List.take_of_length_le (by simp)]
    simp
  rw [e1, e2, dist_twice]
  obtain ⟨hfk, _, h2, h3⟩ := h
  have hf : f < (fs.map prF).length := by simp; omega
  have e : (fs.map prF)[f] = prF fs[k] := by rw [List.getElem?_eq_getElem hf] at h2; exact Option.some.inj h2
  have := place_of_first (qs := fs.map prF) (f := f) (j := (fs.map prF).length) hf (by rw [e]; exact h3) (by omega)
  rw [List.take_length, e] at this
  rw [this]
theorem mem_all {fs : List Fl} {k : Nat} (hk : k < fs.length) : pr fs[k].1 fs[k].2.1 ∈ dist (fs.map prF) := by
  rw [mem_dist]
  exact List.mem_map.2 ⟨fs[k], List.getElem_mem hk, rfl⟩
theorem pr_lists (p : Pr) : pr ⟨p.1.toArray⟩ ⟨p.2.toArray⟩ = p := by simp [pr]

/-- Two filers side by side, apart from each other. -/
def Two (w : World) (lo f1 f2 : Nat) (p1 : List Pr) (e1 : List (Nat × Int)) (p2 : List Pr) (e2 : List (Nat × Int)) : Prop :=
  ∃ F1 F2 : Nat → Prop, FAt w f1 F1 p1 e1 ∧ FAt w f2 F2 p2 e2 ∧ (∀ x, F1 x → lo < x) ∧ (∀ x, F2 x → lo < x) ∧ ∀ x, F1 x → ¬ F2 x

theorem FAt.bound {w : World} {fb : Nat} {F : Nat → Prop} {ps : List Pr} {es : List (Nat × Int)} (h : FAt w fb F ps es) : ∀ x, F x → x < w.heap.size := by
  obtain ⟨_, _, _, _, _, h, _⟩ := h; exact h

/-- Filing into the first, the second stays; and the other way round. -/
theorem Two.fileA {w : World} {lo f1 f2 : Nat} {p1 : List Pr} {e1 : List (Nat × Int)} {p2 : List Pr} {e2 : List (Nat × Int)} (h : Two w lo f1 f2 p1 e1 p2 e2) (hlo : lo < w.heap.size) (a r : ByteArray) (x : Int) (hk : e1.length + 1 ≤ 100000) (ha : a.size ≤ maxLen) (hr : r.size ≤ maxLen) :
    Calls Trym.prog 17 #[.pointer (some ⟨f1, 0, none⟩), .string a, .string r, .int .i64 x] w fun e w' => e = .returned (.tuple #[]) ∧ Two w' lo f1 f2 (addP p1 (pr a r)) (e1 ++ [(p1.idxOf (pr a r), x)]) p2 e2 ∧ Turns (fun b => lo < b) w w' := by
  obtain ⟨F1, F2, h1, h2, h3, h4, h5⟩ := h
  refine (zzfile_any w f1 F1 p1 e1 a r x h1 hk ha hr).mono ?_
  rintro e w' ⟨rfl, hF, hT⟩
  refine ⟨rfl, ⟨more F1 w w', F2, hF, h2.kept hT (fun b hb hf => h5 b hf hb), ?_, h4, ?_⟩, hT.mono (fun j _ hj => h3 j hj)⟩
  · rintro y (hy | hy)
    · exact h3 y hy
    · omega
  · rintro y (hy | hy) hy2
    · exact h5 y hy hy2
    · have := h2.bound y hy2; omega
theorem Two.fileB {w : World} {lo f1 f2 : Nat} {p1 : List Pr} {e1 : List (Nat × Int)} {p2 : List Pr} {e2 : List (Nat × Int)} (h : Two w lo f1 f2 p1 e1 p2 e2) (hlo : lo < w.heap.size) (a r : ByteArray) (x : Int) (hk : e2.length + 1 ≤ 100000) (ha : a.size ≤ maxLen) (hr : r.size ≤ maxLen) :
    Calls Trym.prog 17 #[.pointer (some ⟨f2, 0, none⟩), .string a, .string r, .int .i64 x] w fun e w' => e = .returned (.tuple #[]) ∧ Two w' lo f1 f2 p1 e1 (addP p2 (pr a r)) (e2 ++ [(p2.idxOf (pr a r), x)]) ∧ Turns (fun b => lo < b) w w' := by
  obtain ⟨F1, F2, h1, h2, h3, h4, h5⟩ := h
  refine (zzfile_any w f2 F2 p2 e2 a r x h2 hk ha hr).mono ?_
  rintro e w' ⟨rfl, hF, hT⟩
  refine ⟨rfl, ⟨F1, more F2 w w', h1.kept hT (fun b hb hf => h5 b hb hf), hF, h3, ?_, ?_⟩, hT.mono (fun j _ hj => h4 j hj)⟩
  · rintro y (hy | hy)
    · exact h4 y hy
    · omega
  · rintro y hy1 (hy | hy)
    · exact h5 y hy1 hy
    · have := h1.bound y hy1; omega
theorem Two.new (w : World) (lo : Nat) (hlo : lo < w.heap.size) :
    Two ((w.alloc (.cells #[.map none, .slice none 0 0, .slice none 0 0] 47)).alloc (.cells #[.map none, .slice none 0 0, .slice none 0 0] 47)) lo w.heap.size (w.heap.size + 1) [] [] [] [] := by
  have h1 := FAt.new w
  have h2 := FAt.new (w.alloc (.cells #[.map none, .slice none 0 0, .slice none 0 0] 47))
  rw [show (w.alloc (.cells #[.map none, .slice none 0 0, .slice none 0 0] 47)).heap.size = w.heap.size + 1 by simp] at h2
  exact ⟨_, _, h1.kept (G := fun _ => False) ((Turns.refl _ _).alloc _) (fun _ _ h => h), h2, fun x hx => by omega, fun x hx => by omega, fun x hx hy => by omega⟩
end Go.Proofs.Qxb6603438aMods
