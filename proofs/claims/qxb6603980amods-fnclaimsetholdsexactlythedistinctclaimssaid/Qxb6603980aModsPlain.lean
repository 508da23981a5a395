/-
  THE PLAIN LAW: the set holds exactly the distinct claims.
-/
import Derived.Test.Qxb6603980aModsSet
namespace Go.Proofs.Qxb6603980aMods
open Go.RowKit Go.Maps
set_option linter.unusedSimpArgs false
set_option linter.unusedVariables false

theorem str_eq {a b : ByteArray} (h : (a.toList == b.toList) = true) : a = b := by
  rw [beq_iff_eq, ByteArray.toList_eq, ByteArray.toList_eq] at h
  exact WideShapes.bytes_inj h
theorem same_iff {f g : Fl} : sameB f g = true ↔ f = g := by
  constructor
  · intro h
    unfold sameB at h
    simp only [Bool.and_eq_true] at h
    obtain ⟨⟨h1, h2⟩, h3⟩ := h
    exact Prod.ext (str_eq h1) (Prod.ext (str_eq h2) (str_eq h3))
  · rintro rfl
    simp [sameB]
theorem same_kl {f g : Fl} (hf : Fits f) (hg : Fits g) (h : klOf Trym.prog f = klOf Trym.prog g) : f = g := by
  have k1 := kl_of hf
  have k2 := kl_of hg
  rw [← h] at k2
  obtain ⟨e1, e2, e3⟩ := key_inj k1 k2
  exact Prod.ext e1 (Prod.ext e2 e3)
theorem kl_lit {f : Fl} (hf : Fits f) : WideAt.IsKeyLit (klOf Trym.prog f) := law34.key (kl_of hf)

/-- What the map holds behind k rounds. -/
structure SetOk (fs : List Fl) (k : Nat) : Prop where
  tidy : Maps.Tidy (setD Trym.prog fs k)
  size : Maps.size (setD Trym.prog fs k) = distN fs k
  has : ∀ g, Fits g → Maps.has (setD Trym.prog fs k) (klOf Trym.prog g) = amongB (fs.take k) g
  at_ : ∀ g, Fits g → Maps.has (setD Trym.prog fs k) (klOf Trym.prog g) = true → (setD Trym.prog fs k).atKey (klOf Trym.prog g) (.lit (.bool false)) = .lit (.bool true)
theorem set_ok (fs : List Fl) (hf : ∀ f ∈ fs, Fits f) : ∀ k, k ≤ fs.length → SetOk fs k
  | 0, _ => ⟨tidy_empty, rfl, fun g _ => by simp [setD, amongB, Maps.has], fun g _ h => by simp [setD, Maps.has] at h⟩
  | k + 1, hk => by
    have ih := set_ok fs hf k (by omega)
    have hlt : k < fs.length := by omega
    have hF : fs[k]? = some fs[k] := List.getElem?_eq_getElem hlt
    have hfit : Fits fs[k] := hf _ (List.getElem_mem hlt)
    have hl := kl_lit hfit
    have hg : fs.getD k default = fs[k] := by simp [List.getD, hF]
    have ham : ∀ g, amongB (fs.take (k + 1)) g = (amongB (fs.take k) g || sameB fs[k] g) := fun g => by
      unfold amongB; rw [List.take_succ_eq_append_getElem hlt, List.any_append]; simp only [List.any_cons, List.any_nil, Bool.or_false]
    rw [show SetOk fs (k + 1) ↔ SetOk fs (k + 1) from Iff.rfl]
    refine ⟨?_, ?_, ?_, ?_⟩
    · rw [setD_succ hF]; exact ih.tidy.put hl _
    · rw [setD_succ hF, size_put ih.tidy, ih.has _ hfit, ih.size]
      show _ = distN fs k + _
      rw [hg]
      cases amongB (fs.take k) fs[k] <;> simp
    · intro g hgf
      rw [setD_succ hF, ham]
      by_cases e : fs[k] = g
      · rw [← e, has_put_same ih.tidy.isMap hl, (same_iff (f := fs[k]) (g := fs[k])).2 rfl, Bool.or_true]
      · have hne : klOf Trym.prog g ≠ klOf Trym.prog fs[k] := fun h => e (same_kl hfit hgf h.symm)
        have hs : sameB fs[k] g = false := by
          cases hb : sameB fs[k] g with
          | false => rfl
          | true => exact absurd (same_iff.1 hb) e
        rw [has_put_other hne, ih.has g hgf, hs, Bool.or_false]
    · intro g hgf
      rw [setD_succ hF]
      by_cases e : fs[k] = g
      · intro _; rw [← e, atKey_put_same ih.tidy.isMap hl]
      · have hne : klOf Trym.prog g ≠ klOf Trym.prog fs[k] := fun h => e (same_kl hfit hgf h.symm)
        rw [has_put_other hne, atKey_put_other hne]
        exact ih.at_ g hgf
theorem plainElem_bool_inv {H : Type} {P : Program} {e : TypeId} (he : P.underlying e = some .bool) {v : Value} {y : DataW H × List MemPlace} (h : plainElem P e v = some y) : ∃ b, v = .bool b ∧ y = (.lit (.bool b), []) := by
  cases v <;> simp [plainElem, he] at h
  exact ⟨_, rfl, h.symm⟩
/-- The look-up at a claim. -/
theorem look_runs {w : World} {mb : Nat} {fs : List Fl} (hf : ∀ f ∈ fs, Fits f) (hm : w.ownsMap Trym.prog 34 (plainElem Trym.prog 4) mb fs.length (setD Trym.prog fs fs.length)) {g : Fl} (hg : Fits g) :
    (Instr.lookup 26 (.map (some mb)) (.agg #[.string g.1, .string g.2.1, .string g.2.2]) true).run Trym.prog w = .ok (.tuple #[.bool (amongB fs g), .bool (amongB fs g)]) w := by
  obtain ⟨x, ps, hrun, hv⟩ := hm.look_ok law34 Trym.underlying26 (zero4 _) (plainElem_bool Trym.underlying4 false) (kl_of hg)
  have ok := set_ok fs hf fs.length (Nat.le_refl _)
  have hh := ok.has g hg
  rw [List.take_length] at hh
  rw [hh] at hrun
  have hx : x = .bool (amongB fs g) := by
    obtain ⟨bb, rfl, hc⟩ := plainElem_bool_inv Trym.underlying4 hv
    have hat : (setD Trym.prog fs fs.length).atKey (klOf Trym.prog g) (.lit (.bool false)) = .lit (.bool (amongB fs g)) := by
      cases hb : amongB fs g with
      | true => exact ok.at_ g hg (by rw [hh, hb])
      | false => exact atKey_of_not_has (by rw [hh, hb]) _
    simp only [Prod.mk.injEq] at hc
    rw [hat] at hc
    have : amongB fs g = bb := by simpa using hc.1
    rw [this]
  rw [hx] at hrun
  exact hrun
theorem len_runs {w : World} {mb : Nat} {fs : List Fl} (hf : ∀ f ∈ fs, Fits f) (hm : w.ownsMap Trym.prog 34 (plainElem Trym.prog 4) mb fs.length (setD Trym.prog fs fs.length)) :
    (Builtin.len_ #[26] 3 #[.map (some mb)]).run Trym.prog w = .ok (.int .i64 (distN fs fs.length)) w := by
  have := hm.len Trym.underlying26 3
  rw [(set_ok fs hf fs.length (Nat.le_refl _)).size] at this
  exact this
end Go.Proofs.Qxb6603980aMods
