/-
  distinctCount.
-/
import Derived.Test.Qxb6603980aModsAmong
namespace Go.Proofs.Qxb6603980aMods
open Go.RowKit Go.Maps
set_option linter.unusedSimpArgs false
set_option linter.unusedVariables false
attribute [local go_sem ↓] Go.wp_at_zero Go.wp_at_succ

/-- How many of the first k are not among those before them. -/
def distN (fs : List Fl) : Nat → Nat
  | 0 => 0
  | k + 1 => distN fs k + (if amongB (fs.take k) (fs.getD k default) then 0 else 1)
theorem distN_le (fs : List Fl) : ∀ k, distN fs k ≤ k
  | 0 => Nat.le_refl _
  | k + 1 => by
    have := distN_le fs k
    unfold distN
    split <;> omega
theorem dist_old {fs : List Fl} {k j : Nat} {f g : Fl} (hj : j < k) (hf : fs[j]? = some f) (hg : fs[k]? = some g) (h : sameB f g = true) : distN fs (k + 1) = distN fs k := by
  have hy : amongB (fs.take k) g = true := by
    unfold amongB
    refine List.any_eq_true.2 ⟨f, ?_, h⟩
    rw [List.mem_iff_getElem?]
    exact ⟨j, by rw [List.getElem?_take, if_pos hj]; exact hf⟩
  show distN fs k + _ = _
  rw [show fs.getD k default = g by simp [List.getD, hg], hy]; rfl
theorem dist_new {fs : List Fl} {k : Nat} {g : Fl} (hg : fs[k]? = some g) (h : ∀ j f, j < k → fs[j]? = some f → sameB f g = false) : distN fs (k + 1) = distN fs k + 1 := by
  have hn : amongB (fs.take k) g = false := by
    refine among_no (fun j f hj hf => ?_)
    rw [List.getElem?_take] at hf
    split at hf
    · exact h j f (by assumption) hf
    · cases hf
  show distN fs k + _ = _
  rw [show fs.getD k default = g by simp [List.getD, hg], hn]; rfl

set_option maxHeartbeats 1000000 in
theorem count_any (w : World) (a : Option Addr) (cap : Nat) (fs : List Fl) (hm : fs.length ≤ maxLen) (hc : Told w a fs) :
    Calls Trym.prog 8 #[.slice a fs.length cap] w fun e w' => e = .returned (.int .i64 (distN fs fs.length)) ∧ Turns (fun _ => False) w w' := by
  have HC : Hid (Told w a fs) := hc
  clear hc
  unfold maxLen at hm
  go_enter Trym.func8, Trym.ntmps8
  go_wp2
  go_loopw [3, 4] (fun n i wr => ∃ (k c : Nat), k ≤ fs.length ∧ i = .int .i64 k ∧ n = .int .i64 c ∧ c ≤ k ∧ c = distN fs k ∧ Turns (fun _ => False) w wr) (fun _ i _ => fs.length - (intOf i).toNat)
  case atStart => exact ⟨0, 0, Nat.zero_le _, rfl, rfl, Nat.le_refl _, rfl, Turns.refl _ _⟩
  case round =>
    obtain ⟨k, c, hk, rfl, rfl, hck, hcd, hT⟩ := hrel
    have HT : Hid (Turns (fun _ => False) w wr) := hT
    have HCD : Hid (c = distN fs k) := hcd
    clear hcd hT
    by_cases hlt : k < fs.length
    · have HG : Hid (fs[k]? = some fs[k]) := List.getElem?_eq_getElem hlt
      generalize fs[k] = g at *
      go_wp2_with fail
      go_loopw [5, 6] (fun sn j wi => ∃ (l : Nat), l ≤ k ∧ j = .int .i64 l ∧ sn = .bool false ∧ Turns (fun _ => False) w wi ∧ ∀ j f, j < l → fs[j]? = some f → sameB f g = false) (fun _ j _ => k - (intOf j).toNat)
      case atStart => exact ⟨0, Nat.zero_le _, rfl, rfl, HT.out, fun j f hj => by omega⟩
      case round =>
        clear HT
        obtain ⟨l, hl, rfl, rfl, hT, hno⟩ := hrel
        have HT : Hid (Turns (fun _ => False) w wr) := hT
        have HNO : Hid (∀ j f, j < l → fs[j]? = some f → sameB f g = false) := hno
        clear hno hT
        by_cases hlk : l < k
        · have HF : Hid (fs[l]? = some fs[l]) := List.getElem?_eq_getElem (by omega)
          generalize fs[l] = f at *
          obtain ⟨b, off, rfl, hb, hcc⟩ := HC.out.turns HT.out k hlt
          obtain ⟨h1, h2, h3⟩ := hcc l f HF.out
          obtain ⟨x1, x2, x3⟩ := hcc k g HG.out
          clear hcc
          have i1 : (l : Int) < (fs.length : Int) := by omega
          have HS : Hid (∀ w, Calls Trym.prog 12 #[.agg #[.string f.1, .string f.2.1, .string f.2.2], .agg #[.string g.1, .string g.2.1, .string g.2.2]] w fun e w' => e = .returned (.bool (sameB f g)) ∧ Turns (fun _ => False) w w') := fun w => same_any w f g
          obtain ⟨sb, hsb⟩ : ∃ sb, sameB f g = sb := ⟨_, rfl⟩
          have HSB : Hid (sameB f g = sb) := hsb
          rw [hsb] at HS
          clear hsb
          go_wp2_with fail
          go_region_held3 (fun w' => w'.cell? ⟨b, off + l * 3, none⟩ = some (.string f.1) ∧ w'.cell? ⟨b, off + l * 3 + 1, none⟩ = some (.string f.2.1) ∧ w'.cell? ⟨b, off + l * 3 + 2, none⟩ = some (.string f.2.2) ∧ w'.cell? ⟨b, off + k * 3, none⟩ = some (.string g.1) ∧ w'.cell? ⟨b, off + k * 3 + 1, none⟩ = some (.string g.2.1) ∧ w'.cell? ⟨b, off + k * 3 + 2, none⟩ = some (.string g.2.2)) (go_keep)
            ((go_at_call 12; refine (HS.out _).mono ?_; rintro e w3 ⟨rfl, hT3⟩; have y1 := cell_turn hT3 (by exact x1); have y2 := cell_turn hT3 (by exact x2); have y3 := cell_turn hT3 (by exact x3); have y4 := cell_turn hT3 (by exact h1); have y5 := cell_turn hT3 (by exact h2); have y6 := cell_turn hT3 (by exact h3); have HT4 : Hid (Turns (fun _ => False) w w3) := (HT.out.drew).trans hT3 (fun _ _ h => h); clear hT3))
          clear x1 x2 x3 h1 h2 h3
          cases sb
          · go_wp2_with fail
            go_roundw
            case rel =>
              refine ⟨l + 1, by omega, by go_num, rfl, HT4.out, fun j f' hj hf' => ?_⟩
              by_cases e : j = l
              · subst e
                rw [HF.out] at hf'
                cases hf'
                exact HSB.out
              · exact HNO.out j f' (by omega) hf'
            case measure => simp [intOf]; omega
          · have HD : Hid (distN fs (k + 1) = distN fs k) := dist_old hlk HF.out HG.out HSB.out
            go_wp2_with fail
            exact ⟨⟨k + 1, c, by omega, by go_num, rfl, by omega, by rw [HD.out]; exact HCD.out, HT4.out⟩, by simp [intOf]; omega⟩
        · have HD : Hid (distN fs (k + 1) = distN fs k + 1) := dist_new HG.out (fun j f hj hf => HNO.out j f (by omega) hf)
          go_wp2_with fail
          exact ⟨⟨k + 1, c + 1, by omega, by go_num, by go_num, by omega, by rw [HD.out, HCD.out], HT.out⟩, by simp [intOf]; omega⟩
    · have hke : k = fs.length := by omega
      subst hke
      go_wp2_with fail
      go_ret
      exact ⟨by rw [← HCD.out]; rfl, HT.out⟩
end Go.Proofs.Qxb6603980aMods
