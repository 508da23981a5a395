/-
  THE STATEMENT 'Rows.FnClaimSetHoldsExactlyTheDistinctClaimsSaid'.
-/
import Derived.Test.Qxb6603980aModsRows
import Derived.Test.Qxb6603980aModsMain
import Derived.Test.Qxb6603980aModsOpen
import Derived.Lib.SmallJoins
import Derived.ChangeOld
import Derived.Below
namespace Go.Proofs.Qxb6603980aMods.fnClaimSetHoldsExactlyTheDistinctClaims
open Go.ChangeShapes Go.WideShapes Go.ChangeAt Go.RowKit Go.Joins
open Go.ChangeMaps (open_string shut_string)
set_option linter.unusedVariables false

theorem own : ownKnob Trym.prog.godebug = none := by kernel_rfl

theorem walk (a : Option Addr) (len cap : Nat) (fs : List Fl) (g : Fl) (w : World) (h : IsScript w a len cap fs) (hg : Fits g) :
    Calls Trym.prog 3 #[.slice a len cap, .agg #[.string g.1, .string g.2.1, .string g.2.2]] w fun e w' => e = .returned (.bool true) ∧ Below w.heap.size w w' := by
  obtain ⟨rfl, hm, hf, hn, hc⟩ := h
  exact (main3 w a cap fs g hm hc hn hf hg).mono fun e w' ⟨he, hT⟩ => ⟨he, hT.below (B := w.heap.size) (fun _ _ h => h) (Nat.le_refl _)⟩

set_option maxRecDepth 100000 in
theorem lifted (os : Os) (started : os.Started) (H : Type) (enc : TypeId × Value → H) :
    ReturnsInHanded {} Trym.checked os 3 .any (Rows.fnClaimSetHoldsExactlyTheDistinctClaimsSpec.pre6 enc Trym.prog Trym.f3 Rows.fnClaimSetHoldsExactlyTheDistinctClaimsRow.domain false) (Rows.fnClaimSetHoldsExactlyTheDistinctClaimsSpec.post enc Trym.prog Trym.f3 false true false false) := by
  refine returnsInHanded_of_change (C := Trym.checked) own started (by kernel_rfl) Trym.func3
    (ChangeSpec.witness6 (enc := enc) (C := Trym.checked) false ⟨#[], #[.slice none 0 0, .agg #[.string ⟨#[]⟩, .string ⟨#[]⟩, .string ⟨#[]⟩]], []⟩ 8 (by kernel_rfl) (by kernel_rfl) (by kernel_rfl) (by kernel_rfl)) ?_
  intro W base args ds gs before hval0 hW hcnd _
  have hval : ∀ (j : Nat) t v, Trym.f3.params[j]? = some t → args[j]? = some v → Value.okWide Trym.prog W .any base t v := hval0
  have hW' := hW
  obtain ⟨p, q, hA0, hV, rfl, hfz, hnd⟩ := hW
  have hA : DataW.TrodAll enc Trym.prog W 0 (fun _ => true) true Trym.f3.params.toList args.toList ds p := hA0
  rw [Trym.params3] at hA hval
  obtain ⟨v0, vs0, d0, ds0, p0, q0, hargs, rfl, rfl, h0, r0⟩ := trodAll_cons hA
  obtain ⟨v1, vs1, d1, ds1, p1, q1, rfl, rfl, rfl, h1, r1⟩ := trodAll_cons r0
  obtain ⟨rfl, rfl, rfl⟩ := trodAll_nil r1
  obtain rfl : args = #[v0, v1] := by cases args; simp_all
  obtain ⟨rfl, rfl⟩ := trodVars_none hV
  obtain ⟨a0, len0, cap0, rfl⟩ := okWide_slice Trym.underlying22 (hval 0 22 v0 rfl rfl)
  have k0 := h0
  have lt0 : ∀ x ∈ p0, x.block < W.heap.size := by obtain ⟨m, hm⟩ := k0; exact DataW.trod_lt m _ _ _ hm
  have k1 := h1
  have lt1 : ∀ x ∈ p1, x.block < W.heap.size := by obtain ⟨m, hm⟩ := k1; exact DataW.trod_lt m _ _ _ hm
  obtain ⟨fs, w0⟩ : ∃ fs, IsScript W a0 len0 cap0 fs := by
    obtain ⟨fuel, hf⟩ := h0
    exact open_script (by simpa [Value.cells] using hf)
  obtain ⟨g, rfl, hg⟩ : ∃ g : Fl, v1 = .agg #[.string g.1, .string g.2.1, .string g.2.2] ∧ Fits g := by
    obtain ⟨c0, c1, c2, y0, y1, y2, m, rfl, _, _, hy0, hy1, hy2⟩ := open_agg3 Trym.underlying24 (by kernel_rfl) cells24 (hval 1 24 v1 rfl rfl) h1
    obtain ⟨s0, e0, _, z0⟩ := DataW.trod_string Trym.underlying9 hy0
    obtain ⟨s1, e1, _, z1⟩ := DataW.trod_string Trym.underlying9 hy1
    obtain ⟨s2, e2, _, z2⟩ := DataW.trod_string Trym.underlying9 hy2
    simp at e0 e1 e2
    subst e0 e1 e2
    exact ⟨(s0, s1, s2), rfl, z0, z1, z2⟩
  clear hA0 hval0
  refine (walk a0 len0 cap0 fs g W w0 hg).mono fun e W' ⟨he, bel⟩ => ?_
  subst he
  exact ⟨_, rfl, _, _, _, [], _, [], hW', trodAll_mk1 (shut_bool Trym.underlying4 _), (trodAll_cons_mk (Below.trod laidOut (by kernel_rfl) (of_decide_eq_true (by kernel_rfl)) k0 bel lt0) (trodAll_cons_mk (Below.trod laidOut (by kernel_rfl) (of_decide_eq_true (by kernel_rfl)) k1 bel lt1) trodAll_mk0)), rfl, bel.frame _, fun h => by cases h⟩

theorem over : Rows.fnClaimSetHoldsExactlyTheDistinctClaimsRow.holds Trym.pinned (OpenSpec.ofChange Rows.fnClaimSetHoldsExactlyTheDistinctClaimsSpec) :=
  OpenClaim.holds_of_wide 3 Trym.f3 rfl rfl rfl rfl rfl rfl rfl ⟨rfl, rfl, rfl, rfl, rfl⟩ rfl rfl rfl rfl rfl (by kernel_rfl) Trym.func3 (by kernel_rfl)
    (of_decide_eq_true (by kernel_rfl)) (by unfold Func.isWrapper; first | (rw [if_pos (by decide +kernel)]; kernel_rfl) | (rw [if_neg (by decide +kernel)]; exact ⟨rfl, rfl⟩))
    (fun os started H enc _ => lifted os started H enc)

/-- THE STATEMENT. -/
theorem proved : Rows.FnClaimSetHoldsExactlyTheDistinctClaimsSaid := over
end Go.Proofs.Qxb6603980aMods.fnClaimSetHoldsExactlyTheDistinctClaims
