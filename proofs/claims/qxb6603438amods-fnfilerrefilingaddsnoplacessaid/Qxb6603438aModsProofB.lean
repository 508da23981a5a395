/-
  THE STATEMENT 'Rows.FnFilerRefilingAddsNoPlacesSaid'.
-/
import Derived.Test.Qxb6603438aModsMainB
import Derived.Test.Qxb6603438aModsMainY
import Derived.Test.Qxb6603438aModsOpen
namespace Go.Proofs.Qxb6603438aMods.fnFilerRefilingAddsNoPlaces
open Go.ChangeShapes Go.WideShapes Go.ChangeAt Go.RowKit
open Go.ChangeMaps (open_string shut_string)
set_option linter.unusedVariables false

theorem own : ownKnob Trym.prog.godebug = none := by kernel_rfl

theorem walk (a : Option Addr) (len cap : Nat) (fs : List Fl) (w : World) (h : IsScript w a len cap fs) :
    Calls Trym.prog 7 #[.slice a len cap] w fun e w' => e = .returned (.bool true) ∧ Below w.heap.size w w' := by
  obtain ⟨rfl, hm, hsz, h0 | ⟨b, off, rfl, hb, hc⟩⟩ := h
  · obtain ⟨rfl, h0⟩ := h0
    exact main7_none w a cap h0
  · exact main7 w b off cap fs hm hc hb hsz

set_option maxRecDepth 100000 in
theorem lifted (os : Os) (started : os.Started) (H : Type) (enc : TypeId × Value → H) :
    ReturnsInHanded {} Trym.checked os 7 .any (Rows.fnFilerRefilingAddsNoPlacesSpec.pre6 enc Trym.prog Trym.f7 Rows.fnFilerRefilingAddsNoPlacesRow.domain false) (Rows.fnFilerRefilingAddsNoPlacesSpec.post enc Trym.prog Trym.f7 false true false false) := by
  refine returnsInHanded_of_change (C := Trym.checked) own started (by kernel_rfl) Trym.func7
    (ChangeSpec.witness6 (enc := enc) (C := Trym.checked) false ⟨#[], #[.slice none 0 0], []⟩ 8 (by kernel_rfl) (by kernel_rfl) (by kernel_rfl) (by kernel_rfl)) ?_
  intro W base args ds gs before hval0 hW hcnd _
  have hval : ∀ (j : Nat) t v, Trym.f7.params[j]? = some t → args[j]? = some v → Value.okWide Trym.prog W .any base t v := hval0
  have hW' := hW
  obtain ⟨p, q, hA0, hV, rfl, hfz, hnd⟩ := hW
  have hA : DataW.TrodAll enc Trym.prog W 0 (fun _ => true) true Trym.f7.params.toList args.toList ds p := hA0
  rw [Trym.params7] at hA hval
  obtain ⟨v0, vs0, d0, ds0, p0, q0, hargs, rfl, rfl, h0, r0⟩ := trodAll_cons hA
  obtain ⟨rfl, rfl, rfl⟩ := trodAll_nil r0
  obtain rfl : args = #[v0] := by cases args; simp_all
  obtain ⟨rfl, rfl⟩ := trodVars_none hV
  obtain ⟨a0, len0, cap0, rfl⟩ := okWide_slice Trym.underlying27 (hval 0 27 v0 rfl rfl)
  have k0 := h0
  have lt0 : ∀ x ∈ p0, x.block < W.heap.size := by obtain ⟨m, hm⟩ := k0; exact DataW.trod_lt m _ _ _ hm
  obtain ⟨fs, w0⟩ : ∃ fs, IsScript W a0 len0 cap0 fs := by
    obtain ⟨fuel, hf⟩ := h0
    exact open_script (by simpa [Value.cells] using hf)
  clear hA0 hval0
  refine (walk a0 len0 cap0 fs W w0).mono fun e W' ⟨he, bel⟩ => ?_
  subst he
  exact ⟨_, rfl, _, _, _, [], _, [], hW', trodAll_mk1 (shut_bool Trym.underlying4 _), (trodAll_cons_mk (Below.trod laidOut (by kernel_rfl) (of_decide_eq_true (by kernel_rfl)) k0 bel lt0) trodAll_mk0), rfl, bel.frame _, fun h => by cases h⟩

theorem over : Rows.fnFilerRefilingAddsNoPlacesRow.holds Trym.pinned (OpenSpec.ofChange Rows.fnFilerRefilingAddsNoPlacesSpec) :=
  OpenClaim.holds_of_wide 7 Trym.f7 rfl rfl rfl rfl rfl rfl rfl ⟨rfl, rfl, rfl, rfl, rfl⟩ rfl rfl rfl rfl rfl (by kernel_rfl) Trym.func7 (by kernel_rfl)
    (of_decide_eq_true (by kernel_rfl)) (by unfold Func.isWrapper; first | (rw [if_pos (by decide +kernel)]; kernel_rfl) | (rw [if_neg (by decide +kernel)]; exact ⟨rfl, rfl⟩))
    (fun os started H enc _ => lifted os started H enc)

theorem proved : Rows.FnFilerRefilingAddsNoPlacesSaid := over
end Go.Proofs.Qxb6603438aMods.fnFilerRefilingAddsNoPlaces
