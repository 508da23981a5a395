/-
  The row's proof, after the given shell.
-/
import Derived.Test.Qxb6603910aModsRows
import Derived.Test.Qxb6603910aModsBad
import Derived.WalkKit
import Derived.ProofKit
import Derived.OpenShut
import Derived.ShutString
import Derived.ChangeOld
import Derived.Below
namespace Go.Proofs.Qxb6603910aMods.fnCachePlaceKeepsTheLastPlacedInOrder
open Go.ChangeShapes Go.WideShapes Go.ChangeAt Go.RowKit
open Go.ChangeMaps (open_string shut_string)
set_option linter.unusedVariables false

theorem own : ownKnob Trym.prog.godebug = none := by kernel_rfl
theorem laidOut : laidOutB Trym.prog = true := by kernel_rfl

/-- WHAT THE WALK IS TOLD OF A SLICE OF INTEGERS THAT CAME IN: it is nil; or it leads to a row of 'cap' cells, the numbers 'zs' (the first 'len' are its elements, the rest its spare room), each fitting its kind. -/
def IsRow (k : IntKind) (w : World) (a : Option Addr) (len cap : Nat) (zs : List Int) : Prop :=
  (a = none ∧ len = 0 ∧ cap = 0 ∧ zs = []) ∨
  ∃ x, a = some x ∧ len ≤ cap ∧ cap ≤ maxLen ∧ zs.length = cap ∧ (∀ i, i < zs.length → w.cell? (x.add i) = some (.int k (zs.getD i 0))) ∧ ∀ n ∈ zs, (Lit.int k n).wf = true

theorem nums_of {w : World} {a : Option Addr} {len cap : Nat} {zs : List Int} (h : IsRow .u64 w a len cap zs) : Nums w a len zs := by
  intro k hk
  rcases h with ⟨_, rfl, _, _⟩ | ⟨x, rfl, h1, h2, h3, h4, h5⟩
  · omega
  · obtain ⟨b, off, rfl, hc⟩ := ints_at h4 (by omega)
    refine ⟨b, off, rfl, World.block_lt_of_cell? w _ (hc 0 (by omega)), fun j hj => hc j (by omega), fun j hj => h5 _ ?_⟩
    have hj' : j < zs.length := by omega
    simp [List.getD, List.getElem?_eq_getElem hj']

/-! ### STEP 1: THE WALK: the Go text returns true, AND WRITES NOTHING THAT WAS THERE: 'Below w.heap.size w w'' (Derived/Below.lean: '.refl', '.alloc', '.drew', '.setCell' at a new block, '.trans'). Open each 'IsRow' by 'rcases' AHEAD of 'go_enter'; part every test ahead of the walk. -/
theorem walk (a0 : Int) (a1 : Int) (a2 : Int) (a3 : Bool) (a4 : Option Addr) (len4 cap4 : Nat) (z4 : List Int) (w : World) (w0 : (Lit.int .i64 a0).wf = true) (w1 : (Lit.int .u8 a1).wf = true) (w2 : (Lit.int .u64 a2).wf = true) (w4 : IsRow .u64 w a4 len4 cap4 z4) :
    Calls Trym.prog 6 #[.int .i64 a0, .int .u8 a1, .int .u64 a2, .bool a3, .slice a4 len4 cap4] w fun e w' => e = .returned (.bool true) ∧ Below w.heap.size w w' := by
  have hlm : len4 ≤ maxLen := by
    rcases w4 with ⟨_, rfl, _, _⟩ | ⟨x, _, h1, h2, _⟩
    · unfold maxLen; omega
    · omega
  have hu : 0 ≤ a1 ∧ a1 ≤ 255 := by
    have e1 : IntKind.u8.min = 0 := by decide
    have e2 : IntKind.u8.max = 255 := by decide
    have : (decide (IntKind.u8.min ≤ a1) && decide (a1 ≤ IntKind.u8.max)) = true := w1
    rw [e1, e2] at this
    simpa using this
  obtain ⟨L, rfl⟩ : ∃ L : Nat, a1 = (L : Int) := ⟨a1.toNat, by omega⟩
  by_cases hb : 65536 < len4 ∨ 16 < L ∨ (L ≤ 16 ∧ 2 ^ L = 2 ^ L ∧ (a0 < 1 ∨ (((2 ^ L : Nat)) : Int) ≤ a0))
  · exact main_bad w a2 a0 L (2 ^ L) a3 a4 len4 cap4 hlm hb
  · have h1 : len4 ≤ 65536 := Nat.le_of_not_lt fun h => hb (.inl h)
    have h2 : L ≤ 16 := Nat.le_of_not_lt fun h => hb (.inr (.inl h))
    have h3 : 1 ≤ a0 := Int.le_of_lt_add_one (Int.lt_of_not_ge fun h => hb (.inr (.inr ⟨h2, rfl, .inl (by omega)⟩)))
    have h4 : a0 < ((2 ^ L : Nat) : Int) := Int.lt_of_not_ge fun h => hb (.inr (.inr ⟨h2, rfl, .inr h⟩))
    obtain ⟨C, rfl⟩ : ∃ C : Nat, a0 = (C : Int) := ⟨a0.toNat, by omega⟩
    exact main_good w a2 C L (2 ^ L) a3 a4 len4 cap4 z4 (nums_of w4) h1 h2 rfl (by omega) (by omega)

/-! ### THE ROW's STEP: WRITTEN OUT: LEAVE IT -/
set_option maxRecDepth 100000 in
theorem lifted (os : Os) (started : os.Started) (H : Type) (enc : TypeId × Value → H) :
    ReturnsInHanded {} Trym.checked os 6 .any (Rows.fnCachePlaceKeepsTheLastPlacedInOrderSpec.pre6 enc Trym.prog Trym.f6 Rows.fnCachePlaceKeepsTheLastPlacedInOrderRow.domain false) (Rows.fnCachePlaceKeepsTheLastPlacedInOrderSpec.post enc Trym.prog Trym.f6 false true false false) := by
  refine returnsInHanded_of_change (C := Trym.checked) own started (by kernel_rfl) Trym.func6
    (ChangeSpec.witness6 (enc := enc) (C := Trym.checked) false ⟨#[], #[.int .i64 0, .int .u8 0, .int .u64 0, .bool false, .slice none 0 0], []⟩ 8 (by kernel_rfl) (by kernel_rfl) (by kernel_rfl) (by kernel_rfl)) ?_
  intro W base args ds gs before hval0 hW hcnd _
  have hval : ∀ (j : Nat) t v, Trym.f6.params[j]? = some t → args[j]? = some v → Value.okWide Trym.prog W .any base t v := hval0
  have hW' := hW
  obtain ⟨p, q, hA0, hV, rfl, hfz, hnd⟩ := hW
  have hA : DataW.TrodAll enc Trym.prog W 0 (fun _ => true) true Trym.f6.params.toList args.toList ds p := hA0
  rw [Trym.params6] at hA hval
  obtain ⟨v0, vs0, d0, ds0, p0, q0, hargs, rfl, rfl, h0, r0⟩ := trodAll_cons hA
  obtain ⟨v1, vs1, d1, ds1, p1, q1, rfl, rfl, rfl, h1, r1⟩ := trodAll_cons r0
  obtain ⟨v2, vs2, d2, ds2, p2, q2, rfl, rfl, rfl, h2, r2⟩ := trodAll_cons r1
  obtain ⟨v3, vs3, d3, ds3, p3, q3, rfl, rfl, rfl, h3, r3⟩ := trodAll_cons r2
  obtain ⟨v4, vs4, d4, ds4, p4, q4, rfl, rfl, rfl, h4, r4⟩ := trodAll_cons r3
  obtain ⟨rfl, rfl, rfl⟩ := trodAll_nil r4
  obtain rfl : args = #[v0, v1, v2, v3, v4] := by cases args; simp_all
  obtain ⟨rfl, rfl⟩ := trodVars_none hV
  obtain ⟨a0, rfl, rfl, rfl, w0⟩ := open_int Trym.underlying3 (hval 0 3 v0 rfl rfl) h0
  obtain ⟨a1, rfl, rfl, rfl, w1⟩ := open_int Trym.underlying5 (hval 1 5 v1 rfl rfl) h1
  obtain ⟨a2, rfl, rfl, rfl, w2⟩ := open_int Trym.underlying23 (hval 2 23 v2 rfl rfl) h2
  obtain ⟨a3, rfl, rfl, rfl⟩ := open_bool Trym.underlying4 (hval 3 4 v3 rfl rfl) h3
  obtain ⟨a4, len4, cap4, rfl⟩ := okWide_slice Trym.underlying53 (hval 4 53 v4 rfl rfl)
  have k4 := h4
  have lt4 : ∀ x ∈ p4, x.block < W.heap.size := by obtain ⟨m, hm⟩ := k4; exact DataW.trod_lt m _ _ _ hm
  obtain ⟨z4, w4⟩ : ∃ zs, IsRow .u64 W a4 len4 cap4 zs := by
    obtain ⟨fuel, hf⟩ := h4
    rcases open_ints Trym.underlying53 Trym.underlying23 (by kernel_rfl) hf with ⟨hcs, _⟩ | ⟨x, l, c, zs, hcs, _, hl, hm, hz, _, hcell, hwz⟩
    · simp [Value.cells] at hcs
      obtain ⟨rfl, rfl, rfl⟩ := hcs
      exact ⟨[], .inl ⟨rfl, rfl, rfl, rfl⟩⟩
    · simp [Value.cells] at hcs
      obtain ⟨rfl, rfl, rfl⟩ := hcs
      exact ⟨zs, .inr ⟨_, rfl, hl, hm, by simpa using hz, hcell, hwz⟩⟩
  clear hA0 hval0
  refine (walk a0 a1 a2 a3 a4 len4 cap4 z4 W w0 w1 w2 w4).mono fun e W' ⟨he, bel⟩ => ?_
  subst he
  exact ⟨_, rfl, _, _, _, [], _, [], hW', trodAll_mk1 (shut_bool Trym.underlying4 _), (trodAll_cons_mk (shut_int Trym.underlying3 w0) (trodAll_cons_mk (shut_int Trym.underlying5 w1) (trodAll_cons_mk (shut_int Trym.underlying23 w2) (trodAll_cons_mk (shut_bool Trym.underlying4 _) (trodAll_cons_mk (Below.trod laidOut (by kernel_rfl) (of_decide_eq_true (by kernel_rfl)) k4 bel lt4) trodAll_mk0))))), rfl, bel.frame _, fun h => by cases h⟩

theorem over : Rows.fnCachePlaceKeepsTheLastPlacedInOrderRow.holds Trym.pinned (OpenSpec.ofChange Rows.fnCachePlaceKeepsTheLastPlacedInOrderSpec) :=
  OpenClaim.holds_of_wide 6 Trym.f6 rfl rfl rfl rfl rfl rfl rfl ⟨rfl, rfl, rfl, rfl, rfl⟩ rfl rfl rfl rfl rfl (by kernel_rfl) Trym.func6 (by kernel_rfl)
    (of_decide_eq_true (by kernel_rfl)) (by unfold Func.isWrapper; first | (rw [if_pos (by decide +kernel)]; kernel_rfl) | (rw [if_neg (by decide +kernel)]; exact ⟨rfl, rfl⟩))
    (fun os started H enc _ => lifted os started H enc)

/-- ████ THE STATEMENT ████ -/
theorem proved : Rows.FnCachePlaceKeepsTheLastPlacedInOrderSaid := over
end Go.Proofs.Qxb6603910aMods.fnCachePlaceKeepsTheLastPlacedInOrder
