/-
  No cell of these rows narrows 'for every input' (looked for: loops, veiled, ifaces, maps, wideKeys, modest, calm, conditions, laid).
  DERIVED. THE GIVEN ROWS OF THIS SEAT. 3 by the template 'for every input the law returns true; each argument reads behind the call as it read before'; 0 by the template 'total and deterministic' (their statements: Qxb6604516aModsTotals.lean).
  GIVEN WITH THE SEED: the statements are not yours to turn. If you find one false, say at which input.
  Laid BY PROGRAM, IN A SANDBOX (cutbox-rows.mjs): the forced cells as the released guide's own fill.sh prints them over the translation fb7475491c2d8c0d… (all of the seat's roots in one cut). By AI agents, Wed Nov 11 2026. No macro, syntax, notation, axiom, sorry.
-/
import Derived.Test.Qxb6604516aModsChecked
import GoSem.Claim
import GoSem.ClaimJoined
import GoSem.ClaimMapViews
import Derived.JoinedTies
import Derived.KernelRfl
namespace Go.Proofs.Qxb6604516aMods
/- THE CELL 'sum', in the pinned program and in every row, IS THE sha256 OF THE DUMP (.gsa) THAT Qxb6604516aModsProg.lean LOADS. Nothing in Lean hashes anything: it is a label: what it is worth is what the hold of that sum in a sandbox is worth. -/
noncomputable def Trym.pinned : Pinned := { name := "qxb6604516amods", sum := "fb7475491c2d8c0deed43fd8e9a0fb180302a4d210a3ebf077a98b290c798952", checked := Trym.checked }
namespace Rows
def none {H : Type} : Left H := { results := [], args := [] }

/-- 'zzlaws_internal_export_b1.FnModeACLRebuildsPermissionBits': WHATEVER THE INPUT: true; the input reads as it did. -/
def fnModeACLRebuildsPermissionBitsSpec : ChangeSpec := { name := "fnModeACLRebuildsPermissionBits", fn := fun _ => fun
  | [d] => { results := [.lit (.bool true)], args := [d] }
  | _ => none }
def fnModeACLRebuildsPermissionBitsRow : OpenClaim := { program := "qxb6604516amods", sum := "fb7475491c2d8c0deed43fd8e9a0fb180302a4d210a3ebf077a98b290c798952", func := "example.com/rollkeep/rollkeep/zzlaws_internal_export_b1.FnModeACLRebuildsPermissionBits", spec := "fnModeACLRebuildsPermissionBits", plainKeys := false, make := .lifted ["publicsums"], apart := false }
def FnModeACLRebuildsPermissionBitsSaid : Prop := fnModeACLRebuildsPermissionBitsRow.holds Trym.pinned (OpenSpec.ofChange fnModeACLRebuildsPermissionBitsSpec)

/-- ITS FALSE NEIGHBOUR: 'it returns false'. Refute it at one input. -/
def fnModeACLRebuildsPermissionBitsWrong : ChangeSpec := { name := "fnModeACLRebuildsPermissionBits", fn := fun _ => fun
  | [d] => { results := [.lit (.bool false)], args := [d] }
  | _ => none }
def FnModeACLRebuildsPermissionBitsWrongFalsely : Prop := fnModeACLRebuildsPermissionBitsRow.holds Trym.pinned (OpenSpec.ofChange fnModeACLRebuildsPermissionBitsWrong)

/-- 'zzlaws_internal_export_b1.FnModeACLGrantsWhatLsShows': WHATEVER THE INPUT: true; the input reads as it did. -/
def fnModeACLGrantsWhatLsShowsSpec : ChangeSpec := { name := "fnModeACLGrantsWhatLsShows", fn := fun _ => fun
  | [d] => { results := [.lit (.bool true)], args := [d] }
  | _ => none }
def fnModeACLGrantsWhatLsShowsRow : OpenClaim := { program := "qxb6604516amods", sum := "fb7475491c2d8c0deed43fd8e9a0fb180302a4d210a3ebf077a98b290c798952", func := "example.com/rollkeep/rollkeep/zzlaws_internal_export_b1.FnModeACLGrantsWhatLsShows", spec := "fnModeACLGrantsWhatLsShows", plainKeys := false, make := .lifted ["publicsums"], apart := false }
def FnModeACLGrantsWhatLsShowsSaid : Prop := fnModeACLGrantsWhatLsShowsRow.holds Trym.pinned (OpenSpec.ofChange fnModeACLGrantsWhatLsShowsSpec)

/-- ITS FALSE NEIGHBOUR: 'it returns false'. Refute it at one input. -/
def fnModeACLGrantsWhatLsShowsWrong : ChangeSpec := { name := "fnModeACLGrantsWhatLsShows", fn := fun _ => fun
  | [d] => { results := [.lit (.bool false)], args := [d] }
  | _ => none }
def FnModeACLGrantsWhatLsShowsWrongFalsely : Prop := fnModeACLGrantsWhatLsShowsRow.holds Trym.pinned (OpenSpec.ofChange fnModeACLGrantsWhatLsShowsWrong)

/-- 'zzlaws_internal_export_b1.FnStagingBesideHiddenAndReversible': WHATEVER THE INPUT: true; the input reads as it did. -/
def fnStagingBesideHiddenAndReversibleSpec : ChangeSpec := { name := "fnStagingBesideHiddenAndReversible", fn := fun _ => fun
  | [d1, d2] => { results := [.lit (.bool true)], args := [d1, d2] }
  | _ => none }
def fnStagingBesideHiddenAndReversibleRow : OpenClaim := { program := "qxb6604516amods", sum := "fb7475491c2d8c0deed43fd8e9a0fb180302a4d210a3ebf077a98b290c798952", func := "example.com/rollkeep/rollkeep/zzlaws_internal_export_b1.FnStagingBesideHiddenAndReversible", spec := "fnStagingBesideHiddenAndReversible", inPlace := ["internal/bytealg.IndexByteString", "internal/abi.NoEscape", "internal/bytealg.MakeNoZero"], plainKeys := false, make := .lifted ["publicsums"], apart := false }
def FnStagingBesideHiddenAndReversibleSaid : Prop := fnStagingBesideHiddenAndReversibleRow.holds Trym.pinned (OpenSpec.ofChange fnStagingBesideHiddenAndReversibleSpec)

/-- ITS FALSE NEIGHBOUR: 'it returns false'. Refute it at one input. -/
def fnStagingBesideHiddenAndReversibleWrong : ChangeSpec := { name := "fnStagingBesideHiddenAndReversible", fn := fun _ => fun
  | [d1, d2] => { results := [.lit (.bool false)], args := [d1, d2] }
  | _ => none }
def FnStagingBesideHiddenAndReversibleWrongFalsely : Prop := fnStagingBesideHiddenAndReversibleRow.holds Trym.pinned (OpenSpec.ofChange fnStagingBesideHiddenAndReversibleWrong)

end Rows
end Go.Proofs.Qxb6604516aMods
