/-
  No cell of these rows narrows 'for every input' (looked for: loops, veiled, ifaces, maps, wideKeys, modest, calm, conditions, laid).
  DERIVED. THE GIVEN ROWS OF THIS SEAT. 5 by the template 'for every input the law returns true; each argument reads behind the call as it read before'; 0 by the template 'total and deterministic' (their statements: Qxb6603438aModsTotals.lean).
  GIVEN WITH THE SEED: the statements are not yours to turn. If you find one false, say at which input.
  Laid BY PROGRAM, IN A SANDBOX (cutbox-rows.mjs): the forced cells as the released guide's own fill.sh prints them over the translation 0de56bcbedeba7ab… (all of the seat's roots in one cut). By AI agents, Wed Nov 11 2026. No macro, syntax, notation, axiom, sorry.
-/
import Derived.Test.Qxb6603438aModsChecked
import GoSem.Claim
import GoSem.ClaimJoined
import GoSem.ClaimMapViews
import Derived.JoinedTies
import Derived.KernelRfl
namespace Go.Proofs.Qxb6603438aMods
/- THE CELL 'sum', in the pinned program and in every row, IS THE sha256 OF THE DUMP (.gsa) THAT Qxb6603438aModsProg.lean LOADS. Nothing in Lean hashes anything: it is a label: what it is worth is what the hold of that sum in a sandbox is worth. -/
noncomputable def Trym.pinned : Pinned := { name := "qxb6603438amods", sum := "0de56bcbedeba7ab34fdfc4c2fe402efe82427f563f7a3cd78f0d15738ea2b55", checked := Trym.checked }
namespace Rows
def none {H : Type} : Left H := { results := [], args := [] }

/-- 'zzlaws_internal_policy_b1.FnAuthorityIsFirstMarkToNextSlash': WHATEVER THE INPUT: true; the input reads as it did. -/
def fnAuthorityIsFirstMarkToNextSlashSpec : ChangeSpec := { name := "fnAuthorityIsFirstMarkToNextSlash", fn := fun _ => fun
  | [d] => { results := [.lit (.bool true)], args := [d] }
  | _ => none }
def fnAuthorityIsFirstMarkToNextSlashRow : OpenClaim := { program := "qxb6603438amods", sum := "0de56bcbedeba7ab34fdfc4c2fe402efe82427f563f7a3cd78f0d15738ea2b55", func := "example.com/provizo/provizo/zzlaws_internal_policy_b1.FnAuthorityIsFirstMarkToNextSlash", spec := "fnAuthorityIsFirstMarkToNextSlash", inPlace := ["internal/bytealg.IndexByteString", "internal/bytealg.IndexString"], named := ["internal/bytealg.MaxLen"], plainKeys := false, make := .lifted ["publicsums"], apart := false }
def FnAuthorityIsFirstMarkToNextSlashSaid : Prop := fnAuthorityIsFirstMarkToNextSlashRow.holds Trym.pinned (OpenSpec.ofChange fnAuthorityIsFirstMarkToNextSlashSpec)

/-- ITS FALSE NEIGHBOUR: 'it returns false'. Refute it at one input. -/
def fnAuthorityIsFirstMarkToNextSlashWrong : ChangeSpec := { name := "fnAuthorityIsFirstMarkToNextSlash", fn := fun _ => fun
  | [d] => { results := [.lit (.bool false)], args := [d] }
  | _ => none }
def FnAuthorityIsFirstMarkToNextSlashWrongFalsely : Prop := fnAuthorityIsFirstMarkToNextSlashRow.holds Trym.pinned (OpenSpec.ofChange fnAuthorityIsFirstMarkToNextSlashWrong)

/-- 'zzlaws_internal_policy_b1.FnAuthorityShiftsPastPrefixWithoutColon': WHATEVER THE INPUT: true; the input reads as it did. -/
def fnAuthorityShiftsPastPrefixWithoutColonSpec : ChangeSpec := { name := "fnAuthorityShiftsPastPrefixWithoutColon", fn := fun _ => fun
  | [d1, d2] => { results := [.lit (.bool true)], args := [d1, d2] }
  | _ => none }
def fnAuthorityShiftsPastPrefixWithoutColonRow : OpenClaim := { program := "qxb6603438amods", sum := "0de56bcbedeba7ab34fdfc4c2fe402efe82427f563f7a3cd78f0d15738ea2b55", func := "example.com/provizo/provizo/zzlaws_internal_policy_b1.FnAuthorityShiftsPastPrefixWithoutColon", spec := "fnAuthorityShiftsPastPrefixWithoutColon", inPlace := ["internal/bytealg.IndexByteString", "internal/bytealg.IndexString"], named := ["internal/bytealg.MaxLen"], plainKeys := false, make := .lifted ["publicsums"], apart := false }
def FnAuthorityShiftsPastPrefixWithoutColonSaid : Prop := fnAuthorityShiftsPastPrefixWithoutColonRow.holds Trym.pinned (OpenSpec.ofChange fnAuthorityShiftsPastPrefixWithoutColonSpec)

/-- ITS FALSE NEIGHBOUR: 'it returns false'. Refute it at one input. -/
def fnAuthorityShiftsPastPrefixWithoutColonWrong : ChangeSpec := { name := "fnAuthorityShiftsPastPrefixWithoutColon", fn := fun _ => fun
  | [d1, d2] => { results := [.lit (.bool false)], args := [d1, d2] }
  | _ => none }
def FnAuthorityShiftsPastPrefixWithoutColonWrongFalsely : Prop := fnAuthorityShiftsPastPrefixWithoutColonRow.holds Trym.pinned (OpenSpec.ofChange fnAuthorityShiftsPastPrefixWithoutColonWrong)

/-- 'zzlaws_internal_policy_b1.FnAuthorityIgnoresTextPastItsSlash': WHATEVER THE INPUT: true; the input reads as it did. -/
def fnAuthorityIgnoresTextPastItsSlashSpec : ChangeSpec := { name := "fnAuthorityIgnoresTextPastItsSlash", fn := fun _ => fun
  | [d1, d2] => { results := [.lit (.bool true)], args := [d1, d2] }
  | _ => none }
def fnAuthorityIgnoresTextPastItsSlashRow : OpenClaim := { program := "qxb6603438amods", sum := "0de56bcbedeba7ab34fdfc4c2fe402efe82427f563f7a3cd78f0d15738ea2b55", func := "example.com/provizo/provizo/zzlaws_internal_policy_b1.FnAuthorityIgnoresTextPastItsSlash", spec := "fnAuthorityIgnoresTextPastItsSlash", inPlace := ["internal/bytealg.IndexByteString", "internal/bytealg.IndexString"], named := ["internal/bytealg.MaxLen"], plainKeys := false, make := .lifted ["publicsums"], apart := false }
def FnAuthorityIgnoresTextPastItsSlashSaid : Prop := fnAuthorityIgnoresTextPastItsSlashRow.holds Trym.pinned (OpenSpec.ofChange fnAuthorityIgnoresTextPastItsSlashSpec)

/-- ITS FALSE NEIGHBOUR: 'it returns false'. Refute it at one input. -/
def fnAuthorityIgnoresTextPastItsSlashWrong : ChangeSpec := { name := "fnAuthorityIgnoresTextPastItsSlash", fn := fun _ => fun
  | [d1, d2] => { results := [.lit (.bool false)], args := [d1, d2] }
  | _ => none }
def FnAuthorityIgnoresTextPastItsSlashWrongFalsely : Prop := fnAuthorityIgnoresTextPastItsSlashRow.holds Trym.pinned (OpenSpec.ofChange fnAuthorityIgnoresTextPastItsSlashWrong)

/-- 'zzlaws_internal_policy_b1.FnFilerMatchesFirstFilingModel': WHATEVER THE INPUT: true; the input reads as it did. -/
def fnFilerMatchesFirstFilingModelSpec : ChangeSpec := { name := "fnFilerMatchesFirstFilingModel", fn := fun _ => fun
  | [d] => { results := [.lit (.bool true)], args := [d] }
  | _ => none }
def fnFilerMatchesFirstFilingModelRow : OpenClaim := { program := "qxb6603438amods", sum := "0de56bcbedeba7ab34fdfc4c2fe402efe82427f563f7a3cd78f0d15738ea2b55", func := "example.com/provizo/provizo/zzlaws_internal_policy_b1.FnFilerMatchesFirstFilingModel", spec := "fnFilerMatchesFirstFilingModel", plainKeys := false, make := .lifted ["publicsums"], apart := false }
def FnFilerMatchesFirstFilingModelSaid : Prop := fnFilerMatchesFirstFilingModelRow.holds Trym.pinned (OpenSpec.ofChange fnFilerMatchesFirstFilingModelSpec)

/-- ITS FALSE NEIGHBOUR: 'it returns false'. Refute it at one input. -/
def fnFilerMatchesFirstFilingModelWrong : ChangeSpec := { name := "fnFilerMatchesFirstFilingModel", fn := fun _ => fun
  | [d] => { results := [.lit (.bool false)], args := [d] }
  | _ => none }
def FnFilerMatchesFirstFilingModelWrongFalsely : Prop := fnFilerMatchesFirstFilingModelRow.holds Trym.pinned (OpenSpec.ofChange fnFilerMatchesFirstFilingModelWrong)

/-- 'zzlaws_internal_policy_b1.FnFilerRefilingAddsNoPlaces': WHATEVER THE INPUT: true; the input reads as it did. -/
def fnFilerRefilingAddsNoPlacesSpec : ChangeSpec := { name := "fnFilerRefilingAddsNoPlaces", fn := fun _ => fun
  | [d] => { results := [.lit (.bool true)], args := [d] }
  | _ => none }
def fnFilerRefilingAddsNoPlacesRow : OpenClaim := { program := "qxb6603438amods", sum := "0de56bcbedeba7ab34fdfc4c2fe402efe82427f563f7a3cd78f0d15738ea2b55", func := "example.com/provizo/provizo/zzlaws_internal_policy_b1.FnFilerRefilingAddsNoPlaces", spec := "fnFilerRefilingAddsNoPlaces", plainKeys := false, make := .lifted ["publicsums"], apart := false }
def FnFilerRefilingAddsNoPlacesSaid : Prop := fnFilerRefilingAddsNoPlacesRow.holds Trym.pinned (OpenSpec.ofChange fnFilerRefilingAddsNoPlacesSpec)

/-- ITS FALSE NEIGHBOUR: 'it returns false'. Refute it at one input. -/
def fnFilerRefilingAddsNoPlacesWrong : ChangeSpec := { name := "fnFilerRefilingAddsNoPlaces", fn := fun _ => fun
  | [d] => { results := [.lit (.bool false)], args := [d] }
  | _ => none }
def FnFilerRefilingAddsNoPlacesWrongFalsely : Prop := fnFilerRefilingAddsNoPlacesRow.holds Trym.pinned (OpenSpec.ofChange fnFilerRefilingAddsNoPlacesWrong)

end Rows
end Go.Proofs.Qxb6603438aMods
