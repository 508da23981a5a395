/-
  No cell of these rows narrows 'for every input' (looked for: loops, veiled, ifaces, maps, wideKeys, modest, calm, conditions, laid).
  DERIVED. THE GIVEN ROWS OF THIS SEAT. 4 by the template 'for every input the law returns true; each argument reads behind the call as it read before'; 0 by the template 'total and deterministic' (their statements: Qxb6603910aModsTotals.lean).
  GIVEN WITH THE SEED: the statements are not yours to turn. If you find one false, say at which input.
  Laid BY PROGRAM, IN A SANDBOX (cutbox-rows.mjs): the forced cells as the released guide's own fill.sh prints them over the translation 1021b04dced1e2c2… (all of the seat's roots in one cut). By AI agents, Wed Nov 11 2026. No macro, syntax, notation, axiom, sorry.
-/
import Derived.Test.Qxb6603910aModsChecked
import GoSem.Claim
import GoSem.ClaimJoined
import GoSem.ClaimMapViews
import Derived.JoinedTies
import Derived.KernelRfl
namespace Go.Proofs.Qxb6603910aMods
/- THE CELL 'sum', in the pinned program and in every row, IS THE sha256 OF THE DUMP (.gsa) THAT Qxb6603910aModsProg.lean LOADS. Nothing in Lean hashes anything: it is a label: what it is worth is what the hold of that sum in a sandbox is worth. -/
noncomputable def Trym.pinned : Pinned := { name := "qxb6603910amods", sum := "1021b04dced1e2c22c9d3815b43e8818a806eeee50345436e03157f0bf34a045", checked := Trym.checked }
namespace Rows
def none {H : Type} : Left H := { results := [], args := [] }

/-- 'zzlaws_root_b1.FnNumberListAddAppendsInChunksAndIndexesLast': WHATEVER THE INPUT: true; the input reads as it did. -/
def fnNumberListAddAppendsInChunksAndIndexesLastSpec : ChangeSpec := { name := "fnNumberListAddAppendsInChunksAndIndexesLast", fn := fun _ => fun
  | [d1, d2, d3, d4, d5, d6, d7, d8, d9] => { results := [.lit (.bool true)], args := [d1, d2, d3, d4, d5, d6, d7, d8, d9] }
  | _ => none }
def fnNumberListAddAppendsInChunksAndIndexesLastRow : OpenClaim := { program := "qxb6603910amods", sum := "1021b04dced1e2c22c9d3815b43e8818a806eeee50345436e03157f0bf34a045", func := "example.com/frugal-sequences/frugal-sequences/zzlaws_root_b1.FnNumberListAddAppendsInChunksAndIndexesLast", spec := "fnNumberListAddAppendsInChunksAndIndexesLast", plainKeys := false, make := .lifted ["publicsums"], apart := false }
def FnNumberListAddAppendsInChunksAndIndexesLastSaid : Prop := fnNumberListAddAppendsInChunksAndIndexesLastRow.holds Trym.pinned (OpenSpec.ofChange fnNumberListAddAppendsInChunksAndIndexesLastSpec)

/-- ITS FALSE NEIGHBOUR: 'it returns false'. Refute it at one input. -/
def fnNumberListAddAppendsInChunksAndIndexesLastWrong : ChangeSpec := { name := "fnNumberListAddAppendsInChunksAndIndexesLast", fn := fun _ => fun
  | [d1, d2, d3, d4, d5, d6, d7, d8, d9] => { results := [.lit (.bool false)], args := [d1, d2, d3, d4, d5, d6, d7, d8, d9] }
  | _ => none }
def FnNumberListAddAppendsInChunksAndIndexesLastWrongFalsely : Prop := fnNumberListAddAppendsInChunksAndIndexesLastRow.holds Trym.pinned (OpenSpec.ofChange fnNumberListAddAppendsInChunksAndIndexesLastWrong)

/-- 'zzlaws_root_b1.FnKindSeqsTookWhole': WHATEVER THE INPUT: true; the input reads as it did. -/
def fnKindSeqsTookWholeSpec : ChangeSpec := { name := "fnKindSeqsTookWhole", fn := fun _ => fun
  | [d1, d2, d3, d4, d5, d6, d7, d8, d9] => { results := [.lit (.bool true)], args := [d1, d2, d3, d4, d5, d6, d7, d8, d9] }
  | _ => none }
def fnKindSeqsTookWholeRow : OpenClaim := { program := "qxb6603910amods", sum := "1021b04dced1e2c22c9d3815b43e8818a806eeee50345436e03157f0bf34a045", func := "example.com/frugal-sequences/frugal-sequences/zzlaws_root_b1.FnKindSeqsTookWhole", spec := "fnKindSeqsTookWhole", plainKeys := false, make := .lifted ["publicsums"], apart := false }
def FnKindSeqsTookWholeSaid : Prop := fnKindSeqsTookWholeRow.holds Trym.pinned (OpenSpec.ofChange fnKindSeqsTookWholeSpec)

/-- ITS FALSE NEIGHBOUR: 'it returns false'. Refute it at one input. -/
def fnKindSeqsTookWholeWrong : ChangeSpec := { name := "fnKindSeqsTookWhole", fn := fun _ => fun
  | [d1, d2, d3, d4, d5, d6, d7, d8, d9] => { results := [.lit (.bool false)], args := [d1, d2, d3, d4, d5, d6, d7, d8, d9] }
  | _ => none }
def FnKindSeqsTookWholeWrongFalsely : Prop := fnKindSeqsTookWholeRow.holds Trym.pinned (OpenSpec.ofChange fnKindSeqsTookWholeWrong)

/-- 'zzlaws_root_b1.FnKindSeqsRoundsDoubleAndBoundTheUsual': WHATEVER THE INPUT: true; the input reads as it did. -/
def fnKindSeqsRoundsDoubleAndBoundTheUsualSpec : ChangeSpec := { name := "fnKindSeqsRoundsDoubleAndBoundTheUsual", fn := fun _ => fun
  | [d1, d2, d3] => { results := [.lit (.bool true)], args := [d1, d2, d3] }
  | _ => none }
def fnKindSeqsRoundsDoubleAndBoundTheUsualRow : OpenClaim := { program := "qxb6603910amods", sum := "1021b04dced1e2c22c9d3815b43e8818a806eeee50345436e03157f0bf34a045", func := "example.com/frugal-sequences/frugal-sequences/zzlaws_root_b1.FnKindSeqsRoundsDoubleAndBoundTheUsual", spec := "fnKindSeqsRoundsDoubleAndBoundTheUsual", plainKeys := false, make := .lifted ["publicsums"], apart := false }
def FnKindSeqsRoundsDoubleAndBoundTheUsualSaid : Prop := fnKindSeqsRoundsDoubleAndBoundTheUsualRow.holds Trym.pinned (OpenSpec.ofChange fnKindSeqsRoundsDoubleAndBoundTheUsualSpec)

/-- ITS FALSE NEIGHBOUR: 'it returns false'. Refute it at one input. -/
def fnKindSeqsRoundsDoubleAndBoundTheUsualWrong : ChangeSpec := { name := "fnKindSeqsRoundsDoubleAndBoundTheUsual", fn := fun _ => fun
  | [d1, d2, d3] => { results := [.lit (.bool false)], args := [d1, d2, d3] }
  | _ => none }
def FnKindSeqsRoundsDoubleAndBoundTheUsualWrongFalsely : Prop := fnKindSeqsRoundsDoubleAndBoundTheUsualRow.holds Trym.pinned (OpenSpec.ofChange fnKindSeqsRoundsDoubleAndBoundTheUsualWrong)

/-- 'zzlaws_root_b1.FnCachePlaceKeepsTheLastPlacedInOrder': WHATEVER THE INPUT: true; the input reads as it did. -/
def fnCachePlaceKeepsTheLastPlacedInOrderSpec : ChangeSpec := { name := "fnCachePlaceKeepsTheLastPlacedInOrder", fn := fun _ => fun
  | [d1, d2, d3, d4, d5] => { results := [.lit (.bool true)], args := [d1, d2, d3, d4, d5] }
  | _ => none }
def fnCachePlaceKeepsTheLastPlacedInOrderRow : OpenClaim := { program := "qxb6603910amods", sum := "1021b04dced1e2c22c9d3815b43e8818a806eeee50345436e03157f0bf34a045", func := "example.com/frugal-sequences/frugal-sequences/zzlaws_root_b1.FnCachePlaceKeepsTheLastPlacedInOrder", spec := "fnCachePlaceKeepsTheLastPlacedInOrder", plainKeys := false, make := .lifted ["publicsums"], apart := false }
def FnCachePlaceKeepsTheLastPlacedInOrderSaid : Prop := fnCachePlaceKeepsTheLastPlacedInOrderRow.holds Trym.pinned (OpenSpec.ofChange fnCachePlaceKeepsTheLastPlacedInOrderSpec)

/-- ITS FALSE NEIGHBOUR: 'it returns false'. Refute it at one input. -/
def fnCachePlaceKeepsTheLastPlacedInOrderWrong : ChangeSpec := { name := "fnCachePlaceKeepsTheLastPlacedInOrder", fn := fun _ => fun
  | [d1, d2, d3, d4, d5] => { results := [.lit (.bool false)], args := [d1, d2, d3, d4, d5] }
  | _ => none }
def FnCachePlaceKeepsTheLastPlacedInOrderWrongFalsely : Prop := fnCachePlaceKeepsTheLastPlacedInOrderRow.holds Trym.pinned (OpenSpec.ofChange fnCachePlaceKeepsTheLastPlacedInOrderWrong)

end Rows
end Go.Proofs.Qxb6603910aMods
