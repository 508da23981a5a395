/-
  No cell of these rows narrows 'for every input' (looked for: loops, veiled, ifaces, maps, wideKeys, modest, calm, conditions, laid).
  DERIVED. THE GIVEN ROWS OF THIS SEAT. 1 by the template 'for every input the law returns true; each argument reads behind the call as it read before'; 0 by the template 'total and deterministic' (their statements: Qxb6603980aModsTotals.lean).
  GIVEN WITH THE SEED: the statements are not yours to turn. If you find one false, say at which input.
  Laid BY PROGRAM, IN A SANDBOX (cutbox-rows.mjs): the forced cells as the released guide's own fill.sh prints them over the translation f79abcecb67dc529… (all of the seat's roots in one cut). By AI agents, Wed Nov 11 2026. No macro, syntax, notation, axiom, sorry.
-/
import Derived.Test.Qxb6603980aModsChecked
import GoSem.Claim
import GoSem.ClaimJoined
import GoSem.ClaimMapViews
import Derived.JoinedTies
import Derived.KernelRfl
namespace Go.Proofs.Qxb6603980aMods
/- THE CELL 'sum', in the pinned program and in every row, IS THE sha256 OF THE DUMP (.gsa) THAT Qxb6603980aModsProg.lean LOADS. Nothing in Lean hashes anything: it is a label: what it is worth is what the hold of that sum in a sandbox is worth. -/
noncomputable def Trym.pinned : Pinned := { name := "qxb6603980amods", sum := "f79abcecb67dc52911c5d09f614bbe9c58f3a859a4ce54b016f1f749b67009c6", checked := Trym.checked }
namespace Rows
def none {H : Type} : Left H := { results := [], args := [] }

/-- 'zzlaws_root_b1.FnClaimSetHoldsExactlyTheDistinctClaims': WHATEVER THE INPUT: true; the input reads as it did. -/
def fnClaimSetHoldsExactlyTheDistinctClaimsSpec : ChangeSpec := { name := "fnClaimSetHoldsExactlyTheDistinctClaims", fn := fun _ => fun
  | [d1, d2] => { results := [.lit (.bool true)], args := [d1, d2] }
  | _ => none }
def fnClaimSetHoldsExactlyTheDistinctClaimsRow : OpenClaim := { program := "qxb6603980amods", sum := "f79abcecb67dc52911c5d09f614bbe9c58f3a859a4ce54b016f1f749b67009c6", func := "example.com/members-by-key/members-by-key/zzlaws_root_b1.FnClaimSetHoldsExactlyTheDistinctClaims", spec := "fnClaimSetHoldsExactlyTheDistinctClaims", plainKeys := false, make := .lifted ["publicsums"], apart := false }
def FnClaimSetHoldsExactlyTheDistinctClaimsSaid : Prop := fnClaimSetHoldsExactlyTheDistinctClaimsRow.holds Trym.pinned (OpenSpec.ofChange fnClaimSetHoldsExactlyTheDistinctClaimsSpec)

/-- ITS FALSE NEIGHBOUR: 'it returns false'. Refute it at one input. -/
def fnClaimSetHoldsExactlyTheDistinctClaimsWrong : ChangeSpec := { name := "fnClaimSetHoldsExactlyTheDistinctClaims", fn := fun _ => fun
  | [d1, d2] => { results := [.lit (.bool false)], args := [d1, d2] }
  | _ => none }
def FnClaimSetHoldsExactlyTheDistinctClaimsWrongFalsely : Prop := fnClaimSetHoldsExactlyTheDistinctClaimsRow.holds Trym.pinned (OpenSpec.ofChange fnClaimSetHoldsExactlyTheDistinctClaimsWrong)

end Rows
end Go.Proofs.Qxb6603980aMods
