/-
  No cell of these rows narrows 'for every input' (looked for: loops, veiled, ifaces, maps, wideKeys, modest, calm, conditions, laid).
  DERIVED. THE GIVEN ROWS OF THIS SEAT. 3 by the template 'for every input the law returns true; each argument reads behind the call as it read before'; 0 by the template 'total and deterministic' (their statements: Qxb6608968aModsTotals.lean).
  GIVEN WITH THE SEED: the statements are not yours to turn. If you find one false, say at which input.
  Laid BY PROGRAM, IN A SANDBOX (cutbox-rows.mjs): the forced cells as the released guide's own fill.sh prints them over the translation 9633d6e06fd38e2e… (all of the seat's roots in one cut). By AI agents, Wed Nov 11 2026. No macro, syntax, notation, axiom, sorry.
-/
import Derived.Test.Qxb6608968aModsChecked
import GoSem.Claim
import GoSem.ClaimJoined
import GoSem.ClaimMapViews
import Derived.JoinedTies
import Derived.KernelRfl
namespace Go.Proofs.Qxb6608968aMods
/- THE CELL 'sum', in the pinned program and in every row, IS THE sha256 OF THE DUMP (.gsa) THAT Qxb6608968aModsProg.lean LOADS. Nothing in Lean hashes anything: it is a label: what it is worth is what the hold of that sum in a sandbox is worth. -/
noncomputable def Trym.pinned : Pinned := { name := "qxb6608968amods", sum := "9633d6e06fd38e2e7af2f9080d5f0703b15f8be5aea56c871d9b28702fd130eb", checked := Trym.checked }
namespace Rows
def none {H : Type} : Left H := { results := [], args := [] }

/-- 'zzlaws_pkg_limiter_b1.FnSpareForSixteenMoreBucketsKeepOneMoreSpare': WHATEVER THE INPUT: true; the input reads as it did. -/
def fnSpareForSixteenMoreBucketsKeepOneMoreSpareSpec : ChangeSpec := { name := "fnSpareForSixteenMoreBucketsKeepOneMoreSpare", fn := fun _ => fun
  | [d] => { results := [.lit (.bool true)], args := [d] }
  | _ => none }
def fnSpareForSixteenMoreBucketsKeepOneMoreSpareRow : OpenClaim := { program := "qxb6608968amods", sum := "9633d6e06fd38e2e7af2f9080d5f0703b15f8be5aea56c871d9b28702fd130eb", func := "example.com/tidegate/tidegate/zzlaws_pkg_limiter_b1.FnSpareForSixteenMoreBucketsKeepOneMoreSpare", spec := "fnSpareForSixteenMoreBucketsKeepOneMoreSpare", make := .lifted ["publicsums"], apart := false }
def FnSpareForSixteenMoreBucketsKeepOneMoreSpareSaid : Prop := fnSpareForSixteenMoreBucketsKeepOneMoreSpareRow.holds Trym.pinned (OpenSpec.ofChange fnSpareForSixteenMoreBucketsKeepOneMoreSpareSpec)

/-- ITS FALSE NEIGHBOUR: 'it returns false'. Refute it at one input. -/
def fnSpareForSixteenMoreBucketsKeepOneMoreSpareWrong : ChangeSpec := { name := "fnSpareForSixteenMoreBucketsKeepOneMoreSpare", fn := fun _ => fun
  | [d] => { results := [.lit (.bool false)], args := [d] }
  | _ => none }
def FnSpareForSixteenMoreBucketsKeepOneMoreSpareWrongFalsely : Prop := fnSpareForSixteenMoreBucketsKeepOneMoreSpareRow.holds Trym.pinned (OpenSpec.ofChange fnSpareForSixteenMoreBucketsKeepOneMoreSpareWrong)

/-- 'zzlaws_pkg_limiter_b1.FnSpareForGrowsWithTheListAndIsZeroExactlyForShortOnes': WHATEVER THE INPUT: true; the input reads as it did. -/
def fnSpareForGrowsWithTheListAndIsZeroExactlyForShortOnesSpec : ChangeSpec := { name := "fnSpareForGrowsWithTheListAndIsZeroExactlyForShortOnes", fn := fun _ => fun
  | [d1, d2] => { results := [.lit (.bool true)], args := [d1, d2] }
  | _ => none }
def fnSpareForGrowsWithTheListAndIsZeroExactlyForShortOnesRow : OpenClaim := { program := "qxb6608968amods", sum := "9633d6e06fd38e2e7af2f9080d5f0703b15f8be5aea56c871d9b28702fd130eb", func := "example.com/tidegate/tidegate/zzlaws_pkg_limiter_b1.FnSpareForGrowsWithTheListAndIsZeroExactlyForShortOnes", spec := "fnSpareForGrowsWithTheListAndIsZeroExactlyForShortOnes", make := .lifted ["publicsums"], apart := false }
def FnSpareForGrowsWithTheListAndIsZeroExactlyForShortOnesSaid : Prop := fnSpareForGrowsWithTheListAndIsZeroExactlyForShortOnesRow.holds Trym.pinned (OpenSpec.ofChange fnSpareForGrowsWithTheListAndIsZeroExactlyForShortOnesSpec)

/-- ITS FALSE NEIGHBOUR: 'it returns false'. Refute it at one input. -/
def fnSpareForGrowsWithTheListAndIsZeroExactlyForShortOnesWrong : ChangeSpec := { name := "fnSpareForGrowsWithTheListAndIsZeroExactlyForShortOnes", fn := fun _ => fun
  | [d1, d2] => { results := [.lit (.bool false)], args := [d1, d2] }
  | _ => none }
def FnSpareForGrowsWithTheListAndIsZeroExactlyForShortOnesWrongFalsely : Prop := fnSpareForGrowsWithTheListAndIsZeroExactlyForShortOnesRow.holds Trym.pinned (OpenSpec.ofChange fnSpareForGrowsWithTheListAndIsZeroExactlyForShortOnesWrong)

/-- 'zzlaws_pkg_limiter_b1.FnExactUsedIsCappedCostOfTheWindow': WHATEVER THE INPUT: true; the input reads as it did. -/
def fnExactUsedIsCappedCostOfTheWindowSpec : ChangeSpec := { name := "fnExactUsedIsCappedCostOfTheWindow", fn := fun _ => fun
  | [d1, d2, d3, d4, d5, d6, d7] => { results := [.lit (.bool true)], args := [d1, d2, d3, d4, d5, d6, d7] }
  | _ => none }
def fnExactUsedIsCappedCostOfTheWindowRow : OpenClaim := { program := "qxb6608968amods", sum := "9633d6e06fd38e2e7af2f9080d5f0703b15f8be5aea56c871d9b28702fd130eb", func := "example.com/tidegate/tidegate/zzlaws_pkg_limiter_b1.FnExactUsedIsCappedCostOfTheWindow", spec := "fnExactUsedIsCappedCostOfTheWindow", unfollowed := true, recurses := true, make := .lifted ["publicsums"], apart := false }
def FnExactUsedIsCappedCostOfTheWindowSaid : Prop := fnExactUsedIsCappedCostOfTheWindowRow.holds Trym.pinned (OpenSpec.ofChange fnExactUsedIsCappedCostOfTheWindowSpec)

/-- ITS FALSE NEIGHBOUR: 'it returns false'. Refute it at one input. -/
def fnExactUsedIsCappedCostOfTheWindowWrong : ChangeSpec := { name := "fnExactUsedIsCappedCostOfTheWindow", fn := fun _ => fun
  | [d1, d2, d3, d4, d5, d6, d7] => { results := [.lit (.bool false)], args := [d1, d2, d3, d4, d5, d6, d7] }
  | _ => none }
def FnExactUsedIsCappedCostOfTheWindowWrongFalsely : Prop := fnExactUsedIsCappedCostOfTheWindowRow.holds Trym.pinned (OpenSpec.ofChange fnExactUsedIsCappedCostOfTheWindowWrong)

end Rows
end Go.Proofs.Qxb6608968aMods
