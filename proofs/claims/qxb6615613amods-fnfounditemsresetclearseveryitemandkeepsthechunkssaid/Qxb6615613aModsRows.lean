/-
  No cell of these rows narrows 'for every input' (looked for: loops, veiled, ifaces, maps, wideKeys, modest, calm, conditions, laid).
  DERIVED. THE GIVEN ROWS OF THIS SEAT. 3 by the template 'for every input the law returns true; each argument reads behind the call as it read before'; 0 by the template 'total and deterministic' (their statements: Qxb6615613aModsTotals.lean).
  GIVEN WITH THE SEED: the statements are not yours to turn. If you find one false, say at which input.
  Laid BY PROGRAM, IN A SANDBOX (cutbox-rows.mjs): the forced cells as the released guide's own fill.sh prints them over the translation 26eac669fa1cdc52… (all of the seat's roots in one cut). By AI agents, Wed Nov 11 2026. No macro, syntax, notation, axiom, sorry.
-/
import Derived.Test.Qxb6615613aModsChecked
import GoSem.Claim
import GoSem.ClaimJoined
import GoSem.ClaimMapViews
import Derived.JoinedTies
import Derived.KernelRfl
namespace Go.Proofs.Qxb6615613aMods
/- THE CELL 'sum', in the pinned program and in every row, IS THE sha256 OF THE DUMP (.gsa) THAT Qxb6615613aModsProg.lean LOADS. Nothing in Lean hashes anything: it is a label: what it is worth is what the hold of that sum in a sandbox is worth. -/
noncomputable def Trym.pinned : Pinned := { name := "qxb6615613amods", sum := "26eac669fa1cdc5293c73c5a567439f7cf5f2067be012295af033fa650ab72fe", checked := Trym.checked }
namespace Rows
def none {H : Type} : Left H := { results := [], args := [] }

/-- 'zzlaws_root_b1.FnGitDirsConfigOfItsOwnAnswerAddsOneConfig': WHATEVER THE INPUT: true; the input reads as it did. -/
def fnGitDirsConfigOfItsOwnAnswerAddsOneConfigSpec : ChangeSpec := { name := "fnGitDirsConfigOfItsOwnAnswerAddsOneConfig", fn := fun _ => fun
  | [d1, d2, d3] => { results := [.lit (.bool true)], args := [d1, d2, d3] }
  | _ => none }
def fnGitDirsConfigOfItsOwnAnswerAddsOneConfigRow : OpenClaim := { program := "qxb6615613amods", sum := "26eac669fa1cdc5293c73c5a567439f7cf5f2067be012295af033fa650ab72fe", func := "example.com/pathveil/pathveil/zzlaws_root_b1.FnGitDirsConfigOfItsOwnAnswerAddsOneConfig", spec := "fnGitDirsConfigOfItsOwnAnswerAddsOneConfig", inPlace := ["internal/abi.NoEscape", "internal/bytealg.MakeNoZero", "internal/bytealg.IndexByteString"], make := .lifted ["publicsums"], apart := false }
def FnGitDirsConfigOfItsOwnAnswerAddsOneConfigSaid : Prop := fnGitDirsConfigOfItsOwnAnswerAddsOneConfigRow.holds Trym.pinned (OpenSpec.ofChange fnGitDirsConfigOfItsOwnAnswerAddsOneConfigSpec)

/-- ITS FALSE NEIGHBOUR: 'it returns false'. Refute it at one input. -/
def fnGitDirsConfigOfItsOwnAnswerAddsOneConfigWrong : ChangeSpec := { name := "fnGitDirsConfigOfItsOwnAnswerAddsOneConfig", fn := fun _ => fun
  | [d1, d2, d3] => { results := [.lit (.bool false)], args := [d1, d2, d3] }
  | _ => none }
def FnGitDirsConfigOfItsOwnAnswerAddsOneConfigWrongFalsely : Prop := fnGitDirsConfigOfItsOwnAnswerAddsOneConfigRow.holds Trym.pinned (OpenSpec.ofChange fnGitDirsConfigOfItsOwnAnswerAddsOneConfigWrong)

/-- 'zzlaws_root_b1.FnRunIndexWithinHandsFoundRulesOnceAcrossTwoTexts': WHATEVER THE INPUT: true; the input reads as it did. -/
def fnRunIndexWithinHandsFoundRulesOnceAcrossTwoTextsSpec : ChangeSpec := { name := "fnRunIndexWithinHandsFoundRulesOnceAcrossTwoTexts", fn := fun _ => fun
  | [d1, d2, d3] => { results := [.lit (.bool true)], args := [d1, d2, d3] }
  | _ => none }
def fnRunIndexWithinHandsFoundRulesOnceAcrossTwoTextsRow : OpenClaim := { program := "qxb6615613amods", sum := "26eac669fa1cdc5293c73c5a567439f7cf5f2067be012295af033fa650ab72fe", func := "example.com/pathveil/pathveil/zzlaws_root_b1.FnRunIndexWithinHandsFoundRulesOnceAcrossTwoTexts", spec := "fnRunIndexWithinHandsFoundRulesOnceAcrossTwoTexts", unfollowed := true, recurses := true, make := .lifted ["publicsums"], apart := false }
def FnRunIndexWithinHandsFoundRulesOnceAcrossTwoTextsSaid : Prop := fnRunIndexWithinHandsFoundRulesOnceAcrossTwoTextsRow.holds Trym.pinned (OpenSpec.ofChange fnRunIndexWithinHandsFoundRulesOnceAcrossTwoTextsSpec)

/-- ITS FALSE NEIGHBOUR: 'it returns false'. Refute it at one input. -/
def fnRunIndexWithinHandsFoundRulesOnceAcrossTwoTextsWrong : ChangeSpec := { name := "fnRunIndexWithinHandsFoundRulesOnceAcrossTwoTexts", fn := fun _ => fun
  | [d1, d2, d3] => { results := [.lit (.bool false)], args := [d1, d2, d3] }
  | _ => none }
def FnRunIndexWithinHandsFoundRulesOnceAcrossTwoTextsWrongFalsely : Prop := fnRunIndexWithinHandsFoundRulesOnceAcrossTwoTextsRow.holds Trym.pinned (OpenSpec.ofChange fnRunIndexWithinHandsFoundRulesOnceAcrossTwoTextsWrong)

/-- 'zzlaws_root_b1.FnFoundItemsResetClearsEveryItemAndKeepsTheChunks': WHATEVER THE INPUT: true; the input reads as it did. -/
def fnFoundItemsResetClearsEveryItemAndKeepsTheChunksSpec : ChangeSpec := { name := "fnFoundItemsResetClearsEveryItemAndKeepsTheChunks", fn := fun _ => fun
  | [d1, d2, d3, d4, d5] => { results := [.lit (.bool true)], args := [d1, d2, d3, d4, d5] }
  | _ => none }
def fnFoundItemsResetClearsEveryItemAndKeepsTheChunksRow : OpenClaim := { program := "qxb6615613amods", sum := "26eac669fa1cdc5293c73c5a567439f7cf5f2067be012295af033fa650ab72fe", func := "example.com/pathveil/pathveil/zzlaws_root_b1.FnFoundItemsResetClearsEveryItemAndKeepsTheChunks", spec := "fnFoundItemsResetClearsEveryItemAndKeepsTheChunks", make := .lifted ["publicsums"], apart := false }
def FnFoundItemsResetClearsEveryItemAndKeepsTheChunksSaid : Prop := fnFoundItemsResetClearsEveryItemAndKeepsTheChunksRow.holds Trym.pinned (OpenSpec.ofChange fnFoundItemsResetClearsEveryItemAndKeepsTheChunksSpec)

/-- ITS FALSE NEIGHBOUR: 'it returns false'. Refute it at one input. -/
def fnFoundItemsResetClearsEveryItemAndKeepsTheChunksWrong : ChangeSpec := { name := "fnFoundItemsResetClearsEveryItemAndKeepsTheChunks", fn := fun _ => fun
  | [d1, d2, d3, d4, d5] => { results := [.lit (.bool false)], args := [d1, d2, d3, d4, d5] }
  | _ => none }
def FnFoundItemsResetClearsEveryItemAndKeepsTheChunksWrongFalsely : Prop := fnFoundItemsResetClearsEveryItemAndKeepsTheChunksRow.holds Trym.pinned (OpenSpec.ofChange fnFoundItemsResetClearsEveryItemAndKeepsTheChunksWrong)

end Rows
end Go.Proofs.Qxb6615613aMods
