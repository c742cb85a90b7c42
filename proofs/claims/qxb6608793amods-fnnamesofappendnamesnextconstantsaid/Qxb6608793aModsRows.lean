/-
  No cell of these rows narrows 'for every input' (looked for: loops, veiled, ifaces, maps, wideKeys, modest, calm, conditions, laid).
  DERIVED. THE GIVEN ROWS OF THIS SEAT. 4 by the template 'for every input the law returns true; each argument reads behind the call as it read before'; 0 by the template 'total and deterministic' (their statements: Qxb6608793aModsTotals.lean).
  GIVEN WITH THE SEED: the statements are not yours to turn. If you find one false, say at which input.
  Laid BY PROGRAM, IN A SANDBOX (cutbox-rows.mjs): the forced cells as the released guide's own fill.sh prints them over the translation e9c30d363385c65a… (all of the seat's roots in one cut). By AI agents, Wed Nov 11 2026. No macro, syntax, notation, axiom, sorry.
-/
import Derived.Test.Qxb6608793aModsChecked
import GoSem.Claim
import GoSem.ClaimJoined
import GoSem.ClaimMapViews
import Derived.JoinedTies
import Derived.KernelRfl
namespace Go.Proofs.Qxb6608793aMods
/- THE CELL 'sum', in the pinned program and in every row, IS THE sha256 OF THE DUMP (.gsa) THAT Qxb6608793aModsProg.lean LOADS. Nothing in Lean hashes anything: it is a label: what it is worth is what the hold of that sum in a sandbox is worth. -/
noncomputable def Trym.pinned : Pinned := { name := "qxb6608793amods", sum := "e9c30d363385c65ad524ae4802a731980115b95e7a66946663e7da51c46c1242", checked := Trym.checked }
namespace Rows
def none {H : Type} : Left H := { results := [], args := [] }

/-- 'zzlaws_client_b1.FnNamesOfPrependShiftsNumbering': WHATEVER THE INPUT: true; the input reads as it did. -/
def fnNamesOfPrependShiftsNumberingSpec : ChangeSpec := { name := "fnNamesOfPrependShiftsNumbering", fn := fun _ => fun
  | [d1, d2, d3] => { results := [.lit (.bool true)], args := [d1, d2, d3] }
  | _ => none }
def fnNamesOfPrependShiftsNumberingRow : OpenClaim := { program := "qxb6608793amods", sum := "e9c30d363385c65ad524ae4802a731980115b95e7a66946663e7da51c46c1242", func := "example.com/wary-issuer/wary-issuer/zzlaws_client_b1.FnNamesOfPrependShiftsNumbering", spec := "fnNamesOfPrependShiftsNumbering", make := .lifted ["publicsums"], apart := false }
def FnNamesOfPrependShiftsNumberingSaid : Prop := fnNamesOfPrependShiftsNumberingRow.holds Trym.pinned (OpenSpec.ofChange fnNamesOfPrependShiftsNumberingSpec)

/-- ITS FALSE NEIGHBOUR: 'it returns false'. Refute it at one input. -/
def fnNamesOfPrependShiftsNumberingWrong : ChangeSpec := { name := "fnNamesOfPrependShiftsNumbering", fn := fun _ => fun
  | [d1, d2, d3] => { results := [.lit (.bool false)], args := [d1, d2, d3] }
  | _ => none }
def FnNamesOfPrependShiftsNumberingWrongFalsely : Prop := fnNamesOfPrependShiftsNumberingRow.holds Trym.pinned (OpenSpec.ofChange fnNamesOfPrependShiftsNumberingWrong)

/-- 'zzlaws_client_b1.FnNamesOfAppendNamesNextConstant': WHATEVER THE INPUT: true; the input reads as it did. -/
def fnNamesOfAppendNamesNextConstantSpec : ChangeSpec := { name := "fnNamesOfAppendNamesNextConstant", fn := fun _ => fun
  | [d1, d2, d3] => { results := [.lit (.bool true)], args := [d1, d2, d3] }
  | _ => none }
def fnNamesOfAppendNamesNextConstantRow : OpenClaim := { program := "qxb6608793amods", sum := "e9c30d363385c65ad524ae4802a731980115b95e7a66946663e7da51c46c1242", func := "example.com/wary-issuer/wary-issuer/zzlaws_client_b1.FnNamesOfAppendNamesNextConstant", spec := "fnNamesOfAppendNamesNextConstant", make := .lifted ["publicsums"], apart := false }
def FnNamesOfAppendNamesNextConstantSaid : Prop := fnNamesOfAppendNamesNextConstantRow.holds Trym.pinned (OpenSpec.ofChange fnNamesOfAppendNamesNextConstantSpec)

/-- ITS FALSE NEIGHBOUR: 'it returns false'. Refute it at one input. -/
def fnNamesOfAppendNamesNextConstantWrong : ChangeSpec := { name := "fnNamesOfAppendNamesNextConstant", fn := fun _ => fun
  | [d1, d2, d3] => { results := [.lit (.bool false)], args := [d1, d2, d3] }
  | _ => none }
def FnNamesOfAppendNamesNextConstantWrongFalsely : Prop := fnNamesOfAppendNamesNextConstantRow.holds Trym.pinned (OpenSpec.ofChange fnNamesOfAppendNamesNextConstantWrong)

/-- 'zzlaws_client_b1.FnClientHasAfterInsertAnywhere': WHATEVER THE INPUT: true; the input reads as it did. -/
def fnClientHasAfterInsertAnywhereSpec : ChangeSpec := { name := "fnClientHasAfterInsertAnywhere", fn := fun _ => fun
  | [d1, d2, d3, d4, d5, d6, d7, d8, d9, d10] => { results := [.lit (.bool true)], args := [d1, d2, d3, d4, d5, d6, d7, d8, d9, d10] }
  | _ => none }
def fnClientHasAfterInsertAnywhereRow : OpenClaim := { program := "qxb6608793amods", sum := "e9c30d363385c65ad524ae4802a731980115b95e7a66946663e7da51c46c1242", func := "example.com/wary-issuer/wary-issuer/zzlaws_client_b1.FnClientHasAfterInsertAnywhere", spec := "fnClientHasAfterInsertAnywhere", make := .lifted ["publicsums"], apart := false }
def FnClientHasAfterInsertAnywhereSaid : Prop := fnClientHasAfterInsertAnywhereRow.holds Trym.pinned (OpenSpec.ofChange fnClientHasAfterInsertAnywhereSpec)

/-- ITS FALSE NEIGHBOUR: 'it returns false'. Refute it at one input. -/
def fnClientHasAfterInsertAnywhereWrong : ChangeSpec := { name := "fnClientHasAfterInsertAnywhere", fn := fun _ => fun
  | [d1, d2, d3, d4, d5, d6, d7, d8, d9, d10] => { results := [.lit (.bool false)], args := [d1, d2, d3, d4, d5, d6, d7, d8, d9, d10] }
  | _ => none }
def FnClientHasAfterInsertAnywhereWrongFalsely : Prop := fnClientHasAfterInsertAnywhereRow.holds Trym.pinned (OpenSpec.ofChange fnClientHasAfterInsertAnywhereWrong)

/-- 'zzlaws_client_b1.FnClientHasExactlyWhenListed': WHATEVER THE INPUT: true; the input reads as it did. -/
def fnClientHasExactlyWhenListedSpec : ChangeSpec := { name := "fnClientHasExactlyWhenListed", fn := fun _ => fun
  | [d1, d2, d3, d4, d5, d6, d7, d8] => { results := [.lit (.bool true)], args := [d1, d2, d3, d4, d5, d6, d7, d8] }
  | _ => none }
def fnClientHasExactlyWhenListedRow : OpenClaim := { program := "qxb6608793amods", sum := "e9c30d363385c65ad524ae4802a731980115b95e7a66946663e7da51c46c1242", func := "example.com/wary-issuer/wary-issuer/zzlaws_client_b1.FnClientHasExactlyWhenListed", spec := "fnClientHasExactlyWhenListed", make := .lifted ["publicsums"], apart := false }
def FnClientHasExactlyWhenListedSaid : Prop := fnClientHasExactlyWhenListedRow.holds Trym.pinned (OpenSpec.ofChange fnClientHasExactlyWhenListedSpec)

/-- ITS FALSE NEIGHBOUR: 'it returns false'. Refute it at one input. -/
def fnClientHasExactlyWhenListedWrong : ChangeSpec := { name := "fnClientHasExactlyWhenListed", fn := fun _ => fun
  | [d1, d2, d3, d4, d5, d6, d7, d8] => { results := [.lit (.bool false)], args := [d1, d2, d3, d4, d5, d6, d7, d8] }
  | _ => none }
def FnClientHasExactlyWhenListedWrongFalsely : Prop := fnClientHasExactlyWhenListedRow.holds Trym.pinned (OpenSpec.ofChange fnClientHasExactlyWhenListedWrong)

end Rows
end Go.Proofs.Qxb6608793aMods
