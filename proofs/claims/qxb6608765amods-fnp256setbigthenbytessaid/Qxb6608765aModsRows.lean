/-
  No cell of these rows narrows 'for every input' (looked for: loops, veiled, ifaces, maps, wideKeys, modest, calm, conditions, laid).
  DERIVED. THE GIVEN ROWS OF THIS SEAT. 4 by the template 'for every input the law returns true; each argument reads behind the call as it read before'; 0 by the template 'total and deterministic' (their statements: Qxb6608765aModsTotals.lean).
  GIVEN WITH THE SEED: the statements are not yours to turn. If you find one false, say at which input.
  Laid BY PROGRAM, IN A SANDBOX (cutbox-rows.mjs): the forced cells as the released guide's own fill.sh prints them over the translation 1f21c429f4fed203… (all of the seat's roots in one cut). By AI agents, Wed Nov 11 2026. No macro, syntax, notation, axiom, sorry.
-/
import Derived.Test.Qxb6608765aModsChecked
import GoSem.Claim
import GoSem.ClaimJoined
import GoSem.ClaimMapViews
import Derived.JoinedTies
import Derived.KernelRfl
namespace Go.Proofs.Qxb6608765aMods
/- THE CELL 'sum', in the pinned program and in every row, IS THE sha256 OF THE DUMP (.gsa) THAT Qxb6608765aModsProg.lean LOADS. Nothing in Lean hashes anything: it is a label: what it is worth is what the hold of that sum in a sandbox is worth. -/
noncomputable def Trym.pinned : Pinned := { name := "qxb6608765amods", sum := "1f21c429f4fed203fa4f0364f9ff3bd3b95922567960be594a1cb0ea2eb6322c", checked := Trym.checked }
namespace Rows
def none {H : Type} : Left H := { results := [], args := [] }

/-- 'zzlaws_internal_jose_b1.FnP256BytesOrderAndShift': WHATEVER THE INPUT: true; the input reads as it did. -/
def fnP256BytesOrderAndShiftSpec : ChangeSpec := { name := "fnP256BytesOrderAndShift", fn := fun _ => fun
  | [d1, d2] => { results := [.lit (.bool true)], args := [d1, d2] }
  | _ => none }
def fnP256BytesOrderAndShiftRow : OpenClaim := { program := "qxb6608765amods", sum := "1f21c429f4fed203fa4f0364f9ff3bd3b95922567960be594a1cb0ea2eb6322c", func := "example.com/credenza/credenza/zzlaws_internal_jose_b1.FnP256BytesOrderAndShift", spec := "fnP256BytesOrderAndShift", make := .lifted ["publicsums"], apart := false }
def FnP256BytesOrderAndShiftSaid : Prop := fnP256BytesOrderAndShiftRow.holds Trym.pinned (OpenSpec.ofChange fnP256BytesOrderAndShiftSpec)

/-- ITS FALSE NEIGHBOUR: 'it returns false'. Refute it at one input. -/
def fnP256BytesOrderAndShiftWrong : ChangeSpec := { name := "fnP256BytesOrderAndShift", fn := fun _ => fun
  | [d1, d2] => { results := [.lit (.bool false)], args := [d1, d2] }
  | _ => none }
def FnP256BytesOrderAndShiftWrongFalsely : Prop := fnP256BytesOrderAndShiftRow.holds Trym.pinned (OpenSpec.ofChange fnP256BytesOrderAndShiftWrong)

/-- 'zzlaws_internal_jose_b1.FnP256SetBigThenBytes': WHATEVER THE INPUT: true; the input reads as it did. -/
def fnP256SetBigThenBytesSpec : ChangeSpec := { name := "fnP256SetBigThenBytes", fn := fun _ => fun
  | [d1, d2, d3] => { results := [.lit (.bool true)], args := [d1, d2, d3] }
  | _ => none }
def fnP256SetBigThenBytesRow : OpenClaim := { program := "qxb6608765amods", sum := "1f21c429f4fed203fa4f0364f9ff3bd3b95922567960be594a1cb0ea2eb6322c", func := "example.com/credenza/credenza/zzlaws_internal_jose_b1.FnP256SetBigThenBytes", spec := "fnP256SetBigThenBytes", make := .lifted ["publicsums"], apart := false }
def FnP256SetBigThenBytesSaid : Prop := fnP256SetBigThenBytesRow.holds Trym.pinned (OpenSpec.ofChange fnP256SetBigThenBytesSpec)

/-- ITS FALSE NEIGHBOUR: 'it returns false'. Refute it at one input. -/
def fnP256SetBigThenBytesWrong : ChangeSpec := { name := "fnP256SetBigThenBytes", fn := fun _ => fun
  | [d1, d2, d3] => { results := [.lit (.bool false)], args := [d1, d2, d3] }
  | _ => none }
def FnP256SetBigThenBytesWrongFalsely : Prop := fnP256SetBigThenBytesRow.holds Trym.pinned (OpenSpec.ofChange fnP256SetBigThenBytesWrong)

/-- 'zzlaws_internal_jose_b1.FnP256SetBigLimbsPaddingAndSign': WHATEVER THE INPUT: true; the input reads as it did. -/
def fnP256SetBigLimbsPaddingAndSignSpec : ChangeSpec := { name := "fnP256SetBigLimbsPaddingAndSign", fn := fun _ => fun
  | [d1, d2, d3] => { results := [.lit (.bool true)], args := [d1, d2, d3] }
  | _ => none }
def fnP256SetBigLimbsPaddingAndSignRow : OpenClaim := { program := "qxb6608765amods", sum := "1f21c429f4fed203fa4f0364f9ff3bd3b95922567960be594a1cb0ea2eb6322c", func := "example.com/credenza/credenza/zzlaws_internal_jose_b1.FnP256SetBigLimbsPaddingAndSign", spec := "fnP256SetBigLimbsPaddingAndSign", make := .lifted ["publicsums"], apart := false }
def FnP256SetBigLimbsPaddingAndSignSaid : Prop := fnP256SetBigLimbsPaddingAndSignRow.holds Trym.pinned (OpenSpec.ofChange fnP256SetBigLimbsPaddingAndSignSpec)

/-- ITS FALSE NEIGHBOUR: 'it returns false'. Refute it at one input. -/
def fnP256SetBigLimbsPaddingAndSignWrong : ChangeSpec := { name := "fnP256SetBigLimbsPaddingAndSign", fn := fun _ => fun
  | [d1, d2, d3] => { results := [.lit (.bool false)], args := [d1, d2, d3] }
  | _ => none }
def FnP256SetBigLimbsPaddingAndSignWrongFalsely : Prop := fnP256SetBigLimbsPaddingAndSignRow.holds Trym.pinned (OpenSpec.ofChange fnP256SetBigLimbsPaddingAndSignWrong)

/-- 'zzlaws_internal_jose_b1.FnP256BytesThenSetBigIsIdentity': WHATEVER THE INPUT: true; the input reads as it did. -/
def fnP256BytesThenSetBigIsIdentitySpec : ChangeSpec := { name := "fnP256BytesThenSetBigIsIdentity", fn := fun _ => fun
  | [d1, d2] => { results := [.lit (.bool true)], args := [d1, d2] }
  | _ => none }
def fnP256BytesThenSetBigIsIdentityRow : OpenClaim := { program := "qxb6608765amods", sum := "1f21c429f4fed203fa4f0364f9ff3bd3b95922567960be594a1cb0ea2eb6322c", func := "example.com/credenza/credenza/zzlaws_internal_jose_b1.FnP256BytesThenSetBigIsIdentity", spec := "fnP256BytesThenSetBigIsIdentity", make := .lifted ["publicsums"], apart := false }
def FnP256BytesThenSetBigIsIdentitySaid : Prop := fnP256BytesThenSetBigIsIdentityRow.holds Trym.pinned (OpenSpec.ofChange fnP256BytesThenSetBigIsIdentitySpec)

/-- ITS FALSE NEIGHBOUR: 'it returns false'. Refute it at one input. -/
def fnP256BytesThenSetBigIsIdentityWrong : ChangeSpec := { name := "fnP256BytesThenSetBigIsIdentity", fn := fun _ => fun
  | [d1, d2] => { results := [.lit (.bool false)], args := [d1, d2] }
  | _ => none }
def FnP256BytesThenSetBigIsIdentityWrongFalsely : Prop := fnP256BytesThenSetBigIsIdentityRow.holds Trym.pinned (OpenSpec.ofChange fnP256BytesThenSetBigIsIdentityWrong)

end Rows
end Go.Proofs.Qxb6608765aMods
