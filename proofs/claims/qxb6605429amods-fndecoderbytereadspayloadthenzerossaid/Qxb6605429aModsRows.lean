/-
  No cell of these rows narrows 'for every input' (looked for: loops, veiled, ifaces, maps, wideKeys, modest, calm, conditions, laid).
  DERIVED. THE GIVEN ROWS OF THIS SEAT. 3 by the template 'for every input the law returns true; each argument reads behind the call as it read before'; 0 by the template 'total and deterministic' (their statements: Qxb6605429aModsTotals.lean).
  GIVEN WITH THE SEED: the statements are not yours to turn. If you find one false, say at which input.
  Laid BY PROGRAM, IN A SANDBOX (cutbox-rows.mjs): the forced cells as the released guide's own fill.sh prints them over the translation 0cad3df6ca64857e… (all of the seat's roots in one cut). By AI agents, Wed Nov 11 2026. No macro, syntax, notation, axiom, sorry.
-/
import Derived.Test.Qxb6605429aModsChecked
import GoSem.Claim
import GoSem.ClaimJoined
import GoSem.ClaimMapViews
import Derived.JoinedTies
import Derived.KernelRfl
namespace Go.Proofs.Qxb6605429aMods
/- THE CELL 'sum', in the pinned program and in every row, IS THE sha256 OF THE DUMP (.gsa) THAT Qxb6605429aModsProg.lean LOADS. Nothing in Lean hashes anything: it is a label: what it is worth is what the hold of that sum in a sandbox is worth. -/
noncomputable def Trym.pinned : Pinned := { name := "qxb6605429amods", sum := "0cad3df6ca64857ee32d13d454393a44bb3e380df58ecf0cb1d0161672a4f012", checked := Trym.checked }
namespace Rows
def none {H : Type} : Left H := { results := [], args := [] }

/-- 'zzlaws_internal_store_b1.FnBucketBitsClosedForm': WHATEVER THE INPUT: true; the input reads as it did. -/
def fnBucketBitsClosedFormSpec : ChangeSpec := { name := "fnBucketBitsClosedForm", fn := fun _ => fun
  | [d] => { results := [.lit (.bool true)], args := [d] }
  | _ => none }
def fnBucketBitsClosedFormRow : OpenClaim := { program := "qxb6605429amods", sum := "0cad3df6ca64857ee32d13d454393a44bb3e380df58ecf0cb1d0161672a4f012", func := "example.com/vouchsafe/vouchsafe/zzlaws_internal_store_b1.FnBucketBitsClosedForm", spec := "fnBucketBitsClosedForm", make := .lifted ["publicsums"], apart := false }
def FnBucketBitsClosedFormSaid : Prop := fnBucketBitsClosedFormRow.holds Trym.pinned (OpenSpec.ofChange fnBucketBitsClosedFormSpec)

/-- ITS FALSE NEIGHBOUR: 'it returns false'. Refute it at one input. -/
def fnBucketBitsClosedFormWrong : ChangeSpec := { name := "fnBucketBitsClosedForm", fn := fun _ => fun
  | [d] => { results := [.lit (.bool false)], args := [d] }
  | _ => none }
def FnBucketBitsClosedFormWrongFalsely : Prop := fnBucketBitsClosedFormRow.holds Trym.pinned (OpenSpec.ofChange fnBucketBitsClosedFormWrong)

/-- 'zzlaws_internal_store_b1.FnBucketBitsLoadAndOrder': WHATEVER THE INPUT: true; the input reads as it did. -/
def fnBucketBitsLoadAndOrderSpec : ChangeSpec := { name := "fnBucketBitsLoadAndOrder", fn := fun _ => fun
  | [d1, d2] => { results := [.lit (.bool true)], args := [d1, d2] }
  | _ => none }
def fnBucketBitsLoadAndOrderRow : OpenClaim := { program := "qxb6605429amods", sum := "0cad3df6ca64857ee32d13d454393a44bb3e380df58ecf0cb1d0161672a4f012", func := "example.com/vouchsafe/vouchsafe/zzlaws_internal_store_b1.FnBucketBitsLoadAndOrder", spec := "fnBucketBitsLoadAndOrder", make := .lifted ["publicsums"], apart := false }
def FnBucketBitsLoadAndOrderSaid : Prop := fnBucketBitsLoadAndOrderRow.holds Trym.pinned (OpenSpec.ofChange fnBucketBitsLoadAndOrderSpec)

/-- ITS FALSE NEIGHBOUR: 'it returns false'. Refute it at one input. -/
def fnBucketBitsLoadAndOrderWrong : ChangeSpec := { name := "fnBucketBitsLoadAndOrder", fn := fun _ => fun
  | [d1, d2] => { results := [.lit (.bool false)], args := [d1, d2] }
  | _ => none }
def FnBucketBitsLoadAndOrderWrongFalsely : Prop := fnBucketBitsLoadAndOrderRow.holds Trym.pinned (OpenSpec.ofChange fnBucketBitsLoadAndOrderWrong)

/-- 'zzlaws_internal_store_b1.FnDecoderByteReadsPayloadThenZeros': WHATEVER THE INPUT: true; the input reads as it did. -/
def fnDecoderByteReadsPayloadThenZerosSpec : ChangeSpec := { name := "fnDecoderByteReadsPayloadThenZeros", fn := fun _ => fun
  | [d1, d2, d3] => { results := [.lit (.bool true)], args := [d1, d2, d3] }
  | _ => none }
def fnDecoderByteReadsPayloadThenZerosRow : OpenClaim := { program := "qxb6605429amods", sum := "0cad3df6ca64857ee32d13d454393a44bb3e380df58ecf0cb1d0161672a4f012", func := "example.com/vouchsafe/vouchsafe/zzlaws_internal_store_b1.FnDecoderByteReadsPayloadThenZeros", spec := "fnDecoderByteReadsPayloadThenZeros", make := .lifted ["publicsums"], apart := false }
def FnDecoderByteReadsPayloadThenZerosSaid : Prop := fnDecoderByteReadsPayloadThenZerosRow.holds Trym.pinned (OpenSpec.ofChange fnDecoderByteReadsPayloadThenZerosSpec)

/-- ITS FALSE NEIGHBOUR: 'it returns false'. Refute it at one input. -/
def fnDecoderByteReadsPayloadThenZerosWrong : ChangeSpec := { name := "fnDecoderByteReadsPayloadThenZeros", fn := fun _ => fun
  | [d1, d2, d3] => { results := [.lit (.bool false)], args := [d1, d2, d3] }
  | _ => none }
def FnDecoderByteReadsPayloadThenZerosWrongFalsely : Prop := fnDecoderByteReadsPayloadThenZerosRow.holds Trym.pinned (OpenSpec.ofChange fnDecoderByteReadsPayloadThenZerosWrong)

end Rows
end Go.Proofs.Qxb6605429aMods
