/-
  No cell of these rows narrows 'for every input' (looked for: loops, veiled, ifaces, maps, wideKeys, modest, calm, conditions, laid).
  DERIVED. THE GIVEN ROWS OF THIS SEAT. 4 by the template 'for every input the law returns true; each argument reads behind the call as it read before'; 0 by the template 'total and deterministic' (their statements: Qxb6605196aModsTotals.lean).
  GIVEN WITH THE SEED: the statements are not yours to turn. If you find one false, say at which input.
  Laid BY PROGRAM, IN A SANDBOX (cutbox-rows.mjs): the forced cells as the released guide's own fill.sh prints them over the translation b52ed3cf1ca9018f… (all of the seat's roots in one cut). By AI agents, Wed Nov 11 2026. No macro, syntax, notation, axiom, sorry.
-/
import Derived.Test.Qxb6605196aModsChecked
import GoSem.Claim
import GoSem.ClaimJoined
import GoSem.ClaimMapViews
import Derived.JoinedTies
import Derived.KernelRfl
namespace Go.Proofs.Qxb6605196aMods
/- THE CELL 'sum', in the pinned program and in every row, IS THE sha256 OF THE DUMP (.gsa) THAT Qxb6605196aModsProg.lean LOADS. Nothing in Lean hashes anything: it is a label: what it is worth is what the hold of that sum in a sandbox is worth. -/
noncomputable def Trym.pinned : Pinned := { name := "qxb6605196amods", sum := "b52ed3cf1ca9018f9261ba6c6414fc286eeb3bd6ce1aea50371fdafdd1bae263", checked := Trym.checked }
namespace Rows
def none {H : Type} : Left H := { results := [], args := [] }

/-- 'zzlaws_internal_fund_b1.FnIsCommentConcat': WHATEVER THE INPUT: true; the input reads as it did. -/
def fnIsCommentConcatSpec : ChangeSpec := { name := "fnIsCommentConcat", fn := fun _ => fun
  | [d1, d2] => { results := [.lit (.bool true)], args := [d1, d2] }
  | _ => none }
def fnIsCommentConcatRow : OpenClaim := { program := "qxb6605196amods", sum := "b52ed3cf1ca9018f9261ba6c6414fc286eeb3bd6ce1aea50371fdafdd1bae263", func := "example.com/tuoguan/tuoguan/zzlaws_internal_fund_b1.FnIsCommentConcat", spec := "fnIsCommentConcat", make := .lifted ["publicsums"], apart := false }
def FnIsCommentConcatSaid : Prop := fnIsCommentConcatRow.holds Trym.pinned (OpenSpec.ofChange fnIsCommentConcatSpec)

/-- ITS FALSE NEIGHBOUR: 'it returns false'. Refute it at one input. -/
def fnIsCommentConcatWrong : ChangeSpec := { name := "fnIsCommentConcat", fn := fun _ => fun
  | [d1, d2] => { results := [.lit (.bool false)], args := [d1, d2] }
  | _ => none }
def FnIsCommentConcatWrongFalsely : Prop := fnIsCommentConcatRow.holds Trym.pinned (OpenSpec.ofChange fnIsCommentConcatWrong)

/-- 'zzlaws_internal_fund_b1.FnIsDigitsConcat': WHATEVER THE INPUT: true; the input reads as it did. -/
def fnIsDigitsConcatSpec : ChangeSpec := { name := "fnIsDigitsConcat", fn := fun _ => fun
  | [d1, d2] => { results := [.lit (.bool true)], args := [d1, d2] }
  | _ => none }
def fnIsDigitsConcatRow : OpenClaim := { program := "qxb6605196amods", sum := "b52ed3cf1ca9018f9261ba6c6414fc286eeb3bd6ce1aea50371fdafdd1bae263", func := "example.com/tuoguan/tuoguan/zzlaws_internal_fund_b1.FnIsDigitsConcat", spec := "fnIsDigitsConcat", make := .lifted ["publicsums"], apart := false }
def FnIsDigitsConcatSaid : Prop := fnIsDigitsConcatRow.holds Trym.pinned (OpenSpec.ofChange fnIsDigitsConcatSpec)

/-- ITS FALSE NEIGHBOUR: 'it returns false'. Refute it at one input. -/
def fnIsDigitsConcatWrong : ChangeSpec := { name := "fnIsDigitsConcat", fn := fun _ => fun
  | [d1, d2] => { results := [.lit (.bool false)], args := [d1, d2] }
  | _ => none }
def FnIsDigitsConcatWrongFalsely : Prop := fnIsDigitsConcatRow.holds Trym.pinned (OpenSpec.ofChange fnIsDigitsConcatWrong)

/-- 'zzlaws_internal_fund_b1.FnStringEndExact': WHATEVER THE INPUT: true; the input reads as it did. -/
def fnStringEndExactSpec : ChangeSpec := { name := "fnStringEndExact", fn := fun _ => fun
  | [d1, d2] => { results := [.lit (.bool true)], args := [d1, d2] }
  | _ => none }
def fnStringEndExactRow : OpenClaim := { program := "qxb6605196amods", sum := "b52ed3cf1ca9018f9261ba6c6414fc286eeb3bd6ce1aea50371fdafdd1bae263", func := "example.com/tuoguan/tuoguan/zzlaws_internal_fund_b1.FnStringEndExact", spec := "fnStringEndExact", make := .lifted ["publicsums"], apart := false }
def FnStringEndExactSaid : Prop := fnStringEndExactRow.holds Trym.pinned (OpenSpec.ofChange fnStringEndExactSpec)

/-- ITS FALSE NEIGHBOUR: 'it returns false'. Refute it at one input. -/
def fnStringEndExactWrong : ChangeSpec := { name := "fnStringEndExact", fn := fun _ => fun
  | [d1, d2] => { results := [.lit (.bool false)], args := [d1, d2] }
  | _ => none }
def FnStringEndExactWrongFalsely : Prop := fnStringEndExactRow.holds Trym.pinned (OpenSpec.ofChange fnStringEndExactWrong)

/-- 'zzlaws_internal_fund_b1.FnStringEndShiftCut': WHATEVER THE INPUT: true; the input reads as it did. -/
def fnStringEndShiftCutSpec : ChangeSpec := { name := "fnStringEndShiftCut", fn := fun _ => fun
  | [d1, d2, d3] => { results := [.lit (.bool true)], args := [d1, d2, d3] }
  | _ => none }
def fnStringEndShiftCutRow : OpenClaim := { program := "qxb6605196amods", sum := "b52ed3cf1ca9018f9261ba6c6414fc286eeb3bd6ce1aea50371fdafdd1bae263", func := "example.com/tuoguan/tuoguan/zzlaws_internal_fund_b1.FnStringEndShiftCut", spec := "fnStringEndShiftCut", make := .lifted ["publicsums"], apart := false }
def FnStringEndShiftCutSaid : Prop := fnStringEndShiftCutRow.holds Trym.pinned (OpenSpec.ofChange fnStringEndShiftCutSpec)

/-- ITS FALSE NEIGHBOUR: 'it returns false'. Refute it at one input. -/
def fnStringEndShiftCutWrong : ChangeSpec := { name := "fnStringEndShiftCut", fn := fun _ => fun
  | [d1, d2, d3] => { results := [.lit (.bool false)], args := [d1, d2, d3] }
  | _ => none }
def FnStringEndShiftCutWrongFalsely : Prop := fnStringEndShiftCutRow.holds Trym.pinned (OpenSpec.ofChange fnStringEndShiftCutWrong)

end Rows
end Go.Proofs.Qxb6605196aMods
