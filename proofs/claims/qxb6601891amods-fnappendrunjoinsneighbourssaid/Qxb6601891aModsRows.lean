/-
  No cell of these rows narrows 'for every input' (looked for: loops, veiled, ifaces, maps, wideKeys, modest, calm, conditions, laid).
  DERIVED. THE GIVEN ROWS OF THIS SEAT. 5 by the template 'for every input the law returns true; each argument reads behind the call as it read before'; 0 by the template 'total and deterministic' (their statements: Qxb6601891aModsTotals.lean).
  GIVEN WITH THE SEED: the statements are not yours to turn. If you find one false, say at which input.
  Laid BY PROGRAM, IN A SANDBOX (cutbox-rows.mjs): the forced cells as the released guide's own fill.sh prints them over the translation 9b176a235f397b5d… (all of the seat's roots in one cut). By AI agents, Wed Nov 11 2026. No macro, syntax, notation, axiom, sorry.
-/
import Derived.Test.Qxb6601891aModsChecked
import GoSem.Claim
import GoSem.ClaimJoined
import GoSem.ClaimMapViews
import Derived.JoinedTies
import Derived.KernelRfl
namespace Go.Proofs.Qxb6601891aMods
/- THE CELL 'sum', in the pinned program and in every row, IS THE sha256 OF THE DUMP (.gsa) THAT Qxb6601891aModsProg.lean LOADS. Nothing in Lean hashes anything: it is a label: what it is worth is what the hold of that sum in a sandbox is worth. -/
noncomputable def Trym.pinned : Pinned := { name := "qxb6601891amods", sum := "9b176a235f397b5d1cc7ebec242beb682b4988d8862ce39b216824cdbbd701a5", checked := Trym.checked }
namespace Rows
def none {H : Type} : Left H := { results := [], args := [] }

/-- 'zzlaws_server_b1.FnAppendRunJoinsNeighbours': WHATEVER THE INPUT: true; the input reads as it did. -/
def fnAppendRunJoinsNeighboursSpec : ChangeSpec := { name := "fnAppendRunJoinsNeighbours", fn := fun _ => fun
  | [d1, d2] => { results := [.lit (.bool true)], args := [d1, d2] }
  | _ => none }
def fnAppendRunJoinsNeighboursRow : OpenClaim := { program := "qxb6601891amods", sum := "9b176a235f397b5d1cc7ebec242beb682b4988d8862ce39b216824cdbbd701a5", func := "example.com/talthybius/talthybius/zzlaws_server_b1.FnAppendRunJoinsNeighbours", spec := "fnAppendRunJoinsNeighbours", make := .lifted ["publicsums"], apart := false }
def FnAppendRunJoinsNeighboursSaid : Prop := fnAppendRunJoinsNeighboursRow.holds Trym.pinned (OpenSpec.ofChange fnAppendRunJoinsNeighboursSpec)

/-- ITS FALSE NEIGHBOUR: 'it returns false'. Refute it at one input. -/
def fnAppendRunJoinsNeighboursWrong : ChangeSpec := { name := "fnAppendRunJoinsNeighbours", fn := fun _ => fun
  | [d1, d2] => { results := [.lit (.bool false)], args := [d1, d2] }
  | _ => none }
def FnAppendRunJoinsNeighboursWrongFalsely : Prop := fnAppendRunJoinsNeighboursRow.holds Trym.pinned (OpenSpec.ofChange fnAppendRunJoinsNeighboursWrong)

/-- 'zzlaws_server_b1.FnDeltaSubscribeMatchesSetModel': WHATEVER THE INPUT: true; the input reads as it did. -/
def fnDeltaSubscribeMatchesSetModelSpec : ChangeSpec := { name := "fnDeltaSubscribeMatchesSetModel", fn := fun _ => fun
  | [d1, d2, d3, d4, d5] => { results := [.lit (.bool true)], args := [d1, d2, d3, d4, d5] }
  | _ => none }
def fnDeltaSubscribeMatchesSetModelRow : OpenClaim := { program := "qxb6601891amods", sum := "9b176a235f397b5d1cc7ebec242beb682b4988d8862ce39b216824cdbbd701a5", func := "example.com/talthybius/talthybius/zzlaws_server_b1.FnDeltaSubscribeMatchesSetModel", spec := "fnDeltaSubscribeMatchesSetModel", recurses := true, make := .lifted ["publicsums"], apart := false }
def FnDeltaSubscribeMatchesSetModelSaid : Prop := fnDeltaSubscribeMatchesSetModelRow.holds Trym.pinned (OpenSpec.ofChange fnDeltaSubscribeMatchesSetModelSpec)

/-- ITS FALSE NEIGHBOUR: 'it returns false'. Refute it at one input. -/
def fnDeltaSubscribeMatchesSetModelWrong : ChangeSpec := { name := "fnDeltaSubscribeMatchesSetModel", fn := fun _ => fun
  | [d1, d2, d3, d4, d5] => { results := [.lit (.bool false)], args := [d1, d2, d3, d4, d5] }
  | _ => none }
def FnDeltaSubscribeMatchesSetModelWrongFalsely : Prop := fnDeltaSubscribeMatchesSetModelRow.holds Trym.pinned (OpenSpec.ofChange fnDeltaSubscribeMatchesSetModelWrong)

/-- 'zzlaws_server_b1.FnDeltaSubscribeRepeatIsIdempotent': WHATEVER THE INPUT: true; the input reads as it did. -/
def fnDeltaSubscribeRepeatIsIdempotentSpec : ChangeSpec := { name := "fnDeltaSubscribeRepeatIsIdempotent", fn := fun _ => fun
  | [d1, d2, d3, d4, d5] => { results := [.lit (.bool true)], args := [d1, d2, d3, d4, d5] }
  | _ => none }
def fnDeltaSubscribeRepeatIsIdempotentRow : OpenClaim := { program := "qxb6601891amods", sum := "9b176a235f397b5d1cc7ebec242beb682b4988d8862ce39b216824cdbbd701a5", func := "example.com/talthybius/talthybius/zzlaws_server_b1.FnDeltaSubscribeRepeatIsIdempotent", spec := "fnDeltaSubscribeRepeatIsIdempotent", recurses := true, make := .lifted ["publicsums"], apart := false }
def FnDeltaSubscribeRepeatIsIdempotentSaid : Prop := fnDeltaSubscribeRepeatIsIdempotentRow.holds Trym.pinned (OpenSpec.ofChange fnDeltaSubscribeRepeatIsIdempotentSpec)

/-- ITS FALSE NEIGHBOUR: 'it returns false'. Refute it at one input. -/
def fnDeltaSubscribeRepeatIsIdempotentWrong : ChangeSpec := { name := "fnDeltaSubscribeRepeatIsIdempotent", fn := fun _ => fun
  | [d1, d2, d3, d4, d5] => { results := [.lit (.bool false)], args := [d1, d2, d3, d4, d5] }
  | _ => none }
def FnDeltaSubscribeRepeatIsIdempotentWrongFalsely : Prop := fnDeltaSubscribeRepeatIsIdempotentRow.holds Trym.pinned (OpenSpec.ofChange fnDeltaSubscribeRepeatIsIdempotentWrong)

/-- 'zzlaws_server_b1.FnSotwSubscribeMatchesSetModel': WHATEVER THE INPUT: true; the input reads as it did. -/
def fnSotwSubscribeMatchesSetModelSpec : ChangeSpec := { name := "fnSotwSubscribeMatchesSetModel", fn := fun _ => fun
  | [d1, d2, d3, d4] => { results := [.lit (.bool true)], args := [d1, d2, d3, d4] }
  | _ => none }
def fnSotwSubscribeMatchesSetModelRow : OpenClaim := { program := "qxb6601891amods", sum := "9b176a235f397b5d1cc7ebec242beb682b4988d8862ce39b216824cdbbd701a5", func := "example.com/talthybius/talthybius/zzlaws_server_b1.FnSotwSubscribeMatchesSetModel", spec := "fnSotwSubscribeMatchesSetModel", unfollowed := true, recurses := true, make := .lifted ["publicsums"], apart := false }
def FnSotwSubscribeMatchesSetModelSaid : Prop := fnSotwSubscribeMatchesSetModelRow.holds Trym.pinned (OpenSpec.ofChange fnSotwSubscribeMatchesSetModelSpec)

/-- ITS FALSE NEIGHBOUR: 'it returns false'. Refute it at one input. -/
def fnSotwSubscribeMatchesSetModelWrong : ChangeSpec := { name := "fnSotwSubscribeMatchesSetModel", fn := fun _ => fun
  | [d1, d2, d3, d4] => { results := [.lit (.bool false)], args := [d1, d2, d3, d4] }
  | _ => none }
def FnSotwSubscribeMatchesSetModelWrongFalsely : Prop := fnSotwSubscribeMatchesSetModelRow.holds Trym.pinned (OpenSpec.ofChange fnSotwSubscribeMatchesSetModelWrong)

/-- 'zzlaws_server_b1.FnSotwSubscribeRepeatReportsNoChange': WHATEVER THE INPUT: true; the input reads as it did. -/
def fnSotwSubscribeRepeatReportsNoChangeSpec : ChangeSpec := { name := "fnSotwSubscribeRepeatReportsNoChange", fn := fun _ => fun
  | [d1, d2, d3, d4] => { results := [.lit (.bool true)], args := [d1, d2, d3, d4] }
  | _ => none }
def fnSotwSubscribeRepeatReportsNoChangeRow : OpenClaim := { program := "qxb6601891amods", sum := "9b176a235f397b5d1cc7ebec242beb682b4988d8862ce39b216824cdbbd701a5", func := "example.com/talthybius/talthybius/zzlaws_server_b1.FnSotwSubscribeRepeatReportsNoChange", spec := "fnSotwSubscribeRepeatReportsNoChange", unfollowed := true, recurses := true, make := .lifted ["publicsums"], apart := false }
def FnSotwSubscribeRepeatReportsNoChangeSaid : Prop := fnSotwSubscribeRepeatReportsNoChangeRow.holds Trym.pinned (OpenSpec.ofChange fnSotwSubscribeRepeatReportsNoChangeSpec)

/-- ITS FALSE NEIGHBOUR: 'it returns false'. Refute it at one input. -/
def fnSotwSubscribeRepeatReportsNoChangeWrong : ChangeSpec := { name := "fnSotwSubscribeRepeatReportsNoChange", fn := fun _ => fun
  | [d1, d2, d3, d4] => { results := [.lit (.bool false)], args := [d1, d2, d3, d4] }
  | _ => none }
def FnSotwSubscribeRepeatReportsNoChangeWrongFalsely : Prop := fnSotwSubscribeRepeatReportsNoChangeRow.holds Trym.pinned (OpenSpec.ofChange fnSotwSubscribeRepeatReportsNoChangeWrong)

end Rows
end Go.Proofs.Qxb6601891aMods
