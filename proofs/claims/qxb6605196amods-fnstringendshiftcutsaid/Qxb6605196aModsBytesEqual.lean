/-
  DERIVED: LAID BY THE SHELF's contract.sh OFF ITS TEMPLATE 'bytes.Equal' FOR THE PROGRAM 'Trym' (the function's number there: 24). THE LIBRARY's OWN TEXT IS WALKED: nothing is assumed of it.
-/
import Derived.Test.Qxb6605196aModsChecked
import Derived.Lib.Strings
import Derived.Lib.Slices
import Derived.Lib.Walk
import Derived.Lib.Bytes
namespace Go.Proofs

set_option maxHeartbeats 1000000 in
/-- bytes.Equal: "Equal reports whether a and b are the same length and contain the same bytes. A nil argument is equivalent to an empty slice.": IT RETURNS 'the bytes of the one == the bytes of the other'; the world is as it was. THE TWO ARGUMENTS COME AS WHATEVER VALUES, each with the one fact that the walk wants of it: what 'string(..)' of it gives: for a slice whose cells you know: 'run_convert_bytes_arg' (Derived/Laws/BytesArg.lean) hands that fact; for a nil one: 'run_convert_bytes_nil' (with xs := []). -/
theorem Trym.bytes_Equal (v1 v2 : Value) (xs ys : List Int) (w : World)
    (h1 : (convert 22 9 v1).run Trym.prog w = .ok (.string (strOfNums xs)) w) (h2 : (convert 22 9 v2).run Trym.prog w = .ok (.string (strOfNums ys)) w) :
    Calls Trym.prog 24 #[v1, v2] w fun e w' => e = .returned (.bool (Lib.bytesOf xs == Lib.bytesOf ys)) ∧ w' = w := by
  rw [← Lib.strOfNums_toList, ← Lib.strOfNums_toList]
  go_enter Trym.func24, Trym.ntmps24
  go_wp2
  go_ret
  exact ⟨rfl, rfl⟩

#print axioms Trym.bytes_Equal
end Go.Proofs
