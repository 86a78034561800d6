/-
  DERIVED: LAID BY THE SHELF's contract.sh OFF ITS TEMPLATE 'bytes.HasPrefix' FOR THE PROGRAM 'Trym' (the function's number there: 23). THE LIBRARY's OWN TEXT IS WALKED: nothing is assumed of it.
-/
import Derived.Test.Qxb6605196aModsChecked
import Derived.Lib.Strings
import Derived.Lib.Slices
import Derived.Lib.Walk
import Derived.Lib.Bytes
import Derived.Test.Qxb6605196aModsBytesEqual
namespace Go.Proofs

set_option maxHeartbeats 1000000 in
/-- bytes.HasPrefix: "HasPrefix reports whether the byte slice s begins with prefix.": IT RETURNS 'Lib.hasPrefix (the bytes of s) (the bytes of prefix)'; the world is as it was. ITS CALLEE bytes.Equal IS MET BY ITS OWN CONTRACT OFF THE SHELF (lay that first). 'xs', 'ys': the numbers that the two slices' cells hold. -/
theorem Trym.bytes_HasPrefix (b1 o1 n c b2 o2 m d : Nat) (xs ys : List Int) (w : World) (hx : xs.length = n) (hy : ys.length = m) (hnc : n ≤ c)
    (hc1 : ∀ i, i < n → w.cell? ⟨b1, o1 + i, none⟩ = some (.int .u8 (xs.getD i 0))) (hc2 : ∀ i, i < m → w.cell? ⟨b2, o2 + i, none⟩ = some (.int .u8 (ys.getD i 0))) :
    Calls Trym.prog 23 #[.slice (some ⟨b1, o1, none⟩) n c, .slice (some ⟨b2, o2, none⟩) m d] w fun e w' => e = .returned (.bool (Lib.hasPrefix (Lib.bytesOf xs) (Lib.bytesOf ys))) ∧ w' = w := by
  rw [← Lib.bytes_hasPrefix, hx, hy]
  have g2 := run_convert_bytes_arg (P := Trym.prog) w 22 5 Trym.underlying22 Trym.underlying5 b2 o2 m d ys hy hc2 9 Trym.underlying9
  have g1 : m ≤ n → (convert 22 9 (.slice (some ⟨b1, o1, none⟩) m c)).run Trym.prog w = .ok (.string (strOfNums (xs.take m))) w := fun h =>
    run_convert_bytes_arg (P := Trym.prog) w 22 5 Trym.underlying22 Trym.underlying5 b1 o1 m c (xs.take m) (by simp; omega) (fun i hi => by rw [Lib.getD_take _ _ _ hi]; exact hc1 i (by omega)) 9 Trym.underlying9
  go_enter Trym.func23, Trym.ntmps23
  go_wp2_with (go_at_call 24; refine (Trym.bytes_Equal _ _ (xs.take m) ys _ (g1 (by assumption)) g2).mono ?_; rintro e w' ⟨rfl, rfl⟩)
  · have h : m ≤ n := by assumption
    go_ret
    refine ⟨?_, rfl⟩
    rw [decide_eq_true h, Bool.true_and]
    rfl
  · have h : ¬ m ≤ n := by assumption
    go_ret
    refine ⟨?_, rfl⟩
    rw [decide_eq_false h, Bool.false_and]
    rfl

#print axioms Trym.bytes_HasPrefix
end Go.Proofs
