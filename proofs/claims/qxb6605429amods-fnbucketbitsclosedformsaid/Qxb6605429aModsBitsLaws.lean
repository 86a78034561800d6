/-
  SEAT b6605429aM: THE WALKS OF FnBucketBitsClosedForm AND FnBucketBitsLoadAndOrder.
-/
import Derived.Test.Qxb6605429aModsBits
namespace Go.Proofs.Qxb6605429aMods
open Go.RowKit

theorem wf_i64 {n : Int} (h : (Lit.int .i64 n).wf = true) : -9223372036854775808 ≤ n ∧ n ≤ 9223372036854775807 := by
  simp only [Lit.wf, Bool.and_eq_true, decide_eq_true_eq] at h
  exact h

set_option maxHeartbeats 400000 in
theorem closed_walk (n : Int) (w : World) (h0 : -9223372036854775808 ≤ n) (h1 : n ≤ 9223372036854775807) :
    Calls Trym.prog 3 #[.int .i64 n] w fun e w' => e = .returned (.bool true) ∧ w = w' := by
  by_cases hn : n ≤ 4611686018427387904
  · have HH : Hid (∀ w, Calls Trym.prog 6 #[.int .i64 n] w fun e w' => ∃ b : Nat, e = .returned (.int .u8 b) ∧ w = w' ∧ Bits n b) := fun w => zzBucketBits_any n w hn
    by_cases h64 : n ≤ 64
    · go_enter Trym.func3, Trym.ntmps3
      go_wp2_with (go_at_call 6; refine (HH.out _).mono ?_; rintro e w' ⟨b, rfl, rfl, hb⟩; obtain rfl := bits_small hb h64)
      go_ret
      exact ⟨rfl, rfl⟩
    · have HL : Hid (∀ w, Calls Trym.prog 7 #[.int .u64 (n - 1)] w fun e w' => ∃ k : Nat, e = .returned (.int .i64 k) ∧ w = w' ∧ Len (n - 1) k) := fun w => bitLen_any (n - 1) w (by omega) (by omega)
      go_enter Trym.func3, Trym.ntmps3
      go_wp2_with (go_at_call 6; refine (HH.out _).mono ?_; rintro e w' ⟨b, rfl, rfl, hb⟩; have hb56 := hb.1)
      refine (HL.out _).mono ?_
      rintro e w' ⟨k, rfl, rfl, hk⟩
      obtain rfl := len_of_bits hb (by omega) hk
      go_wp2
      go_ret
      refine ⟨ret_bool ?_, rfl⟩
      simp
  · have hn' : (4611686018427387904 : Int) < n := by omega
    go_enter Trym.func3, Trym.ntmps3
    go_wp2_with fail
    go_ret
    exact ⟨rfl, rfl⟩

set_option maxHeartbeats 400000 in
theorem loadFits_any (n : Int) (b : Nat) (w : World) (hb : Bits n b) :
    Calls Trym.prog 8 #[.int .i64 n, .int .u8 b] w fun e w' => e = .returned (.bool true) ∧ w = w' := by
  by_cases h64 : n ≤ 64
  · obtain rfl := bits_small hb h64
    clear hb
    go_enter Trym.func8, Trym.ntmps8
    go_wp2
    go_ret
    exact ⟨rfl, rfl⟩
  · have hb56 := hb.1
    have h1 : wrap64 (32 * 2 ^ b) < n := by rw [wrap_32 b hb56]; exact bits_big hb (by omega)
    have h2 : n ≤ wrap64 (64 * 2 ^ b) := by rw [wrap_64 b hb56]; exact hb.2.1
    clear hb
    go_enter Trym.func8, Trym.ntmps8
    go_wp2
    go_ret
    refine ⟨ret_bool ?_, rfl⟩
    simp

set_option maxHeartbeats 1000000 in
theorem order_walk (n m : Int) (w : World) (h0 : -9223372036854775808 ≤ n) (h1 : n ≤ 9223372036854775807) (m0 : -9223372036854775808 ≤ m) (m1 : m ≤ 9223372036854775807) :
    Calls Trym.prog 4 #[.int .i64 n, .int .i64 m] w fun e w' => e = .returned (.bool true) ∧ w = w' := by
  by_cases hn : n ≤ 4611686018427387904
  · by_cases hm : m ≤ 4611686018427387904
    · have HN : Hid (∀ w, Calls Trym.prog 6 #[.int .i64 n] w fun e w' => ∃ b : Nat, e = .returned (.int .u8 b) ∧ w = w' ∧ Bits n b) := fun w => zzBucketBits_any n w hn
      have HM : Hid (∀ w, Calls Trym.prog 6 #[.int .i64 m] w fun e w' => ∃ b : Nat, e = .returned (.int .u8 b) ∧ w = w' ∧ Bits m b) := fun w => zzBucketBits_any m w hm
      go_enter Trym.func4, Trym.ntmps4
      go_wp2_with fail
      refine (HN.out _).mono ?_
      rintro e w' ⟨a, rfl, rfl, ha⟩
      have ha56 := ha.1
      have HA : Hid (Bits n a) := ha
      clear ha
      go_wp2_with fail
      refine (HM.out _).mono ?_
      rintro e w' ⟨b, rfl, rfl, hb⟩
      have hb56 := hb.1
      have HB : Hid (Bits m b) := hb
      clear hb
      go_wp2_with fail
      refine (loadFits_any n a _ HA.out).mono ?_
      rintro e w' ⟨rfl, rfl⟩
      go_wp2_with fail
      refine (loadFits_any m b _ HB.out).mono ?_
      rintro e w' ⟨rfl, rfl⟩
      by_cases hle : n ≤ m
      · have o1 : a ≤ b := bits_order HA.out HB.out hle
        have o1' : ¬ (b : Int) < (a : Int) := by omega
        by_cases hge : m ≤ n
        · have o2 : b ≤ a := bits_order HB.out HA.out hge
          have o2' : ¬ (a : Int) < (b : Int) := by omega
          go_wp2
          go_ret
          exact ⟨rfl, rfl⟩
        · go_wp2
          go_ret
          exact ⟨rfl, rfl⟩
      · have hge : m ≤ n := by omega
        have o2 : b ≤ a := bits_order HB.out HA.out hge
        have o2' : ¬ (a : Int) < (b : Int) := by omega
        go_wp2
        go_ret
        exact ⟨rfl, rfl⟩
    · have hm' : (4611686018427387904 : Int) < m := by omega
      go_enter Trym.func4, Trym.ntmps4
      go_wp2_with fail
      go_ret
      exact ⟨rfl, rfl⟩
  · have hn' : (4611686018427387904 : Int) < n := by omega
    go_enter Trym.func4, Trym.ntmps4
    go_wp2_with fail
    go_ret
    exact ⟨rfl, rfl⟩

end Go.Proofs.Qxb6605429aMods
