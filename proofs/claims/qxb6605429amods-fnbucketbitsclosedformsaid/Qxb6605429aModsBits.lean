/-
  SEAT b6605429aM: THE WALKS OF bucketBits, zzBitLen, zzLoadFits.
-/
import Derived.Test.Qxb6605429aModsRows
import Derived.WalkKit
import Derived.WalkSpells
import Derived.WalkLawsBesides
import Derived.Below
import Derived.Deep.Light
namespace Go.Proofs.Qxb6605429aMods
open Go.RowKit

theorem ret_int {k : IntKind} {a b : Int} (h : a = b) : Ending.returned (.int k a) = .returned (.int k b) := by rw [h]
theorem ret_bool {a b : Bool} (h : a = b) : Ending.returned (.bool a) = .returned (.bool b) := by rw [h]

/-- What bucketBits answers at n: enough bits, and not one too many. -/
def Bits (n : Int) (b : Nat) : Prop := b ≤ 56 ∧ n ≤ 64 * 2 ^ b ∧ (b = 0 ∨ 32 * 2 ^ b < n)

theorem pow_le (b : Nat) (h : b ≤ 56) : (1 : Int) ≤ 2 ^ b ∧ (2 : Int) ^ b ≤ 72057594037927936 := by
  have h1 : 2 ^ b ≤ 2 ^ 56 := Nat.pow_le_pow_right (by omega) h
  have h2 : 1 ≤ 2 ^ b := Nat.one_le_two_pow
  have e : ((2 ^ b : Nat) : Int) = (2 : Int) ^ b := by simp
  rw [show (2 : Nat) ^ 56 = 72057594037927936 from rfl] at h1
  omega
theorem wrap_64 (b : Nat) (h : b ≤ 56) : wrap64 (64 * 2 ^ b) = 64 * 2 ^ b := by
  have := pow_le b h
  exact Go.IntWalk.wrap64_in _ (by omega)
theorem wrap_32 (b : Nat) (h : b ≤ 56) : wrap64 (32 * 2 ^ b) = 32 * 2 ^ b := by
  have := pow_le b h
  exact Go.IntWalk.wrap64_in _ (by omega)
theorem pow_succ' (b : Nat) : (2 : Int) ^ (b + 1) = 2 * 2 ^ b := by rw [Int.pow_succ]; omega
/-- One bit more is wanted: b was not the last. -/
theorem bits_more {n : Int} {b : Nat} (hn : n ≤ 4611686018427387904) (hb : b ≤ 56) (h : wrap64 (64 * 2 ^ b) < n) : b + 1 ≤ 56 ∧ (b + 1 = 0 ∨ 32 * 2 ^ (b + 1) < n) := by
  rw [wrap_64 b hb] at h
  refine ⟨?_, .inr (by rw [pow_succ']; omega)⟩
  by_cases e : b = 56
  · subst e
    rw [show (2 : Int) ^ 56 = 72057594037927936 from rfl] at h
    omega
  · omega
theorem bits_done {n : Int} {b : Nat} (hb : b ≤ 56) (h : n ≤ wrap64 (64 * 2 ^ b)) (h2 : b = 0 ∨ 32 * 2 ^ b < n) : Bits n b := by
  rw [wrap_64 b hb] at h
  exact ⟨hb, h, h2⟩

set_option maxHeartbeats 400000 in
theorem bucketBits_any (n : Int) (w : World) (hn : n ≤ 4611686018427387904) :
    Calls Trym.prog 14 #[.int .i64 n] w fun e w' => ∃ b : Nat, e = .returned (.int .u8 b) ∧ w = w' ∧ Bits n b := by
  go_enter Trym.func14, Trym.ntmps14
  go_wp2
  go_loop [3] (fun t => ∃ b : Nat, t = .int .u8 b ∧ b ≤ 56 ∧ Hid (b = 0 ∨ 32 * 2 ^ b < n)) (fun t => 57 - (intOf t).toNat)
  case atStart => exact ⟨0, rfl, by omega, .inl rfl⟩
  case round =>
    obtain ⟨b, rfl, hb, HB⟩ := hrel
    go_wp2
    · have h : wrap64 (64 * 2 ^ b) < n := by assumption
      obtain ⟨h1, h2⟩ := bits_more hn hb h
      go_round
      case rel => exact ⟨b + 1, by go_num, h1, h2⟩
      case measure => simp [intOf]; omega
    · have h : n ≤ wrap64 (64 * 2 ^ b) := by assumption
      go_ret
      exact ⟨b, rfl, rfl, bits_done hb h HB.out⟩

theorem zzBucketBits_any (n : Int) (w : World) (hn : n ≤ 4611686018427387904) :
    Calls Trym.prog 6 #[.int .i64 n] w fun e w' => ∃ b : Nat, e = .returned (.int .u8 b) ∧ w = w' ∧ Bits n b := by
  have HH : Hid (Calls Trym.prog 14 #[.int .i64 n] w fun e w' => ∃ b : Nat, e = .returned (.int .u8 b) ∧ w = w' ∧ Bits n b) := bucketBits_any n w hn
  clear hn
  go_enter Trym.func6, Trym.ntmps6
  go_wp2_with (go_at_call 14; refine (HH.out).mono ?_; rintro e w' ⟨b, rfl, rfl, hb⟩)
  go_ret
  exact ⟨b, rfl, rfl, hb⟩

theorem pow_pos' (k : Nat) : (0 : Int) < 2 ^ k := by
  have h2 : 1 ≤ 2 ^ k := Nat.one_le_two_pow
  have e : ((2 ^ k : Nat) : Int) = (2 : Int) ^ k := by simp
  omega
theorem pow_mono' {a b : Nat} (h : a ≤ b) : (2 : Int) ^ a ≤ 2 ^ b := by
  have h1 : 2 ^ a ≤ 2 ^ b := Nat.pow_le_pow_right (by omega) h
  have e1 : ((2 ^ a : Nat) : Int) = (2 : Int) ^ a := by simp
  have e2 : ((2 ^ b : Nat) : Int) = (2 : Int) ^ b := by simp
  omega
theorem div_step (x : Int) (k : Nat) : x / 2 ^ k / 2 = x / 2 ^ (k + 1) := by
  have := pow_pos' k
  rw [Int.ediv_ediv, if_neg (by omega), pow_succ', Int.mul_comm]
  omega
theorem div_pos {x : Int} {k : Nat} (h0 : 0 ≤ x) (h : (x / 2 ^ k != 0) = true) : 2 ^ k ≤ x ∧ 0 < x / 2 ^ k := by
  have h1 : x / 2 ^ k ≠ 0 := by simpa using h
  have h2 : 0 ≤ x / 2 ^ k := Int.ediv_nonneg h0 (by have := pow_pos' k; omega)
  refine ⟨?_, by omega⟩
  by_cases hlt : x < 2 ^ k
  · exact absurd (Int.ediv_eq_zero_of_lt h0 hlt) h1
  · omega
theorem div_zero' {x : Int} {k : Nat} (h : (x / 2 ^ k != 0) = false) : x < 2 ^ k := by
  have h1 : x / 2 ^ k = 0 := by simpa using h
  have := Int.lt_ediv_add_one_mul_self x (pow_pos' k)
  rw [h1] at this
  omega

/-- What zzBitLen answers at x: the bit length. -/
def Len (x : Int) (k : Nat) : Prop := x < 2 ^ k ∧ (k = 0 ∨ 2 ^ (k - 1) ≤ x)

set_option maxHeartbeats 400000 in
theorem bitLen_any (x : Int) (w : World) (h0 : 0 ≤ x) (h1 : x < 18446744073709551616) :
    Calls Trym.prog 7 #[.int .u64 x] w fun e w' => ∃ k : Nat, e = .returned (.int .i64 k) ∧ w = w' ∧ Len x k := by
  go_enter Trym.func7, Trym.ntmps7
  go_wp2
  go_loop [0, 3] (fun t c => ∃ k : Nat, t = .int .u64 (x / 2 ^ k) ∧ c = .int .i64 k ∧ k ≤ 64 ∧ Hid (k = 0 ∨ 2 ^ (k - 1) ≤ x)) (fun t _ => (intOf t).toNat)
  case atStart => exact ⟨0, by simp, rfl, by omega, .inl rfl⟩
  case round =>
    obtain ⟨k, rfl, rfl, hk, HB⟩ := hrel
    go_wp2
    · have h : (x / 2 ^ k != 0) = true := by assumption
      obtain ⟨p1, p2⟩ := div_pos h0 h
      have hk64 : k + 1 ≤ 64 := by
        by_cases e : k = 64
        · subst e
          rw [show (2 : Int) ^ 64 = 18446744073709551616 from rfl] at p1
          omega
        · omega
      go_round
      case rel => exact ⟨k + 1, by rw [div_step], by go_num, hk64, .inr p1⟩
      case measure => simp only [intOf]; omega
    · have h : (x / 2 ^ k != 0) = false := by assumption
      go_ret
      exact ⟨k, rfl, rfl, div_zero' h, HB.out⟩

/-! ### The plain laws -/

theorem bits_small {n : Int} {b : Nat} (h : Bits n b) (hn : n ≤ 64) : b = 0 := by
  obtain ⟨_, _, h3⟩ := h
  rcases h3 with h3 | h3
  · exact h3
  · by_cases e : b = 0
    · exact e
    · have := pow_mono' (show 1 ≤ b by omega)
      rw [show (2 : Int) ^ 1 = 2 from rfl] at this
      omega
theorem bits_big {n : Int} {b : Nat} (h : Bits n b) (hn : 64 < n) : 32 * 2 ^ b < n := by
  obtain ⟨_, h2, h3⟩ := h
  rcases h3 with rfl | h3
  · rw [show (2 : Int) ^ 0 = 1 from rfl] at *
    omega
  · exact h3
/-- An index with more entries never has fewer bits. -/
theorem bits_order {n m : Int} {a b : Nat} (ha : Bits n a) (hb : Bits m b) (h : n ≤ m) : a ≤ b := by
  by_cases e : a ≤ b
  · exact e
  · obtain ⟨_, _, h3⟩ := ha
    obtain ⟨_, h4, _⟩ := hb
    rcases h3 with h3 | h3
    · omega
    · have := pow_mono' (show b + 1 ≤ a by omega)
      rw [pow_succ'] at this
      omega
/-- The bit length of n-1 is b + 6. -/
theorem len_of_bits {n : Int} {b k : Nat} (h : Bits n b) (hn : 64 < n) (hk : Len (n - 1) k) : k = b + 6 := by
  have h1 := bits_big h hn
  obtain ⟨_, h2, _⟩ := h
  obtain ⟨k1, k2⟩ := hk
  have e6 : (2 : Int) ^ (b + 6) = 64 * 2 ^ b := by rw [Int.pow_add]; rw [show (2 : Int) ^ 6 = 64 from rfl]; omega
  have e5 : (2 : Int) ^ (b + 5) = 32 * 2 ^ b := by rw [Int.pow_add]; rw [show (2 : Int) ^ 5 = 32 from rfl]; omega
  by_cases c1 : k < b + 6
  · have := pow_mono' (show k ≤ b + 5 by omega)
    omega
  · by_cases c2 : b + 6 < k
    · rcases k2 with k2 | k2
      · omega
      · have := pow_mono' (show b + 6 ≤ k - 1 by omega)
        omega
    · omega

end Go.Proofs.Qxb6605429aMods
