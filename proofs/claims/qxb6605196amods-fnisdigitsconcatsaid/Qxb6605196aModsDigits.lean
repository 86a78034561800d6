/-
  SEAT b6605196aM: THE WALKS OF isDigits AND OF ITS MODEL.
-/
import Derived.Test.Qxb6605196aModsBase
namespace Go.Proofs.Qxb6605196aMods
open Go.RowKit

def isd (c : Int) : Bool := decide (48 ≤ c ∧ c ≤ 57)
/-- Every byte is a digit. -/
def alld (zs : List Int) : Bool := zs.all isd
/-- isDigits over the bytes. -/
def dig (zs : List Int) : Bool := decide (0 < zs.length) && alld zs

theorem alld_take_succ (zs : List Int) (k : Nat) (h : k < zs.length) : alld (zs.take (k + 1)) = (alld (zs.take k) && isd (zs.getD k 0)) := by
  unfold alld
  rw [List.take_succ_eq_append_getElem h, List.all_append]
  simp [List.getD_eq_getElem?_getD, List.getElem?_eq_getElem h]
theorem alld_of_take (zs : List Int) (k : Nat) (h : alld (zs.take k) = false) : alld zs = false := by
  unfold alld at *
  rw [List.all_eq_false] at *
  obtain ⟨x, hx, hc⟩ := h
  exact ⟨x, List.mem_of_mem_take hx, hc⟩

set_option maxHeartbeats 400000 in
theorem isDigits_any (a : Option Addr) (zs : List Int) (n c : Nat) (w : World) (hn : zs.length = n) (hb : n ≤ 1048576) (hs : Sl w a zs) :
    Calls Trym.prog 20 #[.slice a n c] w fun e w' => e = .returned (.bool (dig zs)) ∧ w = w' := by
  obtain ⟨hs, -⟩ := hs
  have HN : Hid (zs.length = n) := hn
  clear hn
  go_enter Trym.func20, Trym.ntmps20
  go_wp2
  go_loop [7] (fun i => ∃ k : Nat, k ≤ n ∧ i = .int .i64 k ∧ Hid (alld (zs.take k) = true)) (fun i => n - (intOf i).toNat)
  case atStart => exact ⟨0, Nat.zero_le _, rfl, rfl⟩
  case round =>
    obtain ⟨k, hk, rfl, HC⟩ := hrel
    by_cases hlt : k < n
    · rcases hs with rfl | ⟨b, o, rfl, hbs, hc⟩
      · exact absurd HN.out (by simp; omega)
      have g := hc k (by rw [HN.out]; exact hlt)
      have HT := alld_take_succ zs k (by rw [HN.out]; exact hlt)
      rw [HC.out, Bool.true_and] at HT
      obtain ⟨x, hx⟩ : ∃ x, zs.getD k 0 = x := ⟨_, rfl⟩
      rw [hx] at HT g
      have HT2 : Hid (alld (zs.take (k + 1)) = isd x) := HT
      have HF : Hid (alld (zs.take (k + 1)) = false → dig zs = false) := fun h => by unfold dig; rw [alld_of_take zs (k + 1) h, Bool.and_false]
      clear HT hc hx
      by_cases h1 : x < 48
      · go_wp2
        go_ret
        exact ⟨ret_bool (HF.out (by rw [HT2.out]; simp [isd]; omega)).symm, rfl⟩
      · by_cases h2 : 57 < x
        · go_wp2
          go_ret
          exact ⟨ret_bool (HF.out (by rw [HT2.out]; simp [isd]; omega)).symm, rfl⟩
        · go_wp2
          go_round
          case rel => first | exact ⟨k + 1, by omega, by go_num, by show _ = _; rw [HT2.out]; simp [isd]; omega⟩ | exact ⟨_, _, ⟨k + 1, by omega, by go_num, by show _ = _; rw [HT2.out]; simp [isd]; omega⟩, rfl, rfl⟩
          case measure => simp [intOf]; omega
    · have HE : Hid (dig zs = decide (0 < n)) := by
        have := HC.out
        rw [List.take_of_length_le (by rw [HN.out]; omega)] at this
        show _ = _
        unfold dig
        rw [this, HN.out, Bool.and_true]
      go_wp2
      go_ret
      refine ⟨ret_bool ?_, rfl⟩
      rw [HE.out]

/-- ZZisDigits passes on. -/
theorem zzIsDigits_any (a : Option Addr) (zs : List Int) (n c : Nat) (w : World) (hn : zs.length = n) (hb : n ≤ 1048576) (hs : Sl w a zs) :
    Calls Trym.prog 12 #[.slice a n c] w fun e w' => e = .returned (.bool (dig zs)) ∧ w = w' := by
  have HH : Hid (Calls Trym.prog 20 #[.slice a n c] w fun e w' => e = .returned (.bool (dig zs)) ∧ w = w') := isDigits_any a zs n c w hn hb hs
  clear hn hs
  go_enter Trym.func12, Trym.ntmps12
  go_wp2_with (go_at_call 20; refine (HH.out).mono ?_; rintro e w' ⟨rfl, rfl⟩)
  go_ret
  exact ⟨rfl, rfl⟩

/-- How many bytes are digits. -/
def digs (zs : List Int) : Nat := (zs.filter isd).length
theorem digs_take_succ (zs : List Int) (k : Nat) (h : k < zs.length) : digs (zs.take (k + 1)) = digs (zs.take k) + (if isd (zs.getD k 0) = true then 1 else 0) := by
  unfold digs
  rw [List.take_succ_eq_append_getElem h, List.filter_append]
  have e : zs.getD k 0 = zs[k] := by simp [List.getD_eq_getElem?_getD, List.getElem?_eq_getElem h]
  rw [e]
  by_cases hc : isd zs[k] = true <;> simp [hc]
theorem digs_le (zs : List Int) (k : Nat) : digs (zs.take k) ≤ k := by
  unfold digs
  have h1 := List.length_filter_le isd (zs.take k)
  have h2 : (zs.take k).length ≤ k := List.length_take_le _ _
  omega
theorem digs_all (zs : List Int) : (digs zs = zs.length) ↔ alld zs = true := by
  unfold digs alld
  rw [List.length_filter_eq_length_iff, List.all_eq_true]

set_option maxHeartbeats 400000 in
theorem digitsModel_any (a : Option Addr) (zs : List Int) (n c : Nat) (w : World) (hn : zs.length = n) (hb : n ≤ 1048576) (hs : Sl w a zs) :
    Calls Trym.prog 13 #[.slice a n c] w fun e w' => e = .returned (.bool (dig zs)) ∧ w = w' := by
  obtain ⟨hs, hz⟩ := hs
  have HZ : Hid (∀ m ∈ zs, 0 ≤ m ∧ m ≤ 255) := hz
  have HN : Hid (zs.length = n) := hn
  clear hn hz
  go_enter Trym.func13, Trym.ntmps13
  go_wp2
  go_loop [3, 4] (fun r i => ∃ k : Nat, k ≤ n ∧ i = .int .i64 k ∧ r = .int .i64 (digs (zs.take k))) (fun _ i => n - (intOf i).toNat)
  case atStart => exact ⟨0, Nat.zero_le _, rfl, by simp [digs]⟩
  case round =>
    obtain ⟨k, hk, rfl, rfl⟩ := hrel
    have hr := digs_le zs k
    by_cases hlt : k < n
    · rcases hs with rfl | ⟨b, o, rfl, hbs, hc⟩
      · exact absurd HN.out (by simp; omega)
      have hkl : k < zs.length := by rw [HN.out]; exact hlt
      have g := hc k hkl
      have HT := digs_take_succ zs k hkl
      have hx0 := HZ.out (zs.getD k 0) (by rw [List.getD_eq_getElem?_getD, List.getElem?_eq_getElem hkl]; exact List.getElem_mem hkl)
      obtain ⟨x, hx⟩ : ∃ x, zs.getD k 0 = x := ⟨_, rfl⟩
      rw [hx] at HT g hx0
      obtain ⟨x1, x2⟩ := hx0
      have HT2 : Hid (digs (zs.take (k + 1)) = digs (zs.take k) + (if isd x = true then 1 else 0)) := HT
      clear HT hc hx hkl
      go_wp2
      · have h : (x - 48) % 256 < 10 := by assumption
        have e : isd x = true := by simp [isd]; omega
        go_round
        case rel => exact ⟨k + 1, by omega, by go_num, by rw [HT2.out, if_pos e]; go_num⟩
        case measure => simp [intOf]; omega
      · have h : 10 ≤ (x - 48) % 256 := by assumption
        have e : ¬ isd x = true := by simp [isd]; omega
        go_round
        case rel => exact ⟨k + 1, by omega, by go_num, by rw [HT2.out, if_neg e]; rfl⟩
        case measure => simp [intOf]; omega
    · have HE : Hid (digs (zs.take k) = n ↔ alld zs = true) := by
        rw [List.take_of_length_le (by rw [HN.out]; omega), ← HN.out]
        exact digs_all zs
      by_cases h0 : n = 0
      · have HD : Hid (dig zs = false) := by show _ = _; unfold dig; rw [HN.out, h0]; rfl
        subst h0
        go_wp2
        go_ret
        exact ⟨ret_bool HD.out.symm, rfl⟩
      · have HD : Hid (dig zs = alld zs) := by show _ = _; unfold dig; rw [HN.out, decide_eq_true (by omega), Bool.true_and]
        have hn0 : (0 : Int) < (n : Int) := by omega
        go_wp2
        go_ret
        refine ⟨ret_bool ?_, rfl⟩
        rw [HD.out, Bool.eq_iff_iff, ← HE.out]
        simp
        try omega

theorem dig_cmt_byte (c : Int) (h : isd c = true) : (48 ≤ c ∧ c ≤ 57) := by simpa [isd] using h
theorem alld_append (zs ys : List Int) : alld (zs ++ ys) = (alld zs && alld ys) := by simp [alld, List.all_append]

end Go.Proofs.Qxb6605196aMods
