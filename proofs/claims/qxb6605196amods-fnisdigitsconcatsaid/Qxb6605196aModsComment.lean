/-
  SEAT b6605196aM: THE WALKS OF isComment AND OF ITS MODEL.
-/
import Derived.Test.Qxb6605196aModsBase
namespace Go.Proofs.Qxb6605196aMods
open Go.RowKit

/-- isControl's byte test. -/
def ctl (c : Int) : Bool := decide ((c < 32 ∧ c ≠ 9) ∨ c = 127)

set_option maxHeartbeats 400000 in
theorem isControl_any (c : Int) (w : World) :
    Calls Trym.prog 22 #[.int .u8 c] w fun e w' => e = .returned (.bool (ctl c)) ∧ w' = w := by
  go_enter Trym.func22, Trym.ntmps22
  go_wp2
  all_goals (go_ret; refine ⟨ret_bool ?_, rfl⟩; rw [Bool.eq_iff_iff]; simp [ctl]; omega)

set_option maxHeartbeats 400000 in
theorem commentByte_any (c : Int) (w : World) :
    Calls Trym.prog 19 #[.int .u8 c] w fun e w' => e = .returned (.bool (!ctl c)) ∧ w' = w := by
  by_cases h1 : c = 9
  · subst h1
    go_enter Trym.func19, Trym.ntmps19
    go_wp2
    go_ret
    exact ⟨rfl, rfl⟩
  by_cases h2 : c < 32
  · have e : ctl c = true := by simp [ctl]; omega
    go_enter Trym.func19, Trym.ntmps19
    go_wp2
    go_ret
    exact ⟨ret_bool (by rw [e]; rfl), rfl⟩
  by_cases h3 : c = 127
  · subst h3
    go_enter Trym.func19, Trym.ntmps19
    go_wp2
    go_ret
    exact ⟨rfl, rfl⟩
  · have e : ctl c = false := by simp [ctl]; omega
    go_enter Trym.func19, Trym.ntmps19
    go_wp2
    go_ret
    exact ⟨rfl, rfl⟩

/-- isComment over the bytes. -/
def cmt (zs : List Int) : Bool := zs.all fun c => !ctl c

theorem cmt_take_succ (zs : List Int) (k : Nat) (h : k < zs.length) : cmt (zs.take (k + 1)) = (cmt (zs.take k) && !ctl (zs.getD k 0)) := by
  unfold cmt
  rw [List.take_succ_eq_append_getElem h, List.all_append]
  simp [List.getD_eq_getElem?_getD, List.getElem?_eq_getElem h]
theorem cmt_of_take (zs : List Int) (k : Nat) (h : cmt (zs.take k) = false) : cmt zs = false := by
  unfold cmt at *
  rw [List.all_eq_false] at *
  obtain ⟨x, hx, hc⟩ := h
  exact ⟨x, List.mem_of_mem_take hx, hc⟩

set_option maxHeartbeats 400000 in
theorem isComment_any (a : Option Addr) (zs : List Int) (n c : Nat) (w : World) (hn : zs.length = n) (hb : n ≤ 1048576) (hs : Sl w a zs) :
    Calls Trym.prog 18 #[.slice a n c] w fun e w' => e = .returned (.bool (cmt zs)) ∧ w' = w := by
  obtain ⟨hs, -⟩ := hs
  have HN : Hid (zs.length = n) := hn
  clear hn
  go_enter Trym.func18, Trym.ntmps18
  go_wp2
  go_loop [7] (fun i => ∃ k : Nat, k ≤ n ∧ i = .int .i64 k ∧ Hid (cmt (zs.take k) = true)) (fun i => n - (intOf i).toNat)
  case atStart => exact ⟨0, Nat.zero_le _, rfl, rfl⟩
  case round =>
    obtain ⟨k, hk, rfl, HC⟩ := hrel
    by_cases hlt : k < n
    · rcases hs with rfl | ⟨b, o, rfl, hbs, hc⟩
      · exact absurd HN.out (by simp; omega)
      have g := hc k (by rw [HN.out]; exact hlt)
      have HT := cmt_take_succ zs k (by rw [HN.out]; exact hlt)
      rw [HC.out, Bool.true_and] at HT
      have HT2 : Hid (cmt (zs.take (k + 1)) = !ctl (zs.getD k 0)) := HT
      clear HT hc
      have HF : Hid (cmt (zs.take (k + 1)) = false → cmt zs = false) := cmt_of_take zs (k + 1)
      go_wp2_with (go_at_call 22; refine (isControl_any _ _).mono ?_; rintro e w' ⟨rfl, rfl⟩)
      · go_ret
        have h1 : ctl (zs[k]?.getD 0) = true := by assumption
        refine ⟨ret_bool (HF.out ?_).symm, rfl⟩
        rw [HT2.out, List.getD_eq_getElem?_getD, h1]; rfl
      · have h1 : ctl (zs[k]?.getD 0) = false := by assumption
        go_round
        case rel => exact ⟨k + 1, by omega, by go_num, by show _ = _; rw [HT2.out, List.getD_eq_getElem?_getD, h1]; rfl⟩
        case measure => simp [intOf]; omega
    · go_wp2
      go_ret
      refine ⟨ret_bool ?_, rfl⟩
      have := HC.out
      rw [List.take_of_length_le (by rw [HN.out]; omega)] at this
      exact this.symm

/-- ZZisComment passes on. -/
theorem zzIsComment_any (a : Option Addr) (zs : List Int) (n c : Nat) (w : World) (hn : zs.length = n) (hb : n ≤ 1048576) (hs : Sl w a zs) :
    Calls Trym.prog 9 #[.slice a n c] w fun e w' => e = .returned (.bool (cmt zs)) ∧ w' = w := by
  have H := isComment_any a zs n c w hn hb hs
  have HH : Hid (Calls Trym.prog 18 #[.slice a n c] w fun e w' => e = .returned (.bool (cmt zs)) ∧ w' = w) := H
  clear H hn hs
  go_enter Trym.func9, Trym.ntmps9
  go_wp2_with (go_at_call 18; refine (HH.out).mono ?_; rintro e w' ⟨rfl, rfl⟩)
  go_ret
  exact ⟨rfl, rfl⟩

/-- How many bytes the table refuses. -/
def refs (zs : List Int) : Nat := (zs.filter fun c => ctl c).length
theorem refs_take_succ (zs : List Int) (k : Nat) (h : k < zs.length) : refs (zs.take (k + 1)) = refs (zs.take k) + (if ctl (zs.getD k 0) = true then 1 else 0) := by
  unfold refs
  rw [List.take_succ_eq_append_getElem h, List.filter_append]
  have e : zs.getD k 0 = zs[k] := by simp [List.getD_eq_getElem?_getD, List.getElem?_eq_getElem h]
  rw [e]
  by_cases hc : ctl zs[k] = true <;> simp [hc]
theorem refs_le (zs : List Int) (k : Nat) : refs (zs.take k) ≤ k := by
  unfold refs
  have h1 := List.length_filter_le (fun c => ctl c) (zs.take k)
  have h2 : (zs.take k).length ≤ k := List.length_take_le _ _
  omega
theorem refs_zero (zs : List Int) : (refs zs = 0) ↔ cmt zs = true := by
  unfold refs cmt
  rw [List.length_eq_zero_iff, List.filter_eq_nil_iff, List.all_eq_true]
  simp

set_option maxHeartbeats 400000 in
theorem commentModel_any (a : Option Addr) (zs : List Int) (n c : Nat) (w : World) (hn : zs.length = n) (hb : n ≤ 1048576) (hs : Sl w a zs) :
    Calls Trym.prog 10 #[.slice a n c] w fun e w' => e = .returned (.bool (cmt zs)) ∧ w' = w := by
  obtain ⟨hs, -⟩ := hs
  have HN : Hid (zs.length = n) := hn
  clear hn
  go_enter Trym.func10, Trym.ntmps10
  go_wp2
  go_loop [3, 4] (fun r i => ∃ k : Nat, k ≤ n ∧ i = .int .i64 k ∧ r = .int .i64 (refs (zs.take k))) (fun _ i => n - (intOf i).toNat)
  case atStart => exact ⟨0, Nat.zero_le _, rfl, by simp [refs]⟩
  case round =>
    obtain ⟨k, hk, rfl, rfl⟩ := hrel
    have hr := refs_le zs k
    by_cases hlt : k < n
    · rcases hs with rfl | ⟨b, o, rfl, hbs, hc⟩
      · exact absurd HN.out (by simp; omega)
      have g := hc k (by rw [HN.out]; exact hlt)
      have HT2 : Hid (refs (zs.take (k + 1)) = refs (zs.take k) + (if ctl (zs.getD k 0) = true then 1 else 0)) := refs_take_succ zs k (by rw [HN.out]; exact hlt)
      clear hc
      go_wp2_with (go_at_call 19; refine (commentByte_any _ _).mono ?_; rintro e w' ⟨rfl, rfl⟩)
      · have h1 : ctl (zs[k]?.getD 0) = true := by assumption
        go_round
        case rel => exact ⟨k + 1, by omega, by go_num, by rw [HT2.out, List.getD_eq_getElem?_getD, if_pos h1]; go_num⟩
        case measure => simp [intOf]; omega
      · have h1 : ctl (zs[k]?.getD 0) = false := by assumption
        go_round
        case rel => exact ⟨k + 1, by omega, by go_num, by rw [HT2.out, List.getD_eq_getElem?_getD, if_neg (by rw [h1]; decide)]; rfl⟩
        case measure => simp [intOf]; omega
    · go_wp2
      go_ret
      refine ⟨ret_bool ?_, rfl⟩
      rw [List.take_of_length_le (by rw [HN.out]; omega)]
      have hz := refs_zero zs
      rw [Bool.eq_iff_iff, ← hz, beq_iff_eq]
      omega

end Go.Proofs.Qxb6605196aMods
