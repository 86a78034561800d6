/-
  SEAT b6605196aM: THE WALK OF FnStringEndExact.
-/
import Derived.Test.Qxb6605196aModsCopy
import Derived.Test.Qxb6605196aModsModel
import Derived.Test.Qxb6605196aModsEnd
namespace Go.Proofs.Qxb6605196aMods
open Go.RowKit

/-- zzBytes: the length is at most 1<<20. -/
theorem exact_small (a : Option Addr) (n c : Nat) (x : Int) (w : World) (h : n ≤ 1048576) :
    Calls Trym.prog 14 #[.slice a n c, .int .i64 x] w fun e w' => e = .returned (.bool true) ∧ w = w' := by
  go_enter Trym.func14, Trym.ntmps14
  go_wp2
  go_ret
  exact ⟨rfl, rfl⟩
theorem exact_big (a : Option Addr) (n c : Nat) (x : Int) (w : World) (h : ¬ n ≤ 1048576) :
    Calls Trym.prog 14 #[.slice a n c, .int .i64 x] w fun e w' => e = .returned (.bool false) ∧ w = w' := by
  have h' : (1048576 : Int) < (n : Int) := by omega
  go_enter Trym.func14, Trym.ntmps14
  go_wp2
  go_ret
  exact ⟨rfl, rfl⟩

set_option maxHeartbeats 1000000 in
/-- The walk over what the walk is told in the end: the visible bytes. -/
theorem exact_walk (a0 : Option Addr) (n c : Nat) (zs : List Int) (a1 : Int) (w : World) (hn : zs.length = n) (hnm : n ≤ 9223372036854775807) (hs : Sl w a0 zs) :
    Calls Trym.prog 5 #[.slice a0 n c, .int .i64 a1] w fun e w' => e = .returned (.bool true) ∧ Below w.heap.size w w' := by
  by_cases h20 : n ≤ 1048576
  · have HC1 : Hid (∀ w, Calls Trym.prog 14 #[.slice a0 n c, .int .i64 a1] w fun e w' => e = .returned (.bool true) ∧ w = w') := fun w => exact_small a0 n c a1 w h20
    by_cases hneg : a1 < 0
    · go_enter Trym.func5, Trym.ntmps5
      go_wp2_with (go_at_call 14; refine (HC1.out _).mono ?_; rintro e w' ⟨rfl, rfl⟩)
      go_ret
      exact ⟨rfl, Below.refl _ _⟩
    by_cases hge : (n : Int) ≤ a1
    · go_enter Trym.func5, Trym.ntmps5
      go_wp2_with (go_at_call 14; refine (HC1.out _).mono ?_; rintro e w' ⟨rfl, rfl⟩)
      go_ret
      exact ⟨rfl, Below.refl _ _⟩
    obtain ⟨s, rfl⟩ := Int.eq_ofNat_of_zero_le (Int.not_lt.1 hneg)
    have hsn : s < n := by omega
    clear hneg hge
    have hs' := hs
    obtain ⟨hs1, hz⟩ := hs
    rcases hs1 with rfl | ⟨b, o, rfl, hbs, hc⟩
    · simp at hn; omega
    have g0 := hc s (by omega)
    obtain ⟨q, hq⟩ : ∃ q, zs.getD s 0 = q := ⟨_, rfl⟩
    rw [hq] at g0
    by_cases hqq : q = 34 ∨ q = 39
    · have hmk := run_make_row' (P := Trym.prog) 22 5 (.int .u8 0) 1 Trym.underlying22 Trym.info5 rfl .i64 .i64 n (by omega) (by omega)
      obtain ⟨w1, hF, hcp⟩ := copy_new w (some ⟨b, o, none⟩) n c zs hn hs'
      have hsl := hF.sl hn hz
      have hcell : ∀ i, i < n → w1.cell? ⟨w.heap.size, 0 + i, none⟩ = some (.int .u8 (zs.getD i 0)) := fun i hi => by
        rw [Nat.zero_add, hF.row.cell hi, if_pos hi]
      have HE : Hid (∀ w2, Below w1.heap.size w1 w2 → Calls Trym.prog 16 #[.slice (some ⟨w.heap.size, 0, none⟩) n n, .int .i64 s] w2 fun e w' => e = .returned (.int .i64 (strEnd zs s)) ∧ w2 = w') := fun w2 hB =>
        (model_any w.heap.size 0 n n s zs w2 hn h20 hsn (fun i hi => by rw [hB.cell (p := ⟨w.heap.size, 0 + i, none⟩) hF.row.lt]; exact hcell i hi)).mono fun e w' h => ⟨h.1, h.2.symm⟩
      have HZ : Hid (Calls Trym.prog 15 #[.slice (some ⟨w.heap.size, 0, none⟩) n n, .int .i64 s] w1 fun e w' => e = .returned (.int .i64 (strEnd zs s)) ∧ Below w1.heap.size w1 w') :=
        zzStringEnd_any w.heap.size 0 n n s zs w1 hn h20 hsn (Nat.le_refl _) hF.row.lt hz (by rw [hq]; exact hqq) hcell
      have HB : Hid (Below w.heap.size w w1) := hF.below
      have hsz := hF.size
      have HSZ : Hid (w1.heap.size = w.heap.size + 1) := hsz
      obtain ⟨R, hR⟩ : ∃ R, strEnd zs s = R := ⟨_, rfl⟩
      rw [hR] at HE HZ
      clear hF hsl hcell hsz hc hz hs' hn hq hR
      rcases hqq with rfl | rfl
      all_goals
        go_enter Trym.func5, Trym.ntmps5
        go_wp2_with (first | (go_at_call 14; refine (HC1.out _).mono ?_; rintro e w' ⟨rfl, rfl⟩) | (go_at_call 15; refine (HZ.out).mono ?_; rintro e w2 ⟨rfl, hB2⟩) | (go_at_call 16; refine (HE.out _ hB2).mono ?_; rintro e w3 ⟨rfl, rfl⟩))
        go_ret
        exact ⟨rfl, HB.out.trans (hB2.mono (by rw [HSZ.out]; omega))⟩
    · have h34 : (q != 34) = true := by simpa using fun h => hqq (.inl h)
      have h39 : (q != 39) = true := by simpa using fun h => hqq (.inr h)
      clear hqq hq hc hz hs' hn
      go_enter Trym.func5, Trym.ntmps5
      go_wp2_with (go_at_call 14; refine (HC1.out _).mono ?_; rintro e w' ⟨rfl, rfl⟩)
      go_ret
      exact ⟨rfl, Below.refl _ _⟩
  · have HC1 : Hid (∀ w, Calls Trym.prog 14 #[.slice a0 n c, .int .i64 a1] w fun e w' => e = .returned (.bool false) ∧ w = w') := fun w => exact_big a0 n c a1 w h20
    go_enter Trym.func5, Trym.ntmps5
    go_wp2_with (go_at_call 14; refine (HC1.out _).mono ?_; rintro e w' ⟨rfl, rfl⟩)
    go_ret
    exact ⟨rfl, Below.refl _ _⟩

end Go.Proofs.Qxb6605196aMods
