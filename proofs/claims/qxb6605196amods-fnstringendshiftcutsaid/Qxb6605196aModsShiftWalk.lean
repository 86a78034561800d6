/-
  SEAT b6605196aM: THE WALK OF FnStringEndShiftCut.
-/
import Derived.Test.Qxb6605196aModsCopy
import Derived.Test.Qxb6605196aModsJoin
import Derived.Test.Qxb6605196aModsEnd
namespace Go.Proofs.Qxb6605196aMods
open Go.RowKit

set_option maxHeartbeats 1000000 in
theorem shift_bytes (a1 a2 : Option Addr) (p c1 n c2 : Nat) (x : Int) (w : World) (hp : p ≤ 9223372036854775807) (hn : n ≤ 9223372036854775807) :
    Calls Trym.prog 17 #[.slice a1 p c1, .slice a2 n c2, .int .i64 x] w fun e w' => e = .returned (.bool (fits p n)) ∧ w = w' := by
  by_cases h3 : p + n ≤ 1048576
  · have hf : fits p n = true := by simp [fits]; omega
    have h3' : ¬ (1048576 : Int) < (p : Int) + (n : Int) := by omega
    go_enter Trym.func17, Trym.ntmps17
    go_wp2
    go_ret
    exact ⟨ret_bool rfl, rfl⟩
  · have hf : fits p n = false := by simp [fits]; omega
    by_cases h1 : p ≤ 1048576
    · by_cases h2 : n ≤ 1048576
      · have h3' : (1048576 : Int) < (p : Int) + (n : Int) := by omega
        go_enter Trym.func17, Trym.ntmps17
        go_wp2
        go_ret
        exact ⟨ret_bool hf.symm, rfl⟩
      · have h2' : (1048576 : Int) < (n : Int) := by omega
        go_enter Trym.func17, Trym.ntmps17
        go_wp2
        go_ret
        exact ⟨ret_bool hf.symm, rfl⟩
    · have h1' : (1048576 : Int) < (p : Int) := by omega
      go_enter Trym.func17, Trym.ntmps17
      go_wp2
      go_ret
      exact ⟨ret_bool hf.symm, rfl⟩

set_option maxHeartbeats 2000000 in
/-- The walk over what the walk is told in the end: the visible bytes. -/
theorem shift_walk (a1 a2 : Option Addr) (p pc n c : Nat) (ps zs : List Int) (x : Int) (w : World) (hpl : ps.length = p) (hn : zs.length = n) (hpm : p ≤ 9223372036854775807) (hnm : n ≤ 9223372036854775807) (hsp : Sl w a1 ps) (hs : Sl w a2 zs) :
    Calls Trym.prog 6 #[.slice a1 p pc, .slice a2 n c, .int .i64 x] w fun e w' => e = .returned (.bool true) ∧ Below w.heap.size w w' := by
  have HC1 : Hid (∀ w, Calls Trym.prog 17 #[.slice a1 p pc, .slice a2 n c, .int .i64 x] w fun e w' => e = .returned (.bool (fits p n)) ∧ w = w') := fun w => shift_bytes a1 a2 p pc n c x w hpm hnm
  by_cases hp : p ≤ 524288
  · by_cases hn2 : n ≤ 524288
    · have HC2 : Hid (∀ w, Calls Trym.prog 17 #[.slice a1 p pc, .slice a2 n c, .int .i64 x] w fun e w' => e = .returned (.bool true) ∧ w = w') := fun w => (HC1.out w).mono fun e w' ⟨h1, h2⟩ => ⟨by rw [h1, fits_yes hp hn2], h2⟩
      clear HC1
      by_cases hneg : x < 0
      · go_enter Trym.func6, Trym.ntmps6
        go_wp2_with (go_at_call 17; refine (HC2.out _).mono ?_; rintro e w' ⟨rfl, rfl⟩)
        go_ret
        exact ⟨rfl, Below.refl _ _⟩
      by_cases hge : (n : Int) ≤ x
      · go_enter Trym.func6, Trym.ntmps6
        go_wp2_with (go_at_call 17; refine (HC2.out _).mono ?_; rintro e w' ⟨rfl, rfl⟩)
        go_ret
        exact ⟨rfl, Below.refl _ _⟩
      obtain ⟨s, rfl⟩ := Int.eq_ofNat_of_zero_le (Int.not_lt.1 hneg)
      have hsn : s < n := by omega
      clear hneg hge
      have hs' := hs
      obtain ⟨hs1, hz⟩ := hs
      rcases hs1 with rfl | ⟨b, o, rfl, hbs, hc⟩
      · simp at hn; omega
      have g0 := hc s (by omega)
      obtain ⟨q, hq⟩ : ∃ q, zs.getD s 0 = q := ⟨_, rfl⟩
      rw [hq] at g0
      by_cases hqq : q = 34 ∨ q = 39
      · have hmk := run_make_row' (P := Trym.prog) 22 5 (.int .u8 0) 1 Trym.underlying22 Trym.info5 rfl .i64 .i64 n (by omega) (by omega)
        obtain ⟨w1, hF, hcp⟩ := copy_new w (some ⟨b, o, none⟩) n c zs hn hs'
        have hcell : ∀ i, i < n → w1.cell? ⟨w.heap.size, 0 + i, none⟩ = some (.int .u8 (zs.getD i 0)) := fun i hi => by
          rw [Nat.zero_add, hF.row.cell hi, if_pos hi]
        have HB : Hid (Below w.heap.size w w1) := hF.below
        have HSZ : Hid (w1.heap.size = w.heap.size + 1) := hF.size
        have hqz : zs.getD s 0 = 34 ∨ zs.getD s 0 = 39 := by rw [hq]; exact hqq
        have hR := end_bounds zs s (by omega)
        have hlast := end_last zs s (by omega)
        have hshift := end_shift ps zs s (by omega)
        have hcut := end_cut zs s (by omega)
        have HZ : Hid (Calls Trym.prog 15 #[.slice (some ⟨w.heap.size, 0, none⟩) n n, .int .i64 s] w1 fun e w' => e = .returned (.int .i64 (strEnd zs s)) ∧ Below w1.heap.size w1 w') :=
          zzStringEnd_any w.heap.size 0 n n s zs w1 hn (by omega) hsn (Nat.le_refl _) hF.row.lt hz hqz hcell
        -- the callees behind, in whatever world still holds the copy
        have HJ : Hid (∀ W, Below w1.heap.size w1 W → Calls Trym.prog 8 #[.slice a1 p pc, .slice (some ⟨w.heap.size, s, none⟩) (n - s) (n - s)] W fun e w' => e = .returned (.slice (some ⟨W.heap.size, 0, none⟩) (p + (n - s)) (p + (n - s))) ∧ Fill W w' (p + (n - s)) (ps ++ zs.drop s) (p + (n - s))) := fun W hW =>
          join_any a1 _ ps (zs.drop s) p pc (n - s) (n - s) W hpl (by rw [List.length_drop, hn]) (by omega) (by omega) (hsp.later (hF.below.trans (hW.mono (by rw [hF.size]; omega))))
            ⟨.inr ⟨w.heap.size, s, rfl, Nat.lt_of_lt_of_le hF.row.lt hW.size, fun i hi => by
              rw [List.length_drop] at hi
              rw [hW.cell (p := ⟨w.heap.size, s + i, none⟩) hF.row.lt, getD_drop']
              have := hcell (s + i) (by omega)
              rwa [Nat.zero_add] at this⟩, fun m hm => hz m (List.mem_of_mem_drop hm)⟩
        have HM : Hid (∀ W W2, Fill W W2 (p + (n - s)) (ps ++ zs.drop s) (p + (n - s)) → Calls Trym.prog 15 #[.slice (some ⟨W.heap.size, 0, none⟩) (p + (n - s)) (p + (n - s)), .int .i64 p] W2 fun e w' => e = .returned (.int .i64 ((p : Int) + ((strEnd zs s : Int) - (s : Int)))) ∧ Below W2.heap.size W2 w') := fun W W2 hW => by
          have := zzStringEnd_any W.heap.size 0 (p + (n - s)) (p + (n - s)) p (ps ++ zs.drop s) W2 (by rw [List.length_append, List.length_drop, hpl, hn]) (by omega) (by omega) (Nat.le_refl _) hW.row.lt
            (fun m hm => by
              rcases List.mem_append.1 hm with h | h
              · exact hsp.2 m h
              · exact hz m (List.mem_of_mem_drop h))
            (by
              have e := getD_append_right' ps (zs.drop s) 0
              rw [Nat.add_zero, hpl, getD_drop', Nat.add_zero] at e
              rw [e]; exact hqz)
            (fun i hi => by rw [Nat.zero_add, hW.row.cell hi, if_pos hi])
          rw [hpl] at hshift
          rw [hshift] at this
          refine this.mono fun e w' h => ⟨h.1.trans (ret_int ?_), h.2⟩
          omega
        obtain ⟨R, hRd⟩ : ∃ R, strEnd zs s = R := ⟨_, rfl⟩
        have HK : Hid (∀ W, Below w1.heap.size w1 W → Calls Trym.prog 15 #[.slice (some ⟨w.heap.size, 0, none⟩) R n, .int .i64 s] W fun e w' => e = .returned (.int .i64 R) ∧ Below W.heap.size W w') := fun W hW => by
          rw [hRd] at hR hcut
          have := zzStringEnd_any w.heap.size 0 R n s (zs.take R) W (by rw [List.length_take, hn]; omega) (by omega) (by omega) (by omega) (Nat.lt_of_lt_of_le hF.row.lt hW.size) (fun m hm => hz m (List.mem_of_mem_take hm))
            (by rw [getD_take' _ _ _ (by omega)]; exact hqz) (fun i hi => by
              rw [getD_take' _ _ _ hi, hW.cell (p := ⟨w.heap.size, 0 + i, none⟩) hF.row.lt]; exact hcell i (by omega))
          rw [hcut] at this
          exact this
        rw [hRd] at hR hlast HZ HM
        have k1 := hcell (R - 1) (by omega)
        have k2 := hcell s hsn
        rw [Nat.zero_add] at k1 k2
        rw [hq] at k2
        have HK1 : Hid (R < n → w1.cell? ⟨w.heap.size, R - 1, none⟩ = some (.int .u8 q)) := fun h => by rw [k1, hlast (by omega), hq]
        have HK2 : Hid (w1.cell? ⟨w.heap.size, s, none⟩ = some (.int .u8 q)) := k2
        have HLT : Hid (w.heap.size < w1.heap.size) := hF.row.lt
        obtain ⟨hR1, hR2⟩ := hR
        rw [hn] at hR2
        clear hF hcell hc hz hs' hsp hn hpl hq hqz hlast hshift hcut hRd k1 k2
        obtain ⟨r, rfl⟩ : ∃ r, R = r + 1 := ⟨R - 1, by omega⟩
        rw [Nat.add_sub_cancel] at HK1
        have hq2 : (q != 34) = false ∨ ((q != 34) = true ∧ (q != 39) = false) := by
          rcases hqq with rfl | rfl
          · exact .inl rfl
          · exact .inr ⟨rfl, rfl⟩
        clear hqq
        by_cases hRR : r + 1 < n
        · rcases hq2 with q1 | ⟨q1, q2⟩
          all_goals
            go_enter Trym.func6, Trym.ntmps6
            go_wp2_with (first | (go_at_call 17; refine (HC2.out _).mono ?_; rintro e w' ⟨rfl, rfl⟩) | (go_at_call 15; refine (HZ.out).mono ?_; rintro e w2 ⟨rfl, hB2⟩))
            have e1 : w2.cell? ⟨w.heap.size, s, none⟩ = some (.int .u8 q) := (hB2.cell (p := ⟨w.heap.size, s, none⟩) HLT.out).trans HK2.out
            have e2 : w2.cell? ⟨w.heap.size, r, none⟩ = some (.int .u8 q) := (hB2.cell (p := ⟨w.heap.size, r, none⟩) HLT.out).trans (HK1.out hRR)
            have hi2 : (r : Int) < (n : Int) := by omega
            have hi3 : (s : Int) < (n : Int) := by omega
            have hi4 : (r : Int) + 1 < (n : Int) := by omega
            go_quiet (fail)
            go_wp2_with fail
            have hB3 : Below w1.heap.size w1 (w2.drewN nq) := below_drewN hB2 nq
            refine (HJ.out _ hB3).mono ?_
            rintro e w3 ⟨rfl, hF3⟩
            have H3 : Hid (Fill (w2.drewN nq) w3 (p + (n - s)) (ps ++ zs.drop s) (p + (n - s))) := hF3
            have hB33 : Below w1.heap.size w1 w3 := hB3.trans (hF3.below.mono hB2.size)
            have hs3 : w1.heap.size ≤ w3.heap.size := hB33.size
            clear hF3
            go_wp2_with fail
            refine (HM.out (w2.drewN nq) w3 H3.out).mono ?_
            rintro e w4 ⟨rfl, hB4⟩
            have hB44 : Below w1.heap.size w1 w4 := hB33.trans (hB4.mono hs3)
            go_wp2_with fail
            refine (HK.out w4 hB44).mono ?_
            rintro e w5 ⟨rfl, hB5⟩
            have hB55 : Below w1.heap.size w1 w5 := hB44.trans (hB5.mono hB44.size)
            go_wp2
            go_ret
            exact ⟨rfl, HB.out.trans (hB55.mono (by rw [HSZ.out]; omega))⟩
        · have hRe : n = r + 1 := by omega
          clear hRe
          rcases hq2 with q1 | ⟨q1, q2⟩
          all_goals
            go_enter Trym.func6, Trym.ntmps6
            go_wp2_with (first | (go_at_call 17; refine (HC2.out _).mono ?_; rintro e w' ⟨rfl, rfl⟩) | (go_at_call 15; refine (HZ.out).mono ?_; rintro e w2 ⟨rfl, hB2⟩))
            have hd : decide ((r : Int) + 1 < (n : Int)) = false := decide_eq_false (by omega)
            have hd2 : decide (r + 1 < n) = false := decide_eq_false (by omega)
            go_quiet (fail)
            go_wp2_with fail
            have hB3 : Below w1.heap.size w1 (w2.drewN nq) := below_drewN hB2 nq
            refine (HJ.out _ hB3).mono ?_
            rintro e w3 ⟨rfl, hF3⟩
            have H3 : Hid (Fill (w2.drewN nq) w3 (p + (n - s)) (ps ++ zs.drop s) (p + (n - s))) := hF3
            have hB33 : Below w1.heap.size w1 w3 := hB3.trans (hF3.below.mono hB2.size)
            have hs3 : w1.heap.size ≤ w3.heap.size := hB33.size
            clear hF3
            go_wp2_with fail
            refine (HM.out (w2.drewN nq) w3 H3.out).mono ?_
            rintro e w4 ⟨rfl, hB4⟩
            have hB44 : Below w1.heap.size w1 w4 := hB33.trans (hB4.mono hs3)
            go_wp2_with fail
            refine (HK.out w4 hB44).mono ?_
            rintro e w5 ⟨rfl, hB5⟩
            have hB55 : Below w1.heap.size w1 w5 := hB44.trans (hB5.mono hB44.size)
            go_wp2
            go_ret
            exact ⟨rfl, HB.out.trans (hB55.mono (by rw [HSZ.out]; omega))⟩
      · have h34 : (q != 34) = true := by simpa using fun h => hqq (.inl h)
        have h39 : (q != 39) = true := by simpa using fun h => hqq (.inr h)
        clear hqq hq hc hz hs' hn
        go_enter Trym.func6, Trym.ntmps6
        go_wp2_with (go_at_call 17; refine (HC2.out _).mono ?_; rintro e w' ⟨rfl, rfl⟩)
        go_ret
        exact ⟨rfl, Below.refl _ _⟩
    · have h2' : (524288 : Int) < (n : Int) := by omega
      go_enter Trym.func6, Trym.ntmps6
      go_wp2_with (go_at_call 17; refine (HC1.out _).mono ?_; rintro e w' ⟨rfl, rfl⟩)
      all_goals
        go_ret
        exact ⟨rfl, Below.refl _ _⟩
  · have h1' : (524288 : Int) < (p : Int) := by omega
    go_enter Trym.func6, Trym.ntmps6
    go_wp2_with (go_at_call 17; refine (HC1.out _).mono ?_; rintro e w' ⟨rfl, rfl⟩)
    all_goals
      go_ret
      exact ⟨rfl, Below.refl _ _⟩

end Go.Proofs.Qxb6605196aMods
