/-
  SEAT b6605196aM: THE WALK OF FnIsDigitsConcat.
-/
import Derived.Test.Qxb6605196aModsCopy
import Derived.Test.Qxb6605196aModsJoin
import Derived.Test.Qxb6605196aModsComment
import Derived.Test.Qxb6605196aModsDigits
import Derived.Test.Qxb6605196aModsCommentWalk
namespace Go.Proofs.Qxb6605196aMods
open Go.RowKit

/-- A text of digits is a comment. -/
theorem cmt_of_dig (zs : List Int) (h : dig zs = true) : cmt zs = true := by
  unfold dig at h
  rw [Bool.and_eq_true] at h
  have h2 := h.2
  unfold alld at h2
  unfold cmt
  rw [List.all_eq_true] at h2 ⊢
  intro c hc
  have := dig_cmt_byte c (h2 c hc)
  simp [ctl]
  omega
theorem dig_both (zs ys : List Int) (h1 : 0 < zs.length) (h2 : 0 < ys.length) : dig (zs ++ ys) = (dig zs && dig ys) := by
  unfold dig
  rw [alld_append, List.length_append, decide_eq_true (by omega), decide_eq_true h1, decide_eq_true h2]
  simp
theorem dig_left (zs ys : List Int) (h : ys.length = 0) : dig (zs ++ ys) = dig zs := by
  rw [List.eq_nil_of_length_eq_zero h, List.append_nil]
theorem dig_right (zs ys : List Int) (h : zs.length = 0) : dig (zs ++ ys) = dig ys := by
  rw [List.eq_nil_of_length_eq_zero h, List.nil_append]

theorem sl_nil_len {w : World} {zs : List Int} {n : Nat} (h : Sl w none zs) (hn : zs.length = n) : n = 0 := by
  rcases h.1 with h | ⟨b, o, h, _⟩
  · rw [h] at hn; exact hn.symm
  · cases h

set_option maxHeartbeats 1000000 in
theorem digits_bytes (a1 a2 : Option Addr) (p c1 n c2 : Nat) (w : World) (hp : p ≤ 9223372036854775807) (hn : n ≤ 9223372036854775807) :
    Calls Trym.prog 11 #[.slice a1 p c1, .slice a2 n c2] w fun e w' => e = .returned (.bool (fits p n)) ∧ w = w' := by
  by_cases h3 : p + n ≤ 1048576
  · have hf : fits p n = true := by simp [fits]; omega
    have h3' : ¬ (1048576 : Int) < (p : Int) + (n : Int) := by omega
    go_enter Trym.func11, Trym.ntmps11
    go_wp2
    go_ret
    exact ⟨ret_bool rfl, rfl⟩
  · have hf : fits p n = false := by simp [fits]; omega
    by_cases h1 : p ≤ 1048576
    · by_cases h2 : n ≤ 1048576
      · have h3' : (1048576 : Int) < (p : Int) + (n : Int) := by omega
        go_enter Trym.func11, Trym.ntmps11
        go_wp2
        go_ret
        exact ⟨ret_bool hf.symm, rfl⟩
      · have h2' : (1048576 : Int) < (n : Int) := by omega
        go_enter Trym.func11, Trym.ntmps11
        go_wp2
        go_ret
        exact ⟨ret_bool hf.symm, rfl⟩
    · have h1' : (1048576 : Int) < (p : Int) := by omega
      go_enter Trym.func11, Trym.ntmps11
      go_wp2
      go_ret
      exact ⟨ret_bool hf.symm, rfl⟩

/-- The contracts behind the copies, the answers named: z of the whole, x of the left part, y of the right. -/
theorem digits_tail {w W : World} {a' b' : Option Addr} {zs ys : List Int} {n c m d : Nat} (P : Parts w W a' b' zs ys) (hn : zs.length = n) (hm : ys.length = m) (hn5 : n ≤ 524288) (hm5 : m ≤ 524288) (x y z : Bool) (hx : dig zs = x) (hy : dig ys = y) (hz : dig (zs ++ ys) = z) :
    (Calls Trym.prog 8 #[.slice a' n c, .slice b' m d] W fun e w' => e = .returned (.slice (some ⟨W.heap.size, 0, none⟩) (n + m) (n + m)) ∧ Fill W w' (n + m) (zs ++ ys) (n + m)) ∧
    (∀ W3, Fill W W3 (n + m) (zs ++ ys) (n + m) → Calls Trym.prog 12 #[.slice (some ⟨W.heap.size, 0, none⟩) (n + m) (n + m)] W3 fun e w' => e = .returned (.bool z) ∧ W3 = w') ∧
    (∀ W3, Fill W W3 (n + m) (zs ++ ys) (n + m) → Calls Trym.prog 13 #[.slice (some ⟨W.heap.size, 0, none⟩) (n + m) (n + m)] W3 fun e w' => e = .returned (.bool z) ∧ W3 = w') ∧
    (z = true → ∀ W3, Fill W W3 (n + m) (zs ++ ys) (n + m) → Calls Trym.prog 9 #[.slice (some ⟨W.heap.size, 0, none⟩) (n + m) (n + m)] W3 fun e w' => e = .returned (.bool true) ∧ W3 = w') ∧
    (∀ W3, Fill W W3 (n + m) (zs ++ ys) (n + m) → Calls Trym.prog 12 #[.slice a' n c] W3 fun e w' => e = .returned (.bool x) ∧ W3 = w') ∧
    (∀ W3, Fill W W3 (n + m) (zs ++ ys) (n + m) → Calls Trym.prog 12 #[.slice b' m d] W3 fun e w' => e = .returned (.bool y) ∧ W3 = w') := by
  have hl : (zs ++ ys).length = n + m := by rw [List.length_append, hn, hm]
  have hb : ∀ k ∈ zs ++ ys, 0 ≤ k ∧ k ≤ 255 := fun k hk => by
    rcases List.mem_append.1 hk with h | h
    · exact P.left.2 k h
    · exact P.right.2 k h
  refine ⟨join_any a' b' zs ys n c m d W hn hm (by omega) (by omega) P.left P.right, fun W3 hF => ?_, fun W3 hF => ?_, fun h W3 hF => ?_, fun W3 hF => ?_, fun W3 hF => ?_⟩
  · rw [← hz]; exact zzIsDigits_any _ (zs ++ ys) (n + m) (n + m) W3 hl (by omega) (hF.sl hl hb)
  · rw [← hz]; exact digitsModel_any _ (zs ++ ys) (n + m) (n + m) W3 hl (by omega) (hF.sl hl hb)
  · have := zzIsComment_any _ (zs ++ ys) (n + m) (n + m) W3 hl (by omega) (hF.sl hl hb)
    rw [cmt_of_dig (zs ++ ys) (hz.trans h)] at this
    exact this.mono fun e w' h => ⟨h.1, h.2.symm⟩
  · rw [← hx]; exact zzIsDigits_any a' zs n c W3 hn (by omega) (P.left.later hF.below)
  · rw [← hy]; exact zzIsDigits_any b' ys m d W3 hm (by omega) (P.right.later hF.below)

set_option maxHeartbeats 8000000 in
theorem digits_walk (a1 a2 : Option Addr) (n c m d : Nat) (zs ys : List Int) (w : World) (hn : zs.length = n) (hm : ys.length = m) (hnm : n ≤ 9223372036854775807) (hmm : m ≤ 9223372036854775807) (hs : Sl w a1 zs) (ht : Sl w a2 ys) :
    Calls Trym.prog 4 #[.slice a1 n c, .slice a2 m d] w fun e w' => e = .returned (.bool true) ∧ Below w.heap.size w w' := by
  have HC1 : Hid (∀ w, Calls Trym.prog 11 #[.slice a1 n c, .slice a2 m d] w fun e w' => e = .returned (.bool (fits n m)) ∧ w = w') := fun w => digits_bytes a1 a2 n c m d w hnm hmm
  by_cases hn5 : n ≤ 524288
  · by_cases hm5 : m ≤ 524288
    · have HC2 : Hid (∀ w, Calls Trym.prog 11 #[.slice a1 n c, .slice a2 m d] w fun e w' => e = .returned (.bool true) ∧ w = w') := fun w => (HC1.out w).mono fun e w' ⟨h1, h2⟩ => ⟨by rw [h1, fits_yes hn5 hm5], h2⟩
      clear HC1
      obtain ⟨x, hx⟩ : ∃ x, dig zs = x := ⟨_, rfl⟩
      obtain ⟨y, hy⟩ : ∃ y, dig ys = y := ⟨_, rfl⟩
      have hmk1 := run_make_row' (P := Trym.prog) 22 5 (.int .u8 0) 1 Trym.underlying22 Trym.info5 rfl .i64 .i64 n (by omega) (by omega)
      have hmk2 := run_make_row' (P := Trym.prog) 22 5 (.int .u8 0) 1 Trym.underlying22 Trym.info5 rfl .i64 .i64 m (by omega) (by omega)
      cases a1 with
      | none =>
        clear hmk1
        cases a2 with
        | none =>
          clear hmk2
          have P : Parts w w none none zs ys := ⟨Below.refl _ _, hs, ht⟩
          have HB : Hid (Below w.heap.size w w) := P.below
          have hn0 : n = 0 := sl_nil_len hs hn
          have hm0 : m = 0 := sl_nil_len ht hm
          obtain ⟨T1, T2, T3, T4, T5, T6⟩ := digits_tail (c := c) (d := d) P hn hm (by omega) (by omega) x y false hx hy (by rw [dig_left zs ys (by omega)]; unfold dig; rw [decide_eq_false (by omega)]; rfl)
          have hn1 : ((n : Int) == 0) = true := by simpa using hn0
          have hm1 : ((m : Int) == 0) = true := by simpa using hm0
          have hnm1 : ¬ (0 : Int) < (n : Int) + (m : Int) := by omega
          have H1 := hide_ T1
          have H2 := hide_ T2
          have H3 := hide_ T3
          have H4 := hide_ T4
          have H5 := hide_ T5
          have H6 := hide_ T6
          clear T1 T2 T3 T4 T5 T6 P hx hy hs ht hn hm hn0 hm0
          cases x <;> cases y
          all_goals
            go_enter Trym.func4, Trym.ntmps4
            go_wp2_with (go_at_call 11; refine (HC2.out _).mono ?_; rintro e w' ⟨rfl, rfl⟩)
            refine (H1.out).mono ?_
            rintro e w3 ⟨rfl, hF3⟩
            have hB3 : Below w.heap.size w w3 := HB.out.trans (hF3.below.mono HB.out.size)
            have HF3 := hide_ hF3
            clear hF3
            go_wp2_with fail
            refine (H2.out _ HF3.out).mono ?_
            rintro e w' ⟨rfl, rfl⟩
            go_wp2_with (first | (go_at_call 13; refine (H3.out _ HF3.out).mono ?_; rintro e w' ⟨rfl, rfl⟩) | (go_at_call 9; refine (H4.out (by trivial) _ HF3.out).mono ?_; rintro e w' ⟨rfl, rfl⟩))
            go_ret
            exact ⟨rfl, hB3⟩
        | some p2 =>
          obtain ⟨w2, hF2, hcp2⟩ := copy_new w (some p2) m d ys hm ht
          have hp2 := hF2.sl hm ht.2
          have hb2 := hF2.below
          clear hF2
          have P : Parts w w2 none (some ⟨w.heap.size, 0, none⟩) zs ys := ⟨hb2, hs.later hb2, hp2⟩
          have HB : Hid (Below w.heap.size w w2) := P.below
          have hn0 : n = 0 := sl_nil_len hs hn
          by_cases hm0 : m = 0
          · obtain ⟨T1, T2, T3, T4, T5, T6⟩ := digits_tail (c := c) (d := m) P hn hm (by omega) (by omega) x y false hx hy (by rw [dig_left zs ys (by omega)]; unfold dig; rw [decide_eq_false (by omega)]; rfl)
            have hn1 : ((n : Int) == 0) = true := by simpa using hn0
            have hm1 : ((m : Int) == 0) = true := by simpa using hm0
            have hnm1 : ¬ (0 : Int) < (n : Int) + (m : Int) := by omega
            have H1 := hide_ T1
            have H2 := hide_ T2
            have H3 := hide_ T3
            have H4 := hide_ T4
            have H5 := hide_ T5
            have H6 := hide_ T6
            clear T1 T2 T3 T4 T5 T6 P hx hy hs ht hn hm hp2 hb2 hn0 hm0
            cases x <;> cases y
            all_goals
              go_enter Trym.func4, Trym.ntmps4
              go_wp2_with (go_at_call 11; refine (HC2.out _).mono ?_; rintro e w' ⟨rfl, rfl⟩)
              refine (H1.out).mono ?_
              rintro e w3 ⟨rfl, hF3⟩
              have hB3 : Below w.heap.size w w3 := HB.out.trans (hF3.below.mono HB.out.size)
              have HF3 := hide_ hF3
              clear hF3
              go_wp2_with fail
              refine (H2.out _ HF3.out).mono ?_
              rintro e w' ⟨rfl, rfl⟩
              go_wp2_with (first | (go_at_call 13; refine (H3.out _ HF3.out).mono ?_; rintro e w' ⟨rfl, rfl⟩) | (go_at_call 9; refine (H4.out (by trivial) _ HF3.out).mono ?_; rintro e w' ⟨rfl, rfl⟩))
              go_ret
              exact ⟨rfl, hB3⟩
          · obtain ⟨T1, T2, T3, T4, T5, T6⟩ := digits_tail (c := c) (d := m) P hn hm (by omega) (by omega) x y y hx hy ((dig_right zs ys (by omega)).trans hy)
            have hn1 : ((n : Int) == 0) = true := by simpa using hn0
            have hm1 : ((m : Int) == 0) = false := by simpa using hm0
            have hnm1 : (0 : Int) < (n : Int) + (m : Int) := by omega
            have H1 := hide_ T1
            have H2 := hide_ T2
            have H3 := hide_ T3
            have H4 := hide_ T4
            have H5 := hide_ T5
            have H6 := hide_ T6
            clear T1 T2 T3 T4 T5 T6 P hx hy hs ht hn hm hp2 hb2 hn0 hm0
            cases x <;> cases y
            all_goals
              go_enter Trym.func4, Trym.ntmps4
              go_wp2_with (go_at_call 11; refine (HC2.out _).mono ?_; rintro e w' ⟨rfl, rfl⟩)
              refine (H1.out).mono ?_
              rintro e w3 ⟨rfl, hF3⟩
              have hB3 : Below w.heap.size w w3 := HB.out.trans (hF3.below.mono HB.out.size)
              have HF3 := hide_ hF3
              clear hF3
              go_wp2_with fail
              refine (H2.out _ HF3.out).mono ?_
              rintro e w' ⟨rfl, rfl⟩
              go_wp2_with (first | (go_at_call 13; refine (H3.out _ HF3.out).mono ?_; rintro e w' ⟨rfl, rfl⟩) | (go_at_call 9; refine (H4.out (by trivial) _ HF3.out).mono ?_; rintro e w' ⟨rfl, rfl⟩))
              refine (H6.out _ HF3.out).mono ?_
              rintro e w' ⟨rfl, rfl⟩
              go_wp2
              go_ret
              exact ⟨rfl, hB3⟩
      | some p1 =>
        obtain ⟨w1, hF1, hcp1⟩ := copy_new w (some p1) n c zs hn hs
        have hp1 := hF1.sl hn hs.2
        have hb1 := hF1.below
        cases a2 with
        | none =>
          clear hmk2 hF1
          have P : Parts w w1 (some ⟨w.heap.size, 0, none⟩) none zs ys := ⟨hb1, hp1, ht.later hb1⟩
          have HB : Hid (Below w.heap.size w w1) := P.below
          by_cases hn0 : n = 0
          · have hm0 : m = 0 := sl_nil_len ht hm
            obtain ⟨T1, T2, T3, T4, T5, T6⟩ := digits_tail (c := n) (d := d) P hn hm (by omega) (by omega) x y false hx hy (by rw [dig_left zs ys (by omega)]; unfold dig; rw [decide_eq_false (by omega)]; rfl)
            have hn1 : ((n : Int) == 0) = true := by simpa using hn0
            have hm1 : ((m : Int) == 0) = true := by simpa using hm0
            have hnm1 : ¬ (0 : Int) < (n : Int) + (m : Int) := by omega
            have H1 := hide_ T1
            have H2 := hide_ T2
            have H3 := hide_ T3
            have H4 := hide_ T4
            have H5 := hide_ T5
            have H6 := hide_ T6
            clear T1 T2 T3 T4 T5 T6 P hx hy hs ht hn hm hp1 hb1 hn0 hm0
            cases x <;> cases y
            all_goals
              go_enter Trym.func4, Trym.ntmps4
              go_wp2_with (go_at_call 11; refine (HC2.out _).mono ?_; rintro e w' ⟨rfl, rfl⟩)
              refine (H1.out).mono ?_
              rintro e w3 ⟨rfl, hF3⟩
              have hB3 : Below w.heap.size w w3 := HB.out.trans (hF3.below.mono HB.out.size)
              have HF3 := hide_ hF3
              clear hF3
              go_wp2_with fail
              refine (H2.out _ HF3.out).mono ?_
              rintro e w' ⟨rfl, rfl⟩
              go_wp2_with (first | (go_at_call 13; refine (H3.out _ HF3.out).mono ?_; rintro e w' ⟨rfl, rfl⟩) | (go_at_call 9; refine (H4.out (by trivial) _ HF3.out).mono ?_; rintro e w' ⟨rfl, rfl⟩))
              go_ret
              exact ⟨rfl, hB3⟩
          · have hm0 : m = 0 := sl_nil_len ht hm
            obtain ⟨T1, T2, T3, T4, T5, T6⟩ := digits_tail (c := n) (d := d) P hn hm (by omega) (by omega) x y x hx hy ((dig_left zs ys (by omega)).trans hx)
            have hn1 : ((n : Int) == 0) = false := by simpa using hn0
            have hm1 : ((m : Int) == 0) = true := by simpa using hm0
            have hnm1 : (0 : Int) < (n : Int) + (m : Int) := by omega
            have H1 := hide_ T1
            have H2 := hide_ T2
            have H3 := hide_ T3
            have H4 := hide_ T4
            have H5 := hide_ T5
            have H6 := hide_ T6
            clear T1 T2 T3 T4 T5 T6 P hx hy hs ht hn hm hp1 hb1 hn0 hm0
            cases x <;> cases y
            all_goals
              go_enter Trym.func4, Trym.ntmps4
              go_wp2_with (go_at_call 11; refine (HC2.out _).mono ?_; rintro e w' ⟨rfl, rfl⟩)
              refine (H1.out).mono ?_
              rintro e w3 ⟨rfl, hF3⟩
              have hB3 : Below w.heap.size w w3 := HB.out.trans (hF3.below.mono HB.out.size)
              have HF3 := hide_ hF3
              clear hF3
              go_wp2_with fail
              refine (H2.out _ HF3.out).mono ?_
              rintro e w' ⟨rfl, rfl⟩
              go_wp2_with (first | (go_at_call 13; refine (H3.out _ HF3.out).mono ?_; rintro e w' ⟨rfl, rfl⟩) | (go_at_call 9; refine (H4.out (by trivial) _ HF3.out).mono ?_; rintro e w' ⟨rfl, rfl⟩))
              refine (H5.out _ HF3.out).mono ?_
              rintro e w' ⟨rfl, rfl⟩
              go_wp2
              go_ret
              exact ⟨rfl, hB3⟩
        | some p2 =>
          obtain ⟨w2, hF2, hcp2⟩ := copy_new w1 (some p2) m d ys hm (ht.later hb1)
          have hp2 := hF2.sl hm ht.2
          have hb2 := hF2.below
          have hb12 : Below w.heap.size w w2 := hb1.trans (hb2.mono hb1.size)
          clear hF1 hF2
          have P : Parts w w2 (some ⟨w.heap.size, 0, none⟩) (some ⟨w1.heap.size, 0, none⟩) zs ys := ⟨hb12, hp1.later hb2, hp2⟩
          have HB : Hid (Below w.heap.size w w2) := P.below
          by_cases hn0 : n = 0
          · by_cases hm0 : m = 0
            · obtain ⟨T1, T2, T3, T4, T5, T6⟩ := digits_tail (c := n) (d := m) P hn hm (by omega) (by omega) x y false hx hy (by rw [dig_left zs ys (by omega)]; unfold dig; rw [decide_eq_false (by omega)]; rfl)
              have hn1 : ((n : Int) == 0) = true := by simpa using hn0
              have hm1 : ((m : Int) == 0) = true := by simpa using hm0
              have hnm1 : ¬ (0 : Int) < (n : Int) + (m : Int) := by omega
              have H1 := hide_ T1
              have H2 := hide_ T2
              have H3 := hide_ T3
              have H4 := hide_ T4
              have H5 := hide_ T5
              have H6 := hide_ T6
              clear T1 T2 T3 T4 T5 T6 P hx hy hs ht hn hm hp1 hb1 hp2 hb2 hb12 hn0 hm0
              cases x <;> cases y
              all_goals
                go_enter Trym.func4, Trym.ntmps4
                go_wp2_with (go_at_call 11; refine (HC2.out _).mono ?_; rintro e w' ⟨rfl, rfl⟩)
                refine (H1.out).mono ?_
                rintro e w3 ⟨rfl, hF3⟩
                have hB3 : Below w.heap.size w w3 := HB.out.trans (hF3.below.mono HB.out.size)
                have HF3 := hide_ hF3
                clear hF3
                go_wp2_with fail
                refine (H2.out _ HF3.out).mono ?_
                rintro e w' ⟨rfl, rfl⟩
                go_wp2_with (first | (go_at_call 13; refine (H3.out _ HF3.out).mono ?_; rintro e w' ⟨rfl, rfl⟩) | (go_at_call 9; refine (H4.out (by trivial) _ HF3.out).mono ?_; rintro e w' ⟨rfl, rfl⟩))
                go_ret
                exact ⟨rfl, hB3⟩
            · obtain ⟨T1, T2, T3, T4, T5, T6⟩ := digits_tail (c := n) (d := m) P hn hm (by omega) (by omega) x y y hx hy ((dig_right zs ys (by omega)).trans hy)
              have hn1 : ((n : Int) == 0) = true := by simpa using hn0
              have hm1 : ((m : Int) == 0) = false := by simpa using hm0
              have hnm1 : (0 : Int) < (n : Int) + (m : Int) := by omega
              have H1 := hide_ T1
              have H2 := hide_ T2
              have H3 := hide_ T3
              have H4 := hide_ T4
              have H5 := hide_ T5
              have H6 := hide_ T6
              clear T1 T2 T3 T4 T5 T6 P hx hy hs ht hn hm hp1 hb1 hp2 hb2 hb12 hn0 hm0
              cases x <;> cases y
              all_goals
                go_enter Trym.func4, Trym.ntmps4
                go_wp2_with (go_at_call 11; refine (HC2.out _).mono ?_; rintro e w' ⟨rfl, rfl⟩)
                refine (H1.out).mono ?_
                rintro e w3 ⟨rfl, hF3⟩
                have hB3 : Below w.heap.size w w3 := HB.out.trans (hF3.below.mono HB.out.size)
                have HF3 := hide_ hF3
                clear hF3
                go_wp2_with fail
                refine (H2.out _ HF3.out).mono ?_
                rintro e w' ⟨rfl, rfl⟩
                go_wp2_with (first | (go_at_call 13; refine (H3.out _ HF3.out).mono ?_; rintro e w' ⟨rfl, rfl⟩) | (go_at_call 9; refine (H4.out (by trivial) _ HF3.out).mono ?_; rintro e w' ⟨rfl, rfl⟩))
                refine (H6.out _ HF3.out).mono ?_
                rintro e w' ⟨rfl, rfl⟩
                go_wp2
                go_ret
                exact ⟨rfl, hB3⟩
          · by_cases hm0 : m = 0
            · obtain ⟨T1, T2, T3, T4, T5, T6⟩ := digits_tail (c := n) (d := m) P hn hm (by omega) (by omega) x y x hx hy ((dig_left zs ys (by omega)).trans hx)
              have hn1 : ((n : Int) == 0) = false := by simpa using hn0
              have hm1 : ((m : Int) == 0) = true := by simpa using hm0
              have hnm1 : (0 : Int) < (n : Int) + (m : Int) := by omega
              have H1 := hide_ T1
              have H2 := hide_ T2
              have H3 := hide_ T3
              have H4 := hide_ T4
              have H5 := hide_ T5
              have H6 := hide_ T6
              clear T1 T2 T3 T4 T5 T6 P hx hy hs ht hn hm hp1 hb1 hp2 hb2 hb12 hn0 hm0
              cases x <;> cases y
              all_goals
                go_enter Trym.func4, Trym.ntmps4
                go_wp2_with (go_at_call 11; refine (HC2.out _).mono ?_; rintro e w' ⟨rfl, rfl⟩)
                refine (H1.out).mono ?_
                rintro e w3 ⟨rfl, hF3⟩
                have hB3 : Below w.heap.size w w3 := HB.out.trans (hF3.below.mono HB.out.size)
                have HF3 := hide_ hF3
                clear hF3
                go_wp2_with fail
                refine (H2.out _ HF3.out).mono ?_
                rintro e w' ⟨rfl, rfl⟩
                go_wp2_with (first | (go_at_call 13; refine (H3.out _ HF3.out).mono ?_; rintro e w' ⟨rfl, rfl⟩) | (go_at_call 9; refine (H4.out (by trivial) _ HF3.out).mono ?_; rintro e w' ⟨rfl, rfl⟩))
                refine (H5.out _ HF3.out).mono ?_
                rintro e w' ⟨rfl, rfl⟩
                go_wp2
                go_ret
                exact ⟨rfl, hB3⟩
            · obtain ⟨T1, T2, T3, T4, T5, T6⟩ := digits_tail (c := n) (d := m) P hn hm (by omega) (by omega) x y (x && y) hx hy (by rw [dig_both zs ys (by omega) (by omega), hx, hy])
              have hn1 : ((n : Int) == 0) = false := by simpa using hn0
              have hm1 : ((m : Int) == 0) = false := by simpa using hm0
              have hnm1 : (0 : Int) < (n : Int) + (m : Int) := by omega
              have H1 := hide_ T1
              have H2 := hide_ T2
              have H3 := hide_ T3
              have H4 := hide_ T4
              have H5 := hide_ T5
              have H6 := hide_ T6
              clear T1 T2 T3 T4 T5 T6 P hx hy hs ht hn hm hp1 hb1 hp2 hb2 hb12 hn0 hm0
              cases x <;> cases y
              all_goals
                go_enter Trym.func4, Trym.ntmps4
                go_wp2_with (go_at_call 11; refine (HC2.out _).mono ?_; rintro e w' ⟨rfl, rfl⟩)
                refine (H1.out).mono ?_
                rintro e w3 ⟨rfl, hF3⟩
                have hB3 : Below w.heap.size w w3 := HB.out.trans (hF3.below.mono HB.out.size)
                have HF3 := hide_ hF3
                clear hF3
                go_wp2_with fail
                refine (H2.out _ HF3.out).mono ?_
                rintro e w' ⟨rfl, rfl⟩
                go_wp2_with (first | (go_at_call 13; refine (H3.out _ HF3.out).mono ?_; rintro e w' ⟨rfl, rfl⟩) | (go_at_call 9; refine (H4.out (by trivial) _ HF3.out).mono ?_; rintro e w' ⟨rfl, rfl⟩))
                refine (H5.out _ HF3.out).mono ?_
                rintro e w' ⟨rfl, rfl⟩
                go_wp2_with (go_at_call 12; refine (H6.out _ HF3.out).mono ?_; rintro e w' ⟨rfl, rfl⟩)
                go_ret
                exact ⟨rfl, hB3⟩
    · have h2' : (524288 : Int) < (m : Int) := by omega
      go_enter Trym.func4, Trym.ntmps4
      go_wp2_with (go_at_call 11; refine (HC1.out _).mono ?_; rintro e w' ⟨rfl, rfl⟩)
      all_goals
        go_ret
        exact ⟨rfl, Below.refl _ _⟩
  · have h1' : (524288 : Int) < (n : Int) := by omega
    go_enter Trym.func4, Trym.ntmps4
    go_wp2_with (go_at_call 11; refine (HC1.out _).mono ?_; rintro e w' ⟨rfl, rfl⟩)
    all_goals
      go_ret
      exact ⟨rfl, Below.refl _ _⟩

end Go.Proofs.Qxb6605196aMods
