/-
  SEAT b6605196aM: THE WALK OF FnIsCommentConcat.
-/
import Derived.Test.Qxb6605196aModsCopy
import Derived.Test.Qxb6605196aModsJoin
import Derived.Test.Qxb6605196aModsComment
namespace Go.Proofs.Qxb6605196aMods
open Go.RowKit

theorem cmt_append (zs ys : List Int) : cmt (zs ++ ys) = (cmt zs && cmt ys) := by simp [cmt, List.all_append]

/-- What the walk is told behind the two copies: in the world W the two parts lie at a', b'. -/
structure Parts (w W : World) (a' b' : Option Addr) (zs ys : List Int) : Prop where
  below : Below w.heap.size w W
  left : Sl W a' zs
  right : Sl W b' ys

theorem hide_ {p : Prop} (h : p) : Hid p := h

set_option maxHeartbeats 1000000 in
theorem comment_bytes (a1 a2 : Option Addr) (p c1 n c2 : Nat) (w : World) (hp : p ≤ 9223372036854775807) (hn : n ≤ 9223372036854775807) :
    Calls Trym.prog 7 #[.slice a1 p c1, .slice a2 n c2] w fun e w' => e = .returned (.bool (fits p n)) ∧ w = w' := by
  by_cases h3 : p + n ≤ 1048576
  · have hf : fits p n = true := by simp [fits]; omega
    have h3' : ¬ (1048576 : Int) < (p : Int) + (n : Int) := by omega
    go_enter Trym.func7, Trym.ntmps7
    go_wp2
    go_ret
    exact ⟨ret_bool rfl, rfl⟩
  · have hf : fits p n = false := by simp [fits]; omega
    by_cases h1 : p ≤ 1048576
    · by_cases h2 : n ≤ 1048576
      · have h3' : (1048576 : Int) < (p : Int) + (n : Int) := by omega
        go_enter Trym.func7, Trym.ntmps7
        go_wp2
        go_ret
        exact ⟨ret_bool hf.symm, rfl⟩
      · have h2' : (1048576 : Int) < (n : Int) := by omega
        go_enter Trym.func7, Trym.ntmps7
        go_wp2
        go_ret
        exact ⟨ret_bool hf.symm, rfl⟩
    · have h1' : (1048576 : Int) < (p : Int) := by omega
      go_enter Trym.func7, Trym.ntmps7
      go_wp2
      go_ret
      exact ⟨ret_bool hf.symm, rfl⟩

/-- The contracts behind the copies, the two answers named. -/
theorem comment_tail {w W : World} {a' b' : Option Addr} {zs ys : List Int} {n c m d : Nat} (P : Parts w W a' b' zs ys) (hn : zs.length = n) (hm : ys.length = m) (hn5 : n ≤ 524288) (hm5 : m ≤ 524288) (x y : Bool) (hx : cmt zs = x) (hy : cmt ys = y) :
    (Calls Trym.prog 8 #[.slice a' n c, .slice b' m d] W fun e w' => e = .returned (.slice (some ⟨W.heap.size, 0, none⟩) (n + m) (n + m)) ∧ Fill W w' (n + m) (zs ++ ys) (n + m)) ∧
    (∀ W3, Fill W W3 (n + m) (zs ++ ys) (n + m) → Calls Trym.prog 9 #[.slice (some ⟨W.heap.size, 0, none⟩) (n + m) (n + m)] W3 fun e w' => e = .returned (.bool (x && y)) ∧ W3 = w') ∧
    (∀ W3, Fill W W3 (n + m) (zs ++ ys) (n + m) → Calls Trym.prog 10 #[.slice (some ⟨W.heap.size, 0, none⟩) (n + m) (n + m)] W3 fun e w' => e = .returned (.bool (x && y)) ∧ W3 = w') ∧
    (∀ W3, Fill W W3 (n + m) (zs ++ ys) (n + m) → Calls Trym.prog 9 #[.slice a' n c] W3 fun e w' => e = .returned (.bool x) ∧ W3 = w') ∧
    (∀ W3, Fill W W3 (n + m) (zs ++ ys) (n + m) → Calls Trym.prog 9 #[.slice b' m d] W3 fun e w' => e = .returned (.bool y) ∧ W3 = w') := by
  have hl : (zs ++ ys).length = n + m := by rw [List.length_append, hn, hm]
  have hb : ∀ k ∈ zs ++ ys, 0 ≤ k ∧ k ≤ 255 := fun k hk => by
    rcases List.mem_append.1 hk with h | h
    · exact P.left.2 k h
    · exact P.right.2 k h
  have hxy : cmt (zs ++ ys) = (x && y) := by rw [cmt_append, hx, hy]
  refine ⟨join_any a' b' zs ys n c m d W hn hm (by omega) (by omega) P.left P.right, fun W3 hF => ?_, fun W3 hF => ?_, fun W3 hF => ?_, fun W3 hF => ?_⟩
  · have := zzIsComment_any _ (zs ++ ys) (n + m) (n + m) W3 hl (by omega) (hF.sl hl hb)
    rw [hxy] at this
    exact this.mono fun e w' h => ⟨h.1, h.2.symm⟩
  · have := commentModel_any _ (zs ++ ys) (n + m) (n + m) W3 hl (by omega) (hF.sl hl hb)
    rw [hxy] at this
    exact this.mono fun e w' h => ⟨h.1, h.2.symm⟩
  · have := zzIsComment_any a' zs n c W3 hn (by omega) (P.left.later hF.below)
    rw [hx] at this
    exact this.mono fun e w' h => ⟨h.1, h.2.symm⟩
  · have := zzIsComment_any b' ys m d W3 hm (by omega) (P.right.later hF.below)
    rw [hy] at this
    exact this.mono fun e w' h => ⟨h.1, h.2.symm⟩

set_option maxHeartbeats 4000000 in
theorem comment_walk (a1 a2 : Option Addr) (n c m d : Nat) (zs ys : List Int) (w : World) (hn : zs.length = n) (hm : ys.length = m) (hnm : n ≤ 9223372036854775807) (hmm : m ≤ 9223372036854775807) (hs : Sl w a1 zs) (ht : Sl w a2 ys) :
    Calls Trym.prog 3 #[.slice a1 n c, .slice a2 m d] w fun e w' => e = .returned (.bool true) ∧ Below w.heap.size w w' := by
  have HC1 : Hid (∀ w, Calls Trym.prog 7 #[.slice a1 n c, .slice a2 m d] w fun e w' => e = .returned (.bool (fits n m)) ∧ w = w') := fun w => comment_bytes a1 a2 n c m d w hnm hmm
  by_cases hn5 : n ≤ 524288
  · by_cases hm5 : m ≤ 524288
    · have HC2 : Hid (∀ w, Calls Trym.prog 7 #[.slice a1 n c, .slice a2 m d] w fun e w' => e = .returned (.bool true) ∧ w = w') := fun w => (HC1.out w).mono fun e w' ⟨h1, h2⟩ => ⟨by rw [h1, fits_yes hn5 hm5], h2⟩
      clear HC1
      obtain ⟨x, hx⟩ : ∃ x, cmt zs = x := ⟨_, rfl⟩
      obtain ⟨y, hy⟩ : ∃ y, cmt ys = y := ⟨_, rfl⟩
      have hmk1 := run_make_row' (P := Trym.prog) 22 5 (.int .u8 0) 1 Trym.underlying22 Trym.info5 rfl .i64 .i64 n (by omega) (by omega)
      have hmk2 := run_make_row' (P := Trym.prog) 22 5 (.int .u8 0) 1 Trym.underlying22 Trym.info5 rfl .i64 .i64 m (by omega) (by omega)
      cases a1 with
      | none =>
        clear hmk1
        cases a2 with
        | none =>
          clear hmk2
          have P : Parts w w none none zs ys := ⟨Below.refl _ _, hs, ht⟩
          obtain ⟨T1, T2, T3, T4, T5⟩ := comment_tail (c := c) (d := d) P hn hm (by omega) (by omega) x y hx hy
          have HB : Hid (Below w.heap.size w w) := P.below
          have H1 := hide_ T1
          have H2 := hide_ T2
          have H3 := hide_ T3
          have H4 := hide_ T4
          have H5 := hide_ T5
          clear T1 T2 T3 T4 T5 P hx hy hs ht hn hm
          cases x <;> cases y
          all_goals
            go_enter Trym.func3, Trym.ntmps3
            go_wp2_with (go_at_call 7; refine (HC2.out _).mono ?_; rintro e w' ⟨rfl, rfl⟩)
            refine (H1.out).mono ?_
            rintro e w3 ⟨rfl, hF3⟩
            have hB3 : Below w.heap.size w w3 := HB.out.trans (hF3.below.mono HB.out.size)
            have HF3 := hide_ hF3
            clear hF3
            go_wp2_with fail
            refine (H2.out _ HF3.out).mono ?_
            rintro e w' ⟨rfl, rfl⟩
            go_wp2_with (go_at_call 10; refine (H3.out _ HF3.out).mono ?_; rintro e w' ⟨rfl, rfl⟩)
            refine (H4.out _ HF3.out).mono ?_
            rintro e w' ⟨rfl, rfl⟩
            go_wp2_with (go_at_call 9; refine (H5.out _ HF3.out).mono ?_; rintro e w' ⟨rfl, rfl⟩)
            go_ret
            exact ⟨rfl, hB3⟩
        | some p2 =>
          obtain ⟨w2, hF2, hcp2⟩ := copy_new w (some p2) m d ys hm ht
          have hp2 := hF2.sl hm ht.2
          have hb2 := hF2.below
          clear hF2
          have P : Parts w w2 none (some ⟨w.heap.size, 0, none⟩) zs ys := ⟨hb2, hs.later hb2, hp2⟩
          obtain ⟨T1, T2, T3, T4, T5⟩ := comment_tail (c := c) (d := m) P hn hm (by omega) (by omega) x y hx hy
          have HB : Hid (Below w.heap.size w w2) := P.below
          have H1 := hide_ T1
          have H2 := hide_ T2
          have H3 := hide_ T3
          have H4 := hide_ T4
          have H5 := hide_ T5
          clear T1 T2 T3 T4 T5 P hx hy hs ht hn hm hp2 hb2
          cases x <;> cases y
          all_goals
            go_enter Trym.func3, Trym.ntmps3
            go_wp2_with (go_at_call 7; refine (HC2.out _).mono ?_; rintro e w' ⟨rfl, rfl⟩)
            refine (H1.out).mono ?_
            rintro e w3 ⟨rfl, hF3⟩
            have hB3 : Below w.heap.size w w3 := HB.out.trans (hF3.below.mono HB.out.size)
            have HF3 := hide_ hF3
            clear hF3
            go_wp2_with fail
            refine (H2.out _ HF3.out).mono ?_
            rintro e w' ⟨rfl, rfl⟩
            go_wp2_with (go_at_call 10; refine (H3.out _ HF3.out).mono ?_; rintro e w' ⟨rfl, rfl⟩)
            refine (H4.out _ HF3.out).mono ?_
            rintro e w' ⟨rfl, rfl⟩
            go_wp2_with (go_at_call 9; refine (H5.out _ HF3.out).mono ?_; rintro e w' ⟨rfl, rfl⟩)
            go_ret
            exact ⟨rfl, hB3⟩
      | some p1 =>
        obtain ⟨w1, hF1, hcp1⟩ := copy_new w (some p1) n c zs hn hs
        have hp1 := hF1.sl hn hs.2
        have hb1 := hF1.below
        cases a2 with
        | none =>
          clear hmk2 hF1
          have P : Parts w w1 (some ⟨w.heap.size, 0, none⟩) none zs ys := ⟨hb1, hp1, ht.later hb1⟩
          obtain ⟨T1, T2, T3, T4, T5⟩ := comment_tail (c := n) (d := d) P hn hm (by omega) (by omega) x y hx hy
          have HB : Hid (Below w.heap.size w w1) := P.below
          have H1 := hide_ T1
          have H2 := hide_ T2
          have H3 := hide_ T3
          have H4 := hide_ T4
          have H5 := hide_ T5
          clear T1 T2 T3 T4 T5 P hx hy hs ht hn hm hp1 hb1
          cases x <;> cases y
          all_goals
            go_enter Trym.func3, Trym.ntmps3
            go_wp2_with (go_at_call 7; refine (HC2.out _).mono ?_; rintro e w' ⟨rfl, rfl⟩)
            refine (H1.out).mono ?_
            rintro e w3 ⟨rfl, hF3⟩
            have hB3 : Below w.heap.size w w3 := HB.out.trans (hF3.below.mono HB.out.size)
            have HF3 := hide_ hF3
            clear hF3
            go_wp2_with fail
            refine (H2.out _ HF3.out).mono ?_
            rintro e w' ⟨rfl, rfl⟩
            go_wp2_with (go_at_call 10; refine (H3.out _ HF3.out).mono ?_; rintro e w' ⟨rfl, rfl⟩)
            refine (H4.out _ HF3.out).mono ?_
            rintro e w' ⟨rfl, rfl⟩
            go_wp2_with (go_at_call 9; refine (H5.out _ HF3.out).mono ?_; rintro e w' ⟨rfl, rfl⟩)
            go_ret
            exact ⟨rfl, hB3⟩
        | some p2 =>
          obtain ⟨w2, hF2, hcp2⟩ := copy_new w1 (some p2) m d ys hm (ht.later hb1)
          have hp2 := hF2.sl hm ht.2
          have hb2 := hF2.below
          have hb12 : Below w.heap.size w w2 := hb1.trans (hb2.mono hb1.size)
          clear hF1 hF2
          have P : Parts w w2 (some ⟨w.heap.size, 0, none⟩) (some ⟨w1.heap.size, 0, none⟩) zs ys := ⟨hb12, hp1.later hb2, hp2⟩
          obtain ⟨T1, T2, T3, T4, T5⟩ := comment_tail (c := n) (d := m) P hn hm (by omega) (by omega) x y hx hy
          have HB : Hid (Below w.heap.size w w2) := P.below
          have H1 := hide_ T1
          have H2 := hide_ T2
          have H3 := hide_ T3
          have H4 := hide_ T4
          have H5 := hide_ T5
          clear T1 T2 T3 T4 T5 P hx hy hs ht hn hm hp1 hb1 hp2 hb2 hb12
          cases x <;> cases y
          all_goals
            go_enter Trym.func3, Trym.ntmps3
            go_wp2_with (go_at_call 7; refine (HC2.out _).mono ?_; rintro e w' ⟨rfl, rfl⟩)
            refine (H1.out).mono ?_
            rintro e w3 ⟨rfl, hF3⟩
            have hB3 : Below w.heap.size w w3 := HB.out.trans (hF3.below.mono HB.out.size)
            have HF3 := hide_ hF3
            clear hF3
            go_wp2_with fail
            refine (H2.out _ HF3.out).mono ?_
            rintro e w' ⟨rfl, rfl⟩
            go_wp2_with (go_at_call 10; refine (H3.out _ HF3.out).mono ?_; rintro e w' ⟨rfl, rfl⟩)
            refine (H4.out _ HF3.out).mono ?_
            rintro e w' ⟨rfl, rfl⟩
            go_wp2_with (go_at_call 9; refine (H5.out _ HF3.out).mono ?_; rintro e w' ⟨rfl, rfl⟩)
            go_ret
            exact ⟨rfl, hB3⟩
    · have h2' : (524288 : Int) < (m : Int) := by omega
      go_enter Trym.func3, Trym.ntmps3
      go_wp2_with (go_at_call 7; refine (HC1.out _).mono ?_; rintro e w' ⟨rfl, rfl⟩)
      all_goals
        go_ret
        exact ⟨rfl, Below.refl _ _⟩
  · have h1' : (524288 : Int) < (n : Int) := by omega
    go_enter Trym.func3, Trym.ntmps3
    go_wp2_with (go_at_call 7; refine (HC1.out _).mono ?_; rintro e w' ⟨rfl, rfl⟩)
    all_goals
      go_ret
      exact ⟨rfl, Below.refl _ _⟩

end Go.Proofs.Qxb6605196aMods
