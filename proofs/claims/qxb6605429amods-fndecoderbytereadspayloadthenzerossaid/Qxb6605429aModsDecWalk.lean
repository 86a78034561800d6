/-
  SEAT b6605429aM: THE WALK OF FnDecoderByteReadsPayloadThenZeros.
-/
import Derived.Test.Qxb6605429aModsDec
namespace Go.Proofs.Qxb6605429aMods
open Go.RowKit

theorem ret_bool_ {a b : Bool} (h : a = b) : Ending.returned (.bool a) = .returned (.bool b) := by rw [h]

theorem dec_small (a : Option Addr) (n c : Nat) (bad : Bool) (x : Int) (w : World) (h : n ≤ 1048576) :
    Calls Trym.prog 9 #[.slice a n c, .bool bad, .int .u8 x] w fun e w' => e = .returned (.bool true) ∧ w = w' := by
  go_enter Trym.func9, Trym.ntmps9
  go_wp2
  go_ret
  exact ⟨rfl, rfl⟩
theorem dec_big (a : Option Addr) (n c : Nat) (bad : Bool) (x : Int) (w : World) (h : ¬ n ≤ 1048576) :
    Calls Trym.prog 9 #[.slice a n c, .bool bad, .int .u8 x] w fun e w' => e = .returned (.bool false) ∧ w = w' := by
  have h' : (1048576 : Int) < (n : Int) := by omega
  go_enter Trym.func9, Trym.ntmps9
  go_wp2
  go_ret
  exact ⟨rfl, rfl⟩

theorem Dec.start {w w1 : World} {n : Nat} {zs : List Int} (bad : Bool) (h : Fill w w1 n zs n) :
    Dec w (w1.alloc (.cells #[.slice (some ⟨w.heap.size, 0, none⟩) n n, .bool bad] 38)) w.heap.size w1.heap.size n zs 0 bad := by
  have hlt := h.row.lt
  refine ⟨h.below.alloc (by have := h.size; omega) _, by have := h.size; omega, by have := h.size; omega, fun j hj => ?_, by simp [go_sem], by simp [go_sem], ⟨some ⟨w.heap.size, 0, none⟩, by simp [go_sem], fun _ => rfl⟩, by simp [go_sem]⟩
  rw [World.cell?_alloc_old _ _ _ (by show w.heap.size ≠ w1.heap.size; omega), h.row.cell hj, if_pos hj]

theorem Dec.startNil (w : World) (bad : Bool) (zs : List Int) :
    Dec w (w.alloc (.cells #[.slice none 0 0, .bool bad] 38)) (w.heap.size + 1) w.heap.size 0 zs 0 bad := by
  refine ⟨(Below.refl _ _).alloc (Nat.le_refl _) _, Nat.le_refl _, by omega, fun j hj => absurd hj (Nat.not_lt_zero _), by simp [go_sem], by simp [go_sem], ⟨none, by simp [go_sem], fun h => absurd h (Nat.lt_irrefl _)⟩, by simp [go_sem]⟩

/-- What holds at the loop's head: k reads are done. -/
def Run (w wr : World) (B D n E : Nat) (zs : List Int) (bad : Bool) (ti : Value) : Prop :=
  ∃ k : Nat, k ≤ n + E ∧ ti = .int .i64 k ∧ ((k ≤ n ∧ Dec w wr B D n zs k bad) ∨ (n < k ∧ Dec w wr B D n zs n true))

set_option maxHeartbeats 4000000 in
set_option maxRecDepth 100000 in
theorem dec_nil (c E : Nat) (bad : Bool) (w : World) (hE : E ≤ 255) :
    Calls Trym.prog 5 #[.slice none 0 c, .bool bad, .int .u8 E] w fun e w' => e = .returned (.bool true) ∧ Below w.heap.size w w' := by
  have zs : List Int := []
  have HC1 : Hid (∀ w, Calls Trym.prog 9 #[.slice none 0 c, .bool bad, .int .u8 E] w fun e w' => e = .returned (.bool true) ∧ w = w') := fun w => dec_small _ 0 c bad E w (by omega)
  have HC2 : Hid (Calls Trym.prog 10 #[.slice none 0 c] w fun e w' => e = .returned (.slice none 0 0) ∧ w = w') := clone_nil 0 c w
  have HS : Hid (Dec w (w.alloc (.cells #[.slice none 0 0, .bool bad] 38)) (w.heap.size + 1) w.heap.size 0 zs 0 bad) := Dec.startNil w bad zs
  go_enter Trym.func5, Trym.ntmps5
  go_wp2_with (first | (go_at_call 9; refine (HC1.out _).mono ?_; rintro e w' ⟨rfl, rfl⟩) | (go_at_call 10; refine (HC2.out).mono ?_; rintro e w' ⟨rfl, rfl⟩) | (go_at_call 11; refine (new_any _ _ _ _ _).mono ?_; rintro e w' ⟨rfl, rfl⟩))
  go_loopw [10] (fun ti wr => Run w wr (w.heap.size + 1) w.heap.size 0 E zs bad ti) (fun ti _ => E - (intOf ti).toNat)
  case atStart => exact ⟨0, Nat.zero_le _, rfl, .inl ⟨Nat.zero_le _, HS.out⟩⟩
  case round =>
    obtain ⟨k, hk, rfl, hR⟩ := hrel
    clear HS
    obtain ⟨f, hf, hd⟩ : ∃ f, (f = if k = 0 then bad else true) ∧ Dec w wr (w.heap.size + 1) w.heap.size 0 zs 0 f := by
      rcases hR with hR | hR
      · obtain rfl : k = 0 := by omega
        exact ⟨bad, by rw [if_pos rfl], hR.2⟩
      · exact ⟨true, by rw [if_neg (by omega)], hR.2⟩
    clear hR
    have HFL : Hid (f = if k = 0 then bad else true) := hf
    clear hf
    by_cases hkt : k < 0 + E
    · have C1 : Hid (Calls Trym.prog 12 #[.pointer (some ⟨w.heap.size, 0, none⟩)] wr fun e w' => e = .returned (.int .u8 0) ∧ Dec w w' (w.heap.size + 1) w.heap.size 0 zs 0 true) := zzByte_no hd
      have hkt' : (k : Int) < (E : Int) := by omega
      clear hd
      go_wp2_with fail
      refine (C1.out).mono ?_
      rintro e wa ⟨rfl, hd1⟩
      have c2 := state_any hd1
      rw [Nat.sub_self] at c2
      have C2 : Hid (Calls Trym.prog 13 #[.pointer (some ⟨w.heap.size, 0, none⟩)] wa fun e w' => ∃ ad, e = .returned (.tuple #[.slice ad 0 0, .bool true]) ∧ (0 < 0 → ad = some ⟨(w.heap.size + 1), 0, none⟩) ∧ Dec w w' (w.heap.size + 1) w.heap.size 0 zs 0 true) := c2
      clear c2 hd1
      go_wp2_with fail
      refine (C2.out).mono ?_
      rintro e wb ⟨ad, rfl, -, hd2⟩
      have HD : Hid (Dec w wb (w.heap.size + 1) w.heap.size 0 zs 0 true) := hd2
      clear hd2
      go_wp2
      go_roundw
      case rel => exact ⟨k + 1, by omega, by go_num, .inr ⟨by omega, HD.out⟩⟩
      case measure => simp [intOf]; omega
    · have hke : k = 0 + E := by omega
      have c2 := state_any hd
      rw [Nat.sub_self] at c2
      have C2 : Hid (Calls Trym.prog 13 #[.pointer (some ⟨w.heap.size, 0, none⟩)] wr fun e w' => ∃ ad, e = .returned (.tuple #[.slice ad 0 0, .bool f]) ∧ (0 < 0 → ad = some ⟨(w.heap.size + 1), 0, none⟩) ∧ Dec w w' (w.heap.size + 1) w.heap.size 0 zs 0 f) := c2
      have HK : Hid (k = 0 + E) := hke
      have hkt' : ¬ (k : Int) < (E : Int) := by omega
      clear c2 hd hke hkt
      go_wp2_with fail
      refine (C2.out).mono ?_
      rintro e wb ⟨ad, rfl, -, hd2⟩
      have hB := hd2.below
      clear hd2
      by_cases hE0 : E = 0
      · have e1 : f = bad := by rw [HFL.out, if_pos (by rw [HK.out]; omega)]
        have hE1 : ¬ (0 : Int) < (E : Int) := by omega
        clear HFL
        subst e1
        clear hE0
        cases f
        all_goals
          go_wp2
          go_ret
          exact ⟨ret_bool_ (by first | rfl | (simp; omega)), hB⟩
      · have e1 : f = true := by rw [HFL.out, if_neg (by rw [HK.out]; omega)]
        have hE1 : (0 : Int) < (E : Int) := by omega
        clear HFL
        subst e1
        cases bad
        all_goals
          go_wp2
          go_ret
          exact ⟨ret_bool_ (by first | rfl | (simp; omega)), hB⟩

set_option maxHeartbeats 4000000 in
set_option maxRecDepth 100000 in
theorem dec_some (x : Addr) (n c E : Nat) (zs : List Int) (bad : Bool) (w : World) (hE : E ≤ 255) (h20 : n ≤ 1048576) (hx : ∀ i, i < n → x.spot = none ∧ x.block < w.heap.size ∧ w.cell? ⟨x.block, x.off + i, none⟩ = some (.int .u8 (zs.getD i 0))) :
    Calls Trym.prog 5 #[.slice (some x) n c, .bool bad, .int .u8 E] w fun e w' => e = .returned (.bool true) ∧ Below w.heap.size w w' := by
  have HC1 : Hid (∀ w, Calls Trym.prog 9 #[.slice (some x) n c, .bool bad, .int .u8 E] w fun e w' => e = .returned (.bool true) ∧ w = w') := fun w => dec_small _ n c bad E w h20
  have HC2 : Hid (Calls Trym.prog 10 #[.slice (some x) n c] w fun e w' => e = .returned (.slice (some ⟨w.heap.size, 0, none⟩) n n) ∧ Fill w w' n zs n) := clone_some x zs n c w h20 hx
  clear hx
  go_enter Trym.func5, Trym.ntmps5
  go_wp2_with (first | (go_at_call 9; refine (HC1.out _).mono ?_; rintro e w' ⟨rfl, rfl⟩) | (go_at_call 10; refine (HC2.out).mono ?_; rintro e w1 ⟨rfl, hF⟩) | (go_at_call 11; refine (new_any _ _ _ _ _).mono ?_; rintro e w' ⟨rfl, rfl⟩))
  have HS : Hid (Dec w (w1.alloc (.cells #[.slice (some ⟨w.heap.size, 0, none⟩) n n, .bool bad] 38)) w.heap.size w1.heap.size n zs 0 bad) := Dec.start bad hF
  clear hF
  go_loopw [10] (fun ti wr => Run w wr w.heap.size w1.heap.size n E zs bad ti) (fun ti _ => n + E - (intOf ti).toNat)
  case atStart => exact ⟨0, Nat.zero_le _, rfl, .inl ⟨Nat.zero_le _, HS.out⟩⟩
  case round =>
    obtain ⟨k, hk, rfl, hR⟩ := hrel
    clear HS
    by_cases hkn : k < n
    · -- the payload lasts
      have hd : Dec w wr w.heap.size w1.heap.size n zs k bad := by
        rcases hR with hR | hR
        · exact hR.2
        · omega
      clear hR
      obtain ⟨y, hy⟩ : ∃ y, zs.getD k 0 = y := ⟨_, rfl⟩
      have c1 := zzByte_yes hd hkn
      rw [hy] at c1
      have C1 : Hid (Calls Trym.prog 12 #[.pointer (some ⟨w1.heap.size, 0, none⟩)] wr fun e w' => e = .returned (.int .u8 y) ∧ Dec w w' w.heap.size w1.heap.size n zs (k + 1) bad) := c1
      have HY : Hid (zs.getD k 0 = y) := hy
      clear c1 hd hy
      have hkt : (k : Int) < (n : Int) + (E : Int) := by omega
      go_wp2_with fail
      refine (C1.out).mono ?_
      rintro e wa ⟨rfl, hd1⟩
      obtain ⟨L, hL⟩ : ∃ L, n - (k + 1) = L := ⟨_, rfl⟩
      have c2 := state_any hd1
      rw [hL] at c2
      have C2 : Hid (Calls Trym.prog 13 #[.pointer (some ⟨w1.heap.size, 0, none⟩)] wa fun e w' => ∃ ad, e = .returned (.tuple #[.slice ad L L, .bool bad]) ∧ (k + 1 < n → ad = some ⟨w.heap.size, k + 1, none⟩) ∧ Dec w w' w.heap.size w1.heap.size n zs (k + 1) bad) := c2
      clear c2 hd1
      go_wp2_with fail
      refine (C2.out).mono ?_
      rintro e wb ⟨ad, rfl, had, hd2⟩
      have HD : Hid (Dec w wb w.heap.size w1.heap.size n zs (k + 1) bad) := hd2
      have g := hd2.row k hkn
      rw [HY.out] at g
      have hL' : (n : Int) - (k : Int) - 1 = (L : Int) := by omega
      by_cases hk1 : k + 1 < n
      · obtain rfl := had hk1
        obtain ⟨z, hz⟩ : ∃ z, zs.getD (k + 1) 0 = z := ⟨_, rfl⟩
        have g1 := hd2.row (k + 1) hk1
        rw [hz] at g1
        have hL0 : (0 : Int) < (L : Int) := by omega
        have hk1' : (k : Int) + 1 < (n : Int) := by omega
        have hL1 : 0 < L := by omega
        clear hd2 hz hL had
        go_wp2
        have hd0 : decide ((0 : Int) < (L : Int)) = true := decide_eq_true hL0
        have hd1 : decide (0 < L) = true := decide_eq_true hL1
        go_quiet (fail)
        clear hd0 hd1 hL' hL0 hL1 g g1
        go_wp2
        go_roundw
        case rel => exact ⟨k + 1, by omega, by go_num, .inl ⟨by omega, HD.out.drewN _⟩⟩
        case measure => simp [intOf]; omega
      · have hL0 : ¬ (0 : Int) < (L : Int) := by omega
        have hL1 : ¬ 0 < L := by omega
        clear hd2 hL had
        go_wp2
        have hd0 : decide ((0 : Int) < (L : Int)) = false := decide_eq_false (by omega)
        have hd1 : decide (0 < L) = false := decide_eq_false (by omega)
        go_quiet (fail)
        clear hd0 hd1 hL' hL0 hL1 g
        go_wp2
        go_roundw
        case rel => exact ⟨k + 1, by omega, by go_num, .inl ⟨by omega, HD.out.drewN _⟩⟩
        case measure => simp [intOf]; omega
    · -- nothing is left
      obtain ⟨f, hf, hd⟩ : ∃ f, (f = if k = n then bad else true) ∧ Dec w wr w.heap.size w1.heap.size n zs n f := by
        rcases hR with hR | hR
        · obtain rfl : k = n := by omega
          exact ⟨bad, by rw [if_pos rfl], hR.2⟩
        · exact ⟨true, by rw [if_neg (by omega)], hR.2⟩
      clear hR
      have HFL : Hid (f = if k = n then bad else true) := hf
      clear hf
      by_cases hkt : k < n + E
      · have C1 : Hid (Calls Trym.prog 12 #[.pointer (some ⟨w1.heap.size, 0, none⟩)] wr fun e w' => e = .returned (.int .u8 0) ∧ Dec w w' w.heap.size w1.heap.size n zs n true) := zzByte_no hd
        have hkt' : (k : Int) < (n : Int) + (E : Int) := by omega
        clear hd
        go_wp2_with fail
        refine (C1.out).mono ?_
        rintro e wa ⟨rfl, hd1⟩
        have c2 := state_any hd1
        rw [Nat.sub_self] at c2
        have C2 : Hid (Calls Trym.prog 13 #[.pointer (some ⟨w1.heap.size, 0, none⟩)] wa fun e w' => ∃ ad, e = .returned (.tuple #[.slice ad 0 0, .bool true]) ∧ (n < n → ad = some ⟨w.heap.size, n, none⟩) ∧ Dec w w' w.heap.size w1.heap.size n zs n true) := c2
        clear c2 hd1
        go_wp2_with fail
        refine (C2.out).mono ?_
        rintro e wb ⟨ad, rfl, -, hd2⟩
        have HD : Hid (Dec w wb w.heap.size w1.heap.size n zs n true) := hd2
        clear hd2
        go_wp2
        go_roundw
        case rel => exact ⟨k + 1, by omega, by go_num, .inr ⟨by omega, HD.out⟩⟩
        case measure => simp [intOf]; omega
      · have hke : k = n + E := by omega
        have c2 := state_any hd
        rw [Nat.sub_self] at c2
        have C2 : Hid (Calls Trym.prog 13 #[.pointer (some ⟨w1.heap.size, 0, none⟩)] wr fun e w' => ∃ ad, e = .returned (.tuple #[.slice ad 0 0, .bool f]) ∧ (n < n → ad = some ⟨w.heap.size, n, none⟩) ∧ Dec w w' w.heap.size w1.heap.size n zs n f) := c2
        have HK : Hid (k = n + E) := hke
        have hkt' : ¬ (k : Int) < (n : Int) + (E : Int) := by omega
        clear c2 hd hke hkt
        go_wp2_with fail
        refine (C2.out).mono ?_
        rintro e wb ⟨ad, rfl, -, hd2⟩
        have hB := hd2.below
        clear hd2
        by_cases hE0 : E = 0
        · have e1 : f = bad := by rw [HFL.out, if_pos (by rw [HK.out]; omega)]
          have hE1 : ¬ (0 : Int) < (E : Int) := by omega
          clear HFL
          subst e1
          clear hE0
          cases f
          all_goals
            go_wp2
            go_ret
            exact ⟨ret_bool_ (by first | rfl | (simp; omega)), hB⟩
        · have e1 : f = true := by rw [HFL.out, if_neg (by rw [HK.out]; omega)]
          have hE1 : (0 : Int) < (E : Int) := by omega
          clear HFL
          subst e1
          cases bad
          all_goals
            go_wp2
            go_ret
            exact ⟨ret_bool_ (by first | rfl | (simp; omega)), hB⟩

theorem dec_over (a : Option Addr) (n c : Nat) (bad : Bool) (x : Int) (w : World) (h : ¬ n ≤ 1048576) :
    Calls Trym.prog 5 #[.slice a n c, .bool bad, .int .u8 x] w fun e w' => e = .returned (.bool true) ∧ Below w.heap.size w w' := by
  have HC1 : Hid (∀ w, Calls Trym.prog 9 #[.slice a n c, .bool bad, .int .u8 x] w fun e w' => e = .returned (.bool false) ∧ w = w') := fun w => dec_big a n c bad x w h
  go_enter Trym.func5, Trym.ntmps5
  go_wp2_with (go_at_call 9; refine (HC1.out _).mono ?_; rintro e w' ⟨rfl, rfl⟩)
  go_ret
  exact ⟨rfl, Below.refl _ _⟩

theorem wf_u8 {n : Int} (h : (Lit.int .u8 n).wf = true) : 0 ≤ n ∧ n ≤ 255 := by
  simp only [Lit.wf, Bool.and_eq_true, decide_eq_true_eq] at h
  exact h

/-- The cells of a row that came in, as the clone reads them. -/
theorem cells_of {w : World} {x : Addr} {len : Nat} {zs : List Int} (hl : len ≤ zs.length) (hc : ∀ i, i < zs.length → w.cell? (x.add i) = some (.int .u8 (zs.getD i 0))) :
    ∀ i, i < len → x.spot = none ∧ x.block < w.heap.size ∧ w.cell? ⟨x.block, x.off + i, none⟩ = some (.int .u8 (zs.getD i 0)) := by
  intro i hi
  obtain ⟨b, o, sp⟩ := x
  have hsp : sp = none := by simpa [Addr.add] using World.cell?_spot (hc 0 (by omega))
  subst hsp
  have h := hc i (by omega)
  rw [show (⟨b, o, none⟩ : Addr).add i = ⟨b, o + i, none⟩ from by unfold Addr.add; split <;> simp_all] at h
  have hb : b < w.heap.size := World.block_lt_of_cell? w ⟨b, o + i, none⟩ h
  exact ⟨rfl, hb, h⟩

theorem dec_walk (a0 : Option Addr) (n c : Nat) (zs : List Int) (bad : Bool) (x : Int) (w : World) (hx : 0 ≤ x ∧ x ≤ 255) (h : (a0 = none ∧ n = 0) ∨ ∃ y, a0 = some y ∧ n ≤ zs.length ∧ ∀ i, i < zs.length → w.cell? (y.add i) = some (.int .u8 (zs.getD i 0))) :
    Calls Trym.prog 5 #[.slice a0 n c, .bool bad, .int .u8 x] w fun e w' => e = .returned (.bool true) ∧ Below w.heap.size w w' := by
  obtain ⟨E, rfl⟩ := Int.eq_ofNat_of_zero_le hx.1
  have hE : E ≤ 255 := by omega
  rcases h with ⟨rfl, rfl⟩ | ⟨y, rfl, hl, hc⟩
  · exact dec_nil c E bad w hE
  · by_cases h20 : n ≤ 1048576
    · exact dec_some y n c E zs bad w hE h20 (cells_of hl hc)
    · exact dec_over _ n c bad _ w h20

end Go.Proofs.Qxb6605429aMods
