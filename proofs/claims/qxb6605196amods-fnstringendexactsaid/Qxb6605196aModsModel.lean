/-
  SEAT b6605196aM: THE WALK OF lawStringEndModel: it returns 'strEnd zs start'.
-/
import Derived.Test.Qxb6605196aModsBase
import Derived.Test.Qxb6605196aModsPlain
namespace Go.Proofs.Qxb6605196aMods
open Go.RowKit

/-- The three bytes of an opening, parted as the Go test parts them. -/
theorem mult_true {zs : List Int} {s n : Nat} {q q1 q2 : Int} (hn : zs.length = n) (h0 : zs.getD s 0 = q) (h1 : zs.getD (s + 1) 0 = q1) (h2 : zs.getD (s + 2) 0 = q2) (a : s + 2 < n) (b : q1 = q) (c : q2 = q) : mult zs s = true := by
  simp only [mult, decide_eq_true_eq]; rw [h0, h1, h2, hn]; exact ⟨a, b, c⟩
theorem mult_false {zs : List Int} {s n : Nat} {q q1 q2 : Int} (hn : zs.length = n) (h0 : zs.getD s 0 = q) (h1 : zs.getD (s + 1) 0 = q1) (h2 : zs.getD (s + 2) 0 = q2) (a : ¬ (s + 2 < n ∧ q1 = q ∧ q2 = q)) : mult zs s = false := by
  simp only [mult, decide_eq_false_iff_not]; rw [h0, h1, h2, hn]; exact a
/-- What holds at the head of the model's loop: the place, whether the byte before escapes, the run of quotes; from there the machine comes to R. -/
def RelM (zs : List Int) (q : Int) (m : Bool) (n R : Nat) (tj te tr : Value) : Prop :=
  ∃ (j r : Nat) (e : Bool), j ≤ n ∧ r ≤ j ∧ tj = .int .i64 j ∧ te = .bool e ∧ tr = .int .i64 r ∧ at_ zs q m j e r = R
theorem RelM.mk {zs : List Int} {q : Int} {m : Bool} {n R : Nat} {tj te tr : Value} (j r : Nat) (e : Bool) (h1 : j ≤ n) (h2 : r ≤ j) (h3 : tj = .int .i64 j) (h4 : te = .bool e) (h5 : tr = .int .i64 r) (h6 : at_ zs q m j e r = R) : RelM zs q m n R tj te tr :=
  ⟨j, r, e, h1, h2, h3, h4, h5, h6⟩

set_option maxHeartbeats 2000000 in
theorem model_any (b o n c s : Nat) (zs : List Int) (w : World) (hn : zs.length = n) (hb : n ≤ 1048576) (hsn : s < n)
    (hc : ∀ i, i < n → w.cell? ⟨b, o + i, none⟩ = some (.int .u8 (zs.getD i 0))) :
    Calls Trym.prog 16 #[.slice (some ⟨b, o, none⟩) n c, .int .i64 s] w fun e w' => e = .returned (.int .i64 (strEnd zs s)) ∧ w' = w := by
  have HN : Hid (zs.length = n) := hn
  clear hn
  obtain ⟨q, hq⟩ : ∃ q, zs.getD s 0 = q := ⟨_, rfl⟩
  have HQ : Hid (zs.getD s 0 = q) := hq
  have g0 := hc s hsn
  rw [hq] at g0
  clear hq
  obtain ⟨R, hR⟩ : ∃ R, strEnd zs s = R := ⟨_, rfl⟩
  rw [hR]
  have HR : Hid (strEnd zs s = R) := hR
  clear hR
  have HCELL : Hid (∀ i, i < n → w.cell? ⟨b, o + i, none⟩ = some (.int .u8 (zs.getD i 0))) := hc
  clear hc
  obtain ⟨q1, h1⟩ : ∃ q1, zs.getD (s + 1) 0 = q1 := ⟨_, rfl⟩
  obtain ⟨q2, h2⟩ : ∃ q2, zs.getD (s + 2) 0 = q2 := ⟨_, rfl⟩
  have H1 : Hid (zs.getD (s + 1) 0 = q1) := h1
  have H2 : Hid (zs.getD (s + 2) 0 = q2) := h2
  by_cases hm : s + 2 < n ∧ q1 = q ∧ q2 = q
  · -- a multi-line string
    obtain ⟨hs2, e1, e2⟩ := hm
    subst e1; subst e2
    have HS : Hid (at_ zs q2 true (s + 3) false 0 = R) := (strEnd_multi HQ.out (mult_true HN.out HQ.out h1 h2 hs2 rfl rfl)).trans HR.out
    have g1 := HCELL.out (s + 1) (by omega)
    have g2 := HCELL.out (s + 2) (by omega)
    rw [h1] at g1
    rw [h2] at g2
    clear h1 h2 H1 H2
    have hs3 : (s : Int) + 2 < (n : Int) := by omega
    go_enter Trym.func16, Trym.ntmps16
    go_wp2
    clear g0 g1 g2
    go_loop [8, 9, 10] (fun tj te tr => RelM zs q2 true n R tj te tr) (fun tj _ _ => n - (intOf tj).toNat)
    case atStart => exact RelM.mk (s + 3) 0 false (by omega) (by omega) (by go_num) rfl rfl HS.out
    case round =>
      obtain ⟨j, r, e, hj, hr, rfl, rfl, rfl, ha⟩ := hrel
      have HA : Hid (at_ zs q2 true j e r = R) := ha
      clear ha
      clear HS
      by_cases hlt : j < n
      · have g := HCELL.out j hlt
        obtain ⟨d, hd⟩ : ∃ d, zs.getD j 0 = d := ⟨_, rfl⟩
        rw [hd] at g
        have HD : Hid (zs.getD j 0 = d) := hd
        clear hd
        have HL : Hid (j < zs.length) := by show _ < _; rw [HN.out]; exact hlt
        cases e with
        | true =>
          have HB : Hid (at_ zs q2 true (j + 1) false r = R) := (at_esc HL.out).symm.trans HA.out
          go_wp2
          go_round
          case rel => first | exact RelM.mk (j + 1) (r) false (by omega) (by omega) (by go_num) rfl (by go_num) HB.out | exact ⟨_, _, _, _, RelM.mk (j + 1) (r) false (by omega) (by omega) (by go_num) rfl (by go_num) HB.out, rfl, rfl, rfl, rfl⟩
          case measure => simp [intOf]; omega
        | false =>
          by_cases hdq : d = q2
          · subst hdq
            have HB : Hid (at_ zs d true (j + 1) false (r + 1) = R) := (at_multi_quote HL.out HD.out).symm.trans HA.out
            go_wp2
            go_round
            case rel => first | exact RelM.mk (j + 1) (r + 1) false (by omega) (by omega) (by go_num) rfl (by go_num) HB.out | exact ⟨_, _, _, _, RelM.mk (j + 1) (r + 1) false (by omega) (by omega) (by go_num) rfl (by go_num) HB.out, rfl, rfl, rfl, rfl⟩
            case measure => simp [intOf]; omega
          · have hdq' : (d == q2) = false := by simpa using hdq
            by_cases hr3 : 3 ≤ r
            · have HB : Hid (j = R) := (at_multi_done HL.out (by rw [HD.out]; exact hdq) hr3).symm.trans HA.out
              go_wp2
              go_ret
              exact ⟨ret_int (by rw [HB.out]), rfl⟩
            · by_cases h34 : q2 = 34
              · by_cases h92 : d = 92
                · have HB : Hid (at_ zs q2 true (j + 1) true 0 = R) := (at_multi_back HL.out (by rw [HD.out]; exact hdq) (by omega) h34 (by rw [HD.out]; exact h92)).symm.trans HA.out
                  subst h34; subst h92
                  clear hdq hdq'
                  go_wp2
                  go_round
                  case rel => first | exact RelM.mk (j + 1) (0) true (by omega) (by omega) (by go_num) rfl (by go_num) HB.out | exact ⟨_, _, _, _, RelM.mk (j + 1) (0) true (by omega) (by omega) (by go_num) rfl (by go_num) HB.out, rfl, rfl, rfl, rfl⟩
                  case measure => simp [intOf]; omega
                · have HB : Hid (at_ zs q2 true (j + 1) false 0 = R) := (at_multi_plain HL.out (by rw [HD.out]; exact hdq) (by omega) (by rw [HD.out]; exact fun h => h92 h.2)).symm.trans HA.out
                  have h92' : (d == 92) = false := by simpa using h92
                  subst h34
                  go_wp2
                  go_round
                  case rel => first | exact RelM.mk (j + 1) (0) false (by omega) (by omega) (by go_num) rfl (by go_num) HB.out | exact ⟨_, _, _, _, RelM.mk (j + 1) (0) false (by omega) (by omega) (by go_num) rfl (by go_num) HB.out, rfl, rfl, rfl, rfl⟩
                  case measure => simp [intOf]; omega
              · have HB : Hid (at_ zs q2 true (j + 1) false 0 = R) := (at_multi_plain HL.out (by rw [HD.out]; exact hdq) (by omega) (by exact fun h => h34 h.1)).symm.trans HA.out
                have h34' : (q2 == 34) = false := by simpa using h34
                go_wp2
                go_round
                case rel => first | exact RelM.mk (j + 1) (0) false (by omega) (by omega) (by go_num) rfl (by go_num) HB.out | exact ⟨_, _, _, _, RelM.mk (j + 1) (0) false (by omega) (by omega) (by go_num) rfl (by go_num) HB.out, rfl, rfl, rfl, rfl⟩
                case measure => simp [intOf]; omega
      · have HB : Hid (n = R) := by
          have := at_end zs q2 true e j r (by rw [HN.out]; omega)
          have h := HA.out
          show _ = _
          omega
        go_wp2
        go_ret
        exact ⟨ret_int (by rw [HB.out]), rfl⟩
  · -- a one-line string
    have HS : Hid (at_ zs q false (s + 1) false 0 = R) := (strEnd_one HQ.out (mult_false HN.out HQ.out h1 h2 hm)).trans HR.out
    have hcase : (¬ (s : Int) + 2 < (n : Int)) ∨ ((s : Int) + 2 < (n : Int) ∧ w.cell? ⟨b, o + (s + 1), none⟩ = some (.int .u8 q1) ∧ (q1 == q) = false) ∨
        ((s : Int) + 2 < (n : Int) ∧ w.cell? ⟨b, o + (s + 1), none⟩ = some (.int .u8 q) ∧ w.cell? ⟨b, o + (s + 2), none⟩ = some (.int .u8 q2) ∧ (q2 == q) = false) := by
      by_cases hs2 : s + 2 < n
      · have g1 := HCELL.out (s + 1) (by omega)
        have g2 := HCELL.out (s + 2) (by omega)
        rw [h1] at g1
        rw [h2] at g2
        by_cases e1 : q1 = q
        · subst e1
          exact .inr (.inr ⟨by omega, g1, g2, by simpa using fun h => hm ⟨hs2, rfl, h⟩⟩)
        · exact .inr (.inl ⟨by omega, g1, by simpa using e1⟩)
      · exact .inl (by omega)
    clear hm h1 h2 H1 H2
    rcases hcase with hs3 | ⟨hs3, g1, e1⟩ | ⟨hs3, g1, g2, e2⟩
    all_goals
      go_enter Trym.func16, Trym.ntmps16
      go_wp2
      clear g0
      try clear g1
      try clear g2
      go_loop [8, 9, 10] (fun tj te tr => RelM zs q false n R tj te tr) (fun tj _ _ => n - (intOf tj).toNat)
      case atStart => exact RelM.mk (s + 1) 0 false (by omega) (by omega) (by go_num) rfl rfl HS.out
      case round =>
        obtain ⟨j, r, e, hj, hr, rfl, rfl, rfl, ha⟩ := hrel
        have HA : Hid (at_ zs q false j e r = R) := ha
        clear ha HS
        by_cases hlt : j < n
        · have g := HCELL.out j hlt
          obtain ⟨d, hd⟩ : ∃ d, zs.getD j 0 = d := ⟨_, rfl⟩
          rw [hd] at g
          have HD : Hid (zs.getD j 0 = d) := hd
          clear hd
          have HL : Hid (j < zs.length) := by show _ < _; rw [HN.out]; exact hlt
          cases e with
          | true =>
            have HB : Hid (at_ zs q false (j + 1) false r = R) := (at_esc HL.out).symm.trans HA.out
            go_wp2
            go_round
            case rel => first | exact RelM.mk (j + 1) r false (by omega) (by omega) (by go_num) rfl (by go_num) HB.out | exact ⟨_, _, _, _, RelM.mk (j + 1) r false (by omega) (by omega) (by go_num) rfl (by go_num) HB.out, rfl, rfl, rfl, rfl⟩
            case measure => simp [intOf]; omega
          | false =>
            by_cases hdq : d = q
            · have HB : Hid (j + 1 = R) := (at_one_quote HL.out (HD.out.trans hdq)).symm.trans HA.out
              subst hdq
              go_wp2
              go_ret
              exact ⟨ret_int (by rw [← HB.out]; omega), rfl⟩
            · have hdq' : (d == q) = false := by simpa using hdq
              by_cases h34 : q = 34
              · by_cases h92 : d = 92
                · have HB : Hid (at_ zs q false (j + 1) true r = R) := (at_one_back HL.out (by rw [HD.out]; exact hdq) h34 (by rw [HD.out]; exact h92)).symm.trans HA.out
                  subst h34; subst h92
                  clear hdq hdq'
                  go_wp2
                  go_round
                  case rel => first | exact RelM.mk (j + 1) r true (by omega) (by omega) (by go_num) rfl (by go_num) HB.out | exact ⟨_, _, _, _, RelM.mk (j + 1) r true (by omega) (by omega) (by go_num) rfl (by go_num) HB.out, rfl, rfl, rfl, rfl⟩
                  case measure => simp [intOf]; omega
                · have HB : Hid (at_ zs q false (j + 1) false r = R) := (at_one_plain HL.out (by rw [HD.out]; exact hdq) (by rw [HD.out]; exact fun h => h92 h.2)).symm.trans HA.out
                  have h92' : (d == 92) = false := by simpa using h92
                  subst h34
                  go_wp2
                  go_round
                  case rel => first | exact RelM.mk (j + 1) r false (by omega) (by omega) (by go_num) rfl (by go_num) HB.out | exact ⟨_, _, _, _, RelM.mk (j + 1) r false (by omega) (by omega) (by go_num) rfl (by go_num) HB.out, rfl, rfl, rfl, rfl⟩
                  case measure => simp [intOf]; omega
              · have HB : Hid (at_ zs q false (j + 1) false r = R) := (at_one_plain HL.out (by rw [HD.out]; exact hdq) (by exact fun h => h34 h.1)).symm.trans HA.out
                have h34' : (q == 34) = false := by simpa using h34
                go_wp2
                go_round
                case rel => first | exact RelM.mk (j + 1) r false (by omega) (by omega) (by go_num) rfl (by go_num) HB.out | exact ⟨_, _, _, _, RelM.mk (j + 1) r false (by omega) (by omega) (by go_num) rfl (by go_num) HB.out, rfl, rfl, rfl, rfl⟩
                case measure => simp [intOf]; omega
        · have HB : Hid (n = R) := by
            have := at_end zs q false e j r (by rw [HN.out]; omega)
            have h := HA.out
            show _ = _
            omega
          go_wp2
          go_ret
          exact ⟨ret_int (by rw [HB.out]), rfl⟩

end Go.Proofs.Qxb6605196aMods
