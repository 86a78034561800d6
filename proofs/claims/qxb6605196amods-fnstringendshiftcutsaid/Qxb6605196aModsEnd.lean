/-
  SEAT b6605196aM: THE WALK OF stringEnd: it returns 'strEnd zs start'. bytes.HasPrefix is taken by its contract.
-/
import Derived.Test.Qxb6605196aModsBase
import Derived.Test.Qxb6605196aModsPlain
import Derived.Test.Qxb6605196aModsBytesPrefix
namespace Go.Proofs.Qxb6605196aMods
open Go.RowKit

theorem byte_inj {a b : Int} (ha : 0 ≤ a ∧ a ≤ 255) (hb : 0 ≤ b ∧ b ≤ 255) : (UInt8.ofNat a.toNat = UInt8.ofNat b.toNat) ↔ a = b := by
  constructor
  · intro h
    have := congrArg UInt8.toNat h
    rw [UInt8.toNat_ofNat', UInt8.toNat_ofNat', Nat.mod_eq_of_lt (by omega), Nat.mod_eq_of_lt (by omega)] at this
    omega
  · rintro rfl; rfl

/-- HasPrefix(data[start:], {q, q, q}) is the test on three bytes. -/
theorem prefix_mult (zs : List Int) (s : Nat) (hs : s < zs.length) (hz : ∀ m ∈ zs, 0 ≤ m ∧ m ≤ 255) :
    Lib.hasPrefix (Lib.bytesOf (zs.drop s)) (Lib.bytesOf [zs.getD s 0, zs.getD s 0, zs.getD s 0]) = mult zs s := by
  have hg : ∀ i, i < zs.length → 0 ≤ zs.getD i 0 ∧ zs.getD i 0 ≤ 255 := by
    intro i hi
    rw [List.getD_eq_getElem?_getD, List.getElem?_eq_getElem hi]
    exact hz _ (List.getElem_mem hi)
  rw [drop_at zs s hs]
  unfold Lib.hasPrefix Lib.bytesOf mult
  by_cases h1 : s + 1 < zs.length
  · rw [drop_at zs (s + 1) h1]
    by_cases h2 : s + 2 < zs.length
    · rw [drop_at zs (s + 2) h2]
      rw [Bool.eq_iff_iff]
      have i1 := byte_inj (hg s hs) (hg (s + 1) h1)
      have i2 := byte_inj (hg s hs) (hg (s + 2) h2)
      simp only [List.map_cons, List.map_nil, List.isPrefixOf, Bool.and_true, Bool.and_eq_true, beq_iff_eq, decide_eq_true_eq]
      rw [i1, i2]
      constructor
      · rintro ⟨_, b, c⟩; exact ⟨h2, b.symm, c.symm⟩
      · rintro ⟨_, b, c⟩; exact ⟨trivial, b.symm, c.symm⟩
    · rw [List.drop_eq_nil_of_le (by omega)]
      simp [List.isPrefixOf, h2]
  · rw [List.drop_eq_nil_of_le (by omega)]
    simp [List.isPrefixOf]
    omega

/-- What holds at the head of stringEnd's loop: the place i; from there the machine comes to R. -/
def RelE (zs : List Int) (q : Int) (m : Bool) (n R : Nat) (ti : Value) : Prop :=
  ∃ i : Nat, ti = .int .i64 i ∧ ((i ≤ n ∧ at_ zs q m i false 0 = R) ∨ (i = n + 1 ∧ R = n))
theorem RelE.mk {zs : List Int} {q : Int} {m : Bool} {n R : Nat} {ti : Value} (i : Nat) (h1 : ti = .int .i64 i) (h2 : (i ≤ n ∧ at_ zs q m i false 0 = R) ∨ (i = n + 1 ∧ R = n)) : RelE zs q m n R ti := ⟨i, h1, h2⟩

set_option maxHeartbeats 2000000 in
theorem stringEnd_any (b o n c s : Nat) (zs : List Int) (w : World) (hn : zs.length = n) (hb : n ≤ 1048576) (hsn : s < n) (hnc : n ≤ c) (hbs : b < w.heap.size) (hz : ∀ m ∈ zs, 0 ≤ m ∧ m ≤ 255) (hqq : zs.getD s 0 = 34 ∨ zs.getD s 0 = 39)
    (hc : ∀ i, i < n → w.cell? ⟨b, o + i, none⟩ = some (.int .u8 (zs.getD i 0))) :
    Calls Trym.prog 21 #[.slice (some ⟨b, o, none⟩) n c, .int .i64 s] w fun e w' => e = .returned (.int .i64 (strEnd zs s)) ∧ Below w.heap.size w w' := by
  have HP : Hid (Lib.hasPrefix (Lib.bytesOf (zs.drop s)) (Lib.bytesOf [zs.getD s 0, zs.getD s 0, zs.getD s 0]) = mult zs s) := prefix_mult zs s (by omega) hz
  have HN : Hid (zs.length = n) := hn
  clear hn hz
  obtain ⟨q, hq⟩ : ∃ q, zs.getD s 0 = q := ⟨_, rfl⟩
  have HQ : Hid (zs.getD s 0 = q) := hq
  have g0 := hc s hsn
  rw [hq] at g0 HP hqq
  have HQQ : Hid (q = 34 ∨ q = 39) := hqq
  clear hqq
  clear hq
  obtain ⟨R, hR⟩ : ∃ R, strEnd zs s = R := ⟨_, rfl⟩
  rw [hR]
  have HR : Hid (strEnd zs s = R) := hR
  clear hR
  have HCELL : Hid (∀ i, i < n → w.cell? ⟨b, o + i, none⟩ = some (.int .u8 (zs.getD i 0))) := hc
  clear hc
  have hsc : (s : Int) ≤ (n : Int) := by omega
  have hsc2 : s ≠ c := by omega
  obtain ⟨w1, hw1⟩ : ∃ w1, w.alloc (.cells #[.int .u8 q, .int .u8 q, .int .u8 q] 5) = w1 := ⟨_, rfl⟩
  have HB1 : Hid (Below w.heap.size w w1) := by rw [← hw1]; exact (Below.refl _ _).alloc (Nat.le_refl _) _
  have HC1 : Hid (∀ i, i < n → w1.cell? ⟨b, o + i, none⟩ = some (.int .u8 (zs.getD i 0))) := fun i hi => by rw [HB1.out.cell (p := ⟨b, o + i, none⟩) hbs]; exact HCELL.out i hi
  have C : Calls Trym.prog 23 #[.slice (some ⟨b, o + s, none⟩) (n - s) (c - s), .slice (some ⟨w.heap.size, 0, none⟩) 3 3] (w.alloc (.cells #[.int .u8 q, .int .u8 q, .int .u8 q] 5)) fun e w' => e = .returned (.bool (mult zs s)) ∧ w1 = w' := by
    have := Trym.bytes_HasPrefix b (o + s) (n - s) (c - s) w.heap.size 0 3 3 (zs.drop s) [q, q, q] w1 (by rw [List.length_drop, HN.out]) rfl (by omega)
      (fun i hi => by rw [getD_drop', Nat.add_assoc]; exact HC1.out (s + i) (by omega))
      (fun i hi => by
        rw [← hw1]
        have : i = 0 ∨ i = 1 ∨ i = 2 := by omega
        rcases this with rfl | rfl | rfl <;> simp [go_sem])
    rw [HP.out] at this
    rw [hw1]
    exact this.mono fun e w' h => ⟨h.1, h.2.symm⟩
  have HW1 : Hid (w.alloc (.cells #[.int .u8 q, .int .u8 q, .int .u8 q] 5) = w1) := hw1
  clear hw1 HP
  by_cases hm : mult zs s = true
  · rw [hm] at C
    have HC : Hid (Calls Trym.prog 23 #[.slice (some ⟨b, o + s, none⟩) (n - s) (c - s), .slice (some ⟨w.heap.size, 0, none⟩) 3 3] (w.alloc (.cells #[.int .u8 q, .int .u8 q, .int .u8 q] 5)) fun e w' => e = .returned (.bool true) ∧ w1 = w') := C
    have hs3 : s + 3 ≤ n := by have := hm; simp only [mult, decide_eq_true_eq] at this; rw [HN.out] at this; omega
    have HS : Hid (at_ zs q true (s + 3) false 0 = R) := (strEnd_multi HQ.out hm).trans HR.out
    clear C hm
    go_enter Trym.func21, Trym.ntmps21
    go_wp2_with (go_at_call 23; refine (HC.out).mono ?_; rintro e w' ⟨rfl, rfl⟩)
    clear g0
    go_loop [7] (fun ti => RelE zs q true n R ti) (fun ti => n + 1 - (intOf ti).toNat)
    case atStart => exact RelE.mk (s + 3) (by go_num) (.inl ⟨hs3, HS.out⟩)
    case round =>
      obtain ⟨i, rfl, hi⟩ := hrel
      clear HS
      by_cases hlt : i < n
      · have HA : Hid (at_ zs q true i false 0 = R) := by
          rcases hi with hi | hi
          · exact hi.2
          · omega
        clear hi
        have g := HC1.out i hlt
        obtain ⟨d, hd⟩ : ∃ d, zs.getD i 0 = d := ⟨_, rfl⟩
        rw [hd] at g
        have HD : Hid (zs.getD i 0 = d) := hd
        clear hd
        have HL : Hid (i < zs.length) := by show _ < _; rw [HN.out]; exact hlt
        by_cases h9 : d = 92 ∧ q = 34
        · obtain ⟨rfl, rfl⟩ := h9
          have hx : (i + 2 ≤ n ∧ at_ zs 34 true (i + 2) false 0 = R) ∨ (i + 2 = n + 1 ∧ R = n) := by
            have e1 := (at_multi_back HL.out (r := 0) (q := 34) (by rw [HD.out]; decide) (by omega) rfl HD.out).symm.trans HA.out
            by_cases h2 : i + 1 < n
            · exact .inl ⟨by omega, (at_esc (by rw [HN.out]; exact h2)).symm.trans e1⟩
            · rw [at_end _ _ _ _ _ _ (by rw [HN.out]; omega)] at e1
              exact .inr ⟨by omega, by omega⟩
          have HX : Hid ((i + 2 ≤ n ∧ at_ zs 34 true (i + 2) false 0 = R) ∨ (i + 2 = n + 1 ∧ R = n)) := hx
          clear hx
          go_wp2
          go_round
          case rel => first | exact RelE.mk (i + 2) (by go_num) HX.out | exact ⟨_, _, RelE.mk (i + 2) (by go_num) HX.out, rfl, rfl⟩
          case measure => simp [intOf]; omega
        · by_cases hdq : d = q
          · subst hdq
            have hqb : (d == 92) = false := by
              rcases HQQ.out with h | h <;> subst h <;> rfl
            clear h9
            go_wp2
            go_loop [7] (fun ti => ∃ k : Nat, i ≤ k ∧ k ≤ n ∧ ti = .int .i64 k ∧ Hid (at_ zs d true k false (k - i) = R)) (fun ti => n - (intOf ti).toNat)
            case atStart => exact ⟨i, Nat.le_refl _, by omega, rfl, by show _ = _; rw [Nat.sub_self]; exact HA.out⟩
            case round =>
              obtain ⟨k, hik, hkn, rfl, HK⟩ := hrel
              by_cases hkl : k < n
              · have gk := HC1.out k hkl
                obtain ⟨d', hd'⟩ : ∃ d', zs.getD k 0 = d' := ⟨_, rfl⟩
                rw [hd'] at gk
                have HD' : Hid (zs.getD k 0 = d') := hd'
                clear hd'
                have HLk : Hid (k < zs.length) := by show _ < _; rw [HN.out]; exact hkl
                by_cases hdd : d' = d
                · subst hdd
                  have HB : Hid (at_ zs d' true (k + 1) false (k + 1 - i) = R) := by
                    have := (at_multi_quote (r := k - i) HLk.out HD'.out).symm.trans HK.out
                    rw [show k - i + 1 = k + 1 - i from by omega] at this
                    exact this
                  go_wp2
                  go_round
                  case rel => exact ⟨k + 1, by omega, by omega, by go_num, HB⟩
                  case measure => simp [intOf]; omega
                · have hdd' : (d' == d) = false := by simpa using hdd
                  have hne : i ≠ k := by
                    intro e
                    subst e
                    exact hdd (HD'.out.symm.trans HD.out)
                  by_cases hr3 : 3 ≤ k - i
                  · have hr3' : (3 : Int) ≤ (k : Int) - (i : Int) := by omega
                    have HB : Hid (k = R) := (at_multi_done HLk.out (by rw [HD'.out]; exact hdd) hr3).symm.trans HK.out
                    go_wp2
                    go_ret
                    exact ⟨ret_int (by rw [HB.out]), HB1.out⟩
                  · have hr3' : ¬ (3 : Int) ≤ (k : Int) - (i : Int) := by omega
                    have HB : Hid (at_ zs d true k false 0 = R) := (at_multi_reset HLk.out (by rw [HD'.out]; exact hdd) (by omega)).symm.trans HK.out
                    go_wp2
                    go_round
                    case rel => first | exact RelE.mk k (by go_num) (.inl ⟨by omega, HB.out⟩) | exact ⟨_, _, RelE.mk k (by go_num) (.inl ⟨by omega, HB.out⟩), rfl, rfl⟩
                    case measure => simp [intOf]; omega
              · have hkn' : k = n := by omega
                subst hkn'
                have HB : Hid (k = R) := by
                  have := HK.out
                  rw [at_end _ _ _ _ _ _ (by rw [HN.out]; omega)] at this
                  exact this
                by_cases hr3 : 3 ≤ k - i
                · have hr3' : (3 : Int) ≤ (k : Int) - (i : Int) := by omega
                  go_wp2
                  go_ret
                  exact ⟨ret_int (by rw [HB.out]), HB1.out⟩
                · have hr3' : ¬ (3 : Int) ≤ (k : Int) - (i : Int) := by omega
                  have HB2 : Hid (at_ zs d true k false 0 = R) := by
                    show _ = _
                    rw [at_end _ _ _ _ _ _ (by rw [HN.out]; omega)]
                    exact HB.out
                  go_wp2
                  go_round
                  case rel => first | exact RelE.mk k (by go_num) (.inl ⟨by omega, HB2.out⟩) | exact ⟨_, _, RelE.mk k (by go_num) (.inl ⟨by omega, HB2.out⟩), rfl, rfl⟩
                  case measure => simp [intOf]; omega
          · have HB : Hid (at_ zs q true (i + 1) false 0 = R) := (at_multi_plain HL.out (by rw [HD.out]; exact hdq) (by omega) (by rw [HD.out]; exact fun h => h9 ⟨h.2, h.1⟩)).symm.trans HA.out
            have hdq' : (d == q) = false := by simpa using hdq
            by_cases h92 : d = 92
            · have hq39 : q = 39 := by
                rcases HQQ.out with h | h
                · exact absurd ⟨h92, h⟩ h9
                · exact h
              clear h9 hdq hdq'
              subst h92; subst hq39
              go_wp2
              go_round
              case rel => first | exact RelE.mk (i + 1) (by go_num) (.inl ⟨by omega, HB.out⟩) | exact ⟨_, _, RelE.mk (i + 1) (by go_num) (.inl ⟨by omega, HB.out⟩), rfl, rfl⟩
              case measure => simp [intOf]; omega
            · have h92' : (d == 92) = false := by simpa using h92
              clear h9
              go_wp2
              go_round
              case rel => first | exact RelE.mk (i + 1) (by go_num) (.inl ⟨by omega, HB.out⟩) | exact ⟨_, _, RelE.mk (i + 1) (by go_num) (.inl ⟨by omega, HB.out⟩), rfl, rfl⟩
              case measure => simp [intOf]; omega
      · have HB : Hid (n = R) := by
          show _ = _
          rcases hi with ⟨h1, h2⟩ | ⟨h1, h2⟩
          · rw [at_end _ _ _ _ _ _ (by rw [HN.out]; omega)] at h2
            omega
          · exact h2.symm
        clear hi
        go_wp2
        go_ret
        exact ⟨ret_int (by rw [HB.out]), HB1.out⟩
  · have hm' : mult zs s = false := by simpa using hm
    rw [hm'] at C
    have HC : Hid (Calls Trym.prog 23 #[.slice (some ⟨b, o + s, none⟩) (n - s) (c - s), .slice (some ⟨w.heap.size, 0, none⟩) 3 3] (w.alloc (.cells #[.int .u8 q, .int .u8 q, .int .u8 q] 5)) fun e w' => e = .returned (.bool false) ∧ w1 = w') := C
    have HS : Hid (at_ zs q false (s + 1) false 0 = R) := (strEnd_one HQ.out hm').trans HR.out
    clear C hm hm'
    go_enter Trym.func21, Trym.ntmps21
    go_wp2_with (go_at_call 23; refine (HC.out).mono ?_; rintro e w' ⟨rfl, rfl⟩)
    clear g0
    go_loop [7] (fun ti => RelE zs q false n R ti) (fun ti => n + 1 - (intOf ti).toNat)
    case atStart => exact RelE.mk (s + 1) (by go_num) (.inl ⟨by omega, HS.out⟩)
    case round =>
      obtain ⟨i, rfl, hi⟩ := hrel
      clear HS
      by_cases hlt : i < n
      · have HA : Hid (at_ zs q false i false 0 = R) := by
          rcases hi with hi | hi
          · exact hi.2
          · omega
        clear hi
        have g := HC1.out i hlt
        obtain ⟨d, hd⟩ : ∃ d, zs.getD i 0 = d := ⟨_, rfl⟩
        rw [hd] at g
        have HD : Hid (zs.getD i 0 = d) := hd
        clear hd
        have HL : Hid (i < zs.length) := by show _ < _; rw [HN.out]; exact hlt
        by_cases h9 : d = 92 ∧ q = 34
        · obtain ⟨rfl, rfl⟩ := h9
          have hx : (i + 2 ≤ n ∧ at_ zs 34 false (i + 2) false 0 = R) ∨ (i + 2 = n + 1 ∧ R = n) := by
            have e1 := (at_one_back HL.out (r := 0) (q := 34) (by rw [HD.out]; decide) rfl HD.out).symm.trans HA.out
            by_cases h2 : i + 1 < n
            · exact .inl ⟨by omega, (at_esc (by rw [HN.out]; exact h2)).symm.trans e1⟩
            · rw [at_end _ _ _ _ _ _ (by rw [HN.out]; omega)] at e1
              exact .inr ⟨by omega, by omega⟩
          have HX : Hid ((i + 2 ≤ n ∧ at_ zs 34 false (i + 2) false 0 = R) ∨ (i + 2 = n + 1 ∧ R = n)) := hx
          clear hx
          go_wp2
          go_round
          case rel => first | exact RelE.mk (i + 2) (by go_num) HX.out | exact ⟨_, _, RelE.mk (i + 2) (by go_num) HX.out, rfl, rfl⟩
          case measure => simp [intOf]; omega
        · by_cases hdq : d = q
          · subst hdq
            have hqb : (d == 92) = false := by
              rcases HQQ.out with h | h <;> subst h <;> rfl
            have HB : Hid (i + 1 = R) := (at_one_quote HL.out HD.out).symm.trans HA.out
            clear h9
            go_wp2
            go_ret
            exact ⟨ret_int (by rw [← HB.out]; omega), HB1.out⟩
          · have HB : Hid (at_ zs q false (i + 1) false 0 = R) := (at_one_plain HL.out (by rw [HD.out]; exact hdq) (by rw [HD.out]; exact fun h => h9 ⟨h.2, h.1⟩)).symm.trans HA.out
            have hdq' : (d == q) = false := by simpa using hdq
            by_cases h92 : d = 92
            · have hq39 : q = 39 := by
                rcases HQQ.out with h | h
                · exact absurd ⟨h92, h⟩ h9
                · exact h
              clear h9 hdq hdq'
              subst h92; subst hq39
              go_wp2
              go_round
              case rel => first | exact RelE.mk (i + 1) (by go_num) (.inl ⟨by omega, HB.out⟩) | exact ⟨_, _, RelE.mk (i + 1) (by go_num) (.inl ⟨by omega, HB.out⟩), rfl, rfl⟩
              case measure => simp [intOf]; omega
            · have h92' : (d == 92) = false := by simpa using h92
              clear h9
              go_wp2
              go_round
              case rel => first | exact RelE.mk (i + 1) (by go_num) (.inl ⟨by omega, HB.out⟩) | exact ⟨_, _, RelE.mk (i + 1) (by go_num) (.inl ⟨by omega, HB.out⟩), rfl, rfl⟩
              case measure => simp [intOf]; omega
      · have HB : Hid (n = R) := by
          show _ = _
          rcases hi with ⟨h1, h2⟩ | ⟨h1, h2⟩
          · rw [at_end _ _ _ _ _ _ (by rw [HN.out]; omega)] at h2
            omega
          · exact h2.symm
        clear hi
        go_wp2
        go_ret
        exact ⟨ret_int (by rw [HB.out]), HB1.out⟩

/-- ZZstringEnd passes on. -/
theorem zzStringEnd_any (b o n c s : Nat) (zs : List Int) (w : World) (hn : zs.length = n) (hb : n ≤ 1048576) (hsn : s < n) (hnc : n ≤ c) (hbs : b < w.heap.size) (hz : ∀ m ∈ zs, 0 ≤ m ∧ m ≤ 255) (hqq : zs.getD s 0 = 34 ∨ zs.getD s 0 = 39)
    (hc : ∀ i, i < n → w.cell? ⟨b, o + i, none⟩ = some (.int .u8 (zs.getD i 0))) :
    Calls Trym.prog 15 #[.slice (some ⟨b, o, none⟩) n c, .int .i64 s] w fun e w' => e = .returned (.int .i64 (strEnd zs s)) ∧ Below w.heap.size w w' := by
  have HH : Hid (Calls Trym.prog 21 #[.slice (some ⟨b, o, none⟩) n c, .int .i64 s] w fun e w' => e = .returned (.int .i64 (strEnd zs s)) ∧ Below w.heap.size w w') := stringEnd_any b o n c s zs w hn hb hsn hnc hbs hz hqq hc
  clear hn hz hqq hc
  go_enter Trym.func15, Trym.ntmps15
  go_wp2_with (go_at_call 21; refine (HH.out).mono ?_; rintro e w' ⟨rfl, hB⟩)
  go_ret
  exact ⟨rfl, hB⟩

end Go.Proofs.Qxb6605196aMods
