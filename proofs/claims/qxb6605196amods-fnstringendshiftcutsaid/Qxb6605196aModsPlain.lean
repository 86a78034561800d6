/-
  SEAT b6605196aM: THE PLAIN LAW OF stringEnd: no Go in sight.
  'mo q m l e r': how many bytes of l the two-state byte machine takes: q the quote, m whether the string is a multi-line one, e whether the byte before was an escaping backslash, r how many quotes run up to here.
  'strEnd zs s': where the string that opens at place s of zs ends.
-/
import Derived.Deep.Light
namespace Go.Proofs.Qxb6605196aMods

def mo (q : Int) (m : Bool) : List Int → Bool → Nat → Nat
  | [], _, _ => 0
  | _ :: l, true, r => mo q m l false r + 1
  | c :: l, false, r =>
    if m = true then
      if c = q then mo q m l false (r + 1) + 1
      else if 3 ≤ r then 0
      else if q = 34 ∧ c = 92 then mo q m l true 0 + 1
      else mo q m l false 0 + 1
    else if c = q then 1
    else if q = 34 ∧ c = 92 then mo q m l true r + 1
    else mo q m l false r + 1

def mult (zs : List Int) (s : Nat) : Bool := decide (s + 2 < zs.length ∧ zs.getD (s + 1) 0 = zs.getD s 0 ∧ zs.getD (s + 2) 0 = zs.getD s 0)

def strFrom (zs : List Int) (s : Nat) : Nat := if mult zs s = true then s + 3 else s + 1
def strEnd (zs : List Int) (s : Nat) : Nat := strFrom zs s + mo (zs.getD s 0) (mult zs s) (zs.drop (strFrom zs s)) false 0

/-- The machine at place j of zs. -/
def at_ (zs : List Int) (q : Int) (m : Bool) (j : Nat) (e : Bool) (r : Nat) : Nat := j + mo q m (zs.drop j) e r

theorem drop_at (zs : List Int) (j : Nat) (h : j < zs.length) : zs.drop j = zs.getD j 0 :: zs.drop (j + 1) := by
  rw [List.drop_eq_getElem_cons h]
  simp [List.getD_eq_getElem?_getD, List.getElem?_eq_getElem h]

theorem mo_le (q : Int) (m : Bool) (l : List Int) : ∀ (e : Bool) (r : Nat), mo q m l e r ≤ l.length := by
  induction l with
  | nil => intro e r; simp [mo]
  | cons c l ih =>
    intro e r
    cases e with
    | true => have := ih false r; simp [mo]; omega
    | false =>
      have h1 := ih false (r + 1)
      have h2 := ih true 0
      have h3 := ih false 0
      have h4 := ih true r
      have h5 := ih false r
      simp only [mo, List.length_cons]
      repeat' split
      all_goals omega

theorem at_end (zs : List Int) (q : Int) (m e : Bool) (j r : Nat) (h : zs.length ≤ j) : at_ zs q m j e r = j := by
  unfold at_
  rw [List.drop_eq_nil_of_le h]
  simp [mo]

variable {zs : List Int} {q : Int} {m : Bool} {j r : Nat} {c : Int}

theorem at_esc (h : j < zs.length) : at_ zs q m j true r = at_ zs q m (j + 1) false r := by
  unfold at_; rw [drop_at zs j h]; simp only [mo]; omega
theorem at_multi_quote (h : j < zs.length) (hc : zs.getD j 0 = q) : at_ zs q true j false r = at_ zs q true (j + 1) false (r + 1) := by
  unfold at_; rw [drop_at zs j h, hc]; simp [mo]; omega
theorem at_multi_done (h : j < zs.length) (hc : zs.getD j 0 ≠ q) (hr : 3 ≤ r) : at_ zs q true j false r = j := by
  unfold at_; rw [drop_at zs j h]; simp only [mo]
  rw [if_pos trivial, if_neg hc, if_pos hr]; rfl
theorem at_multi_back (h : j < zs.length) (hc : zs.getD j 0 ≠ q) (hr : r < 3) (h1 : q = 34) (h2 : zs.getD j 0 = 92) : at_ zs q true j false r = at_ zs q true (j + 1) true 0 := by
  unfold at_; rw [drop_at zs j h]; simp only [mo]
  rw [if_pos trivial, if_neg hc, if_neg (by omega), if_pos ⟨h1, h2⟩]; omega
theorem at_multi_plain (h : j < zs.length) (hc : zs.getD j 0 ≠ q) (hr : r < 3) (h1 : ¬ (q = 34 ∧ zs.getD j 0 = 92)) : at_ zs q true j false r = at_ zs q true (j + 1) false 0 := by
  unfold at_; rw [drop_at zs j h]; simp only [mo]
  rw [if_pos trivial, if_neg hc, if_neg (by omega), if_neg h1]; omega
theorem at_one_quote (h : j < zs.length) (hc : zs.getD j 0 = q) : at_ zs q false j false r = j + 1 := by
  unfold at_; rw [drop_at zs j h, hc]; simp [mo]
theorem at_one_back (h : j < zs.length) (hc : zs.getD j 0 ≠ q) (h1 : q = 34) (h2 : zs.getD j 0 = 92) : at_ zs q false j false r = at_ zs q false (j + 1) true r := by
  unfold at_; rw [drop_at zs j h]; simp only [mo]
  rw [if_neg (by decide), if_neg hc, if_pos ⟨h1, h2⟩]; omega
theorem at_one_plain (h : j < zs.length) (hc : zs.getD j 0 ≠ q) (h1 : ¬ (q = 34 ∧ zs.getD j 0 = 92)) : at_ zs q false j false r = at_ zs q false (j + 1) false r := by
  unfold at_; rw [drop_at zs j h]; simp only [mo]
  rw [if_neg (by decide), if_neg hc, if_neg h1]; omega

/-! ### The laws of the end -/

theorem from_le (zs : List Int) (s : Nat) (h : s < zs.length) : s < strFrom zs s ∧ strFrom zs s ≤ zs.length := by
  unfold strFrom
  split
  · next hm => simp [mult] at hm; omega
  · omega

theorem end_bounds (zs : List Int) (s : Nat) (h : s < zs.length) : s < strEnd zs s ∧ strEnd zs s ≤ zs.length := by
  have h1 := from_le zs s h
  have h2 := mo_le (zs.getD s 0) (mult zs s) (zs.drop (strFrom zs s)) false 0
  rw [List.length_drop] at h2
  unfold strEnd
  omega

/-- The last byte that is taken is the quote, where bytes are left. -/
theorem mo_last (q : Int) (m : Bool) (l : List Int) : ∀ (e : Bool) (r : Nat), (e = true → r < 3 ∨ m = false) → mo q m l e r < l.length →
    (mo q m l e r = 0 ∧ 3 ≤ r ∧ m = true) ∨ (0 < mo q m l e r ∧ l.getD (mo q m l e r - 1) 0 = q) := by
  induction l with
  | nil => intro e r _ h; simp [mo] at h
  | cons c l ih =>
    -- one byte more
    have step : ∀ (k : Nat) (e : Bool) (r : Nat), (e = true → r < 3 ∨ m = false) → k = mo q m l e r + 1 → k < (c :: l).length → (3 ≤ r → m = true → c = q) → (0 < k ∧ (c :: l).getD (k - 1) 0 = q) := by
      intro k e r he hk hlt hq
      subst hk
      refine ⟨by omega, ?_⟩
      rcases ih e r he (by simpa using hlt) with ⟨h0, hr, hm⟩ | ⟨h0, hl⟩
      · rw [h0]; simpa using hq hr hm
      · obtain ⟨p, hp⟩ : ∃ p, mo q m l e r = p + 1 := ⟨mo q m l e r - 1, by omega⟩
        rw [hp] at hl ⊢
        simpa using hl
    intro e r he h
    cases e with
    | true =>
      refine .inr (step _ false r (by simp) rfl h (fun h3 hm => ?_))
      rcases he rfl with h4 | h4
      · omega
      · rw [h4] at hm; exact absurd hm (by decide)
    | false =>
      simp only [mo] at h ⊢
      split at h
      · next hm =>
        rw [if_pos hm]
        split at h
        · next hc => rw [if_pos hc]; exact .inr (step _ false (r + 1) (by simp) rfl h (fun _ _ => hc))
        · next hc =>
          rw [if_neg hc]
          split at h
          · next hr => rw [if_pos hr]; exact .inl ⟨rfl, hr, hm⟩
          · next hr =>
            rw [if_neg hr]
            split at h
            · next h9 => rw [if_pos h9]; exact .inr (step _ true 0 (fun _ => .inl (by omega)) rfl h (by omega))
            · next h9 => rw [if_neg h9]; exact .inr (step _ false 0 (by simp) rfl h (by omega))
      · next hm =>
        rw [if_neg hm]
        split at h
        · next hc => rw [if_pos hc]; exact .inr ⟨by omega, by simpa using hc⟩
        · next hc =>
          rw [if_neg hc]
          split at h
          · next h9 => rw [if_pos h9]; exact .inr (step _ true r (fun _ => .inr (by simpa using hm)) rfl h (fun _ h => absurd h hm))
          · next h9 => rw [if_neg h9]; exact .inr (step _ false r (by simp) rfl h (fun _ h => absurd h hm))

theorem getD_drop' (zs : List Int) (a i : Nat) : (zs.drop a).getD i 0 = zs.getD (a + i) 0 := by
  simp [List.getD_eq_getElem?_getD]

/-- Where the end is short of the text, the byte before it is the opening quote. -/
theorem end_last (zs : List Int) (s : Nat) (h : s < zs.length) (hr : strEnd zs s < zs.length) : zs.getD (strEnd zs s - 1) 0 = zs.getD s 0 := by
  have h1 := from_le zs s h
  have h2 := mo_last (zs.getD s 0) (mult zs s) (zs.drop (strFrom zs s)) false 0 (by simp) (by rw [List.length_drop]; unfold strEnd at hr; omega)
  rcases h2 with ⟨_, h3, _⟩ | ⟨h3, h4⟩
  · omega
  · rw [getD_drop'] at h4
    unfold strEnd
    rw [show strFrom zs s + mo (zs.getD s 0) (mult zs s) (zs.drop (strFrom zs s)) false 0 - 1 = strFrom zs s + (mo (zs.getD s 0) (mult zs s) (zs.drop (strFrom zs s)) false 0 - 1) from by omega]
    exact h4

/-- What stands before the opening quote does not move the end but by the shift. -/
theorem end_shift (ps zs : List Int) (s : Nat) (h : s < zs.length) : strEnd (ps ++ zs.drop s) ps.length = ps.length + (strEnd zs s - s) := by
  have g : ∀ i, (ps ++ zs.drop s).getD (ps.length + i) 0 = zs.getD (s + i) 0 := by
    intro i
    rw [List.getD_eq_getElem?_getD, List.getD_eq_getElem?_getD, List.getElem?_append_right (by omega), List.getElem?_drop]
    congr 2
    omega
  have g0 := g 0
  rw [Nat.add_zero, Nat.add_zero] at g0
  have hm : mult (ps ++ zs.drop s) ps.length = mult zs s := by
    unfold mult
    rw [g0, g 1, g 2, Bool.eq_iff_iff]
    simp only [decide_eq_true_eq, List.length_append, List.length_drop]
    constructor
    · rintro ⟨a, b⟩; exact ⟨by omega, b⟩
    · rintro ⟨a, b⟩; exact ⟨by omega, b⟩
  have hd : ∀ i, (ps ++ zs.drop s).drop (ps.length + i) = zs.drop (s + i) := by
    intro i
    rw [List.drop_append, List.drop_eq_nil_of_le (by omega), List.drop_drop]
    simp
  unfold strEnd
  have hf : strFrom zs s = s + (strFrom zs s - s) := by have := from_le zs s h; omega
  have hf2 : strFrom (ps ++ zs.drop s) ps.length = ps.length + (strFrom zs s - s) := by
    unfold strFrom
    rw [hm]
    split <;> omega
  rw [hf2, hm, g0, hd, ← hf]
  have := from_le zs s h
  omega

/-- Cutting l where the machine stops leaves the stop where it was. -/
theorem mo_cut (q : Int) (m : Bool) (l : List Int) : ∀ (e : Bool) (r : Nat), mo q m (l.take (mo q m l e r)) e r = mo q m l e r := by
  induction l with
  | nil => intro e r; simp [mo]
  | cons c l ih =>
    intro e r
    cases e with
    | true => simp only [mo, List.take_succ_cons, ih]
    | false =>
      simp only [mo]
      by_cases hm : m = true
      · simp only [if_pos hm]
        by_cases hc : c = q
        · simp only [if_pos hc, List.take_succ_cons, mo, if_pos hm, ih]
        · simp only [if_neg hc]
          by_cases hr : 3 ≤ r
          · simp only [if_pos hr, List.take_zero, mo]
          · simp only [if_neg hr]
            by_cases h9 : q = 34 ∧ c = 92
            · simp only [if_pos h9, List.take_succ_cons, mo, if_pos hm, if_neg hc, if_neg hr, ih]
            · simp only [if_neg h9, List.take_succ_cons, mo, if_pos hm, if_neg hc, if_neg hr, ih]
      · simp only [if_neg hm]
        by_cases hc : c = q
        · simp only [if_pos hc, List.take_succ_cons, mo, if_neg hm]
        · simp only [if_neg hc]
          by_cases h9 : q = 34 ∧ c = 92
          · simp only [if_pos h9, List.take_succ_cons, mo, if_neg hm, if_neg hc, ih]
          · simp only [if_neg h9, List.take_succ_cons, mo, if_neg hm, if_neg hc, ih]

theorem getD_take' (zs : List Int) (r i : Nat) (h : i < r) : (zs.take r).getD i 0 = zs.getD i 0 := by
  simp [List.getD_eq_getElem?_getD, h]

/-- Cutting the text at the end leaves the end where it was. -/
theorem end_cut (zs : List Int) (s : Nat) (h : s < zs.length) : strEnd (zs.take (strEnd zs s)) s = strEnd zs s := by
  obtain ⟨b1, b2⟩ := end_bounds zs s h
  obtain ⟨f1, f2⟩ := from_le zs s h
  have f3 : strFrom zs s ≤ strEnd zs s := by unfold strEnd; omega
  obtain ⟨R, hR⟩ : ∃ R, R = strEnd zs s := ⟨_, rfl⟩
  have g0 : (zs.take R).getD s 0 = zs.getD s 0 := getD_take' _ _ _ (by omega)
  have hm : mult (zs.take R) s = mult zs s := by
    by_cases hm : mult zs s = true
    · rw [hm]
      have h3 : strFrom zs s = s + 3 := by unfold strFrom; rw [if_pos hm]
      have hm' := hm
      simp only [mult, decide_eq_true_eq] at hm' ⊢
      rw [g0, getD_take' _ _ (s + 1) (by omega), getD_take' _ _ (s + 2) (by omega), List.length_take]
      exact ⟨by omega, hm'.2⟩
    · rw [Bool.not_eq_true] at hm
      rw [hm]
      simp only [mult, decide_eq_false_iff_not] at hm ⊢
      rintro ⟨a1, a2, a3⟩
      rw [List.length_take] at a1
      rw [g0, getD_take' _ _ (s + 1) (by omega)] at a2
      rw [g0, getD_take' _ _ (s + 2) (by omega)] at a3
      exact hm ⟨by omega, a2, a3⟩
  have hf : strFrom (zs.take R) s = strFrom zs s := by unfold strFrom; rw [hm]
  rw [← hR]
  unfold strEnd
  rw [hf, hm, g0, List.drop_take]
  have e : R - strFrom zs s = mo (zs.getD s 0) (mult zs s) (zs.drop (strFrom zs s)) false 0 := by rw [hR]; unfold strEnd; omega
  rw [e, mo_cut]
  omega

theorem strEnd_multi {zs : List Int} {s : Nat} {q : Int} (h0 : zs.getD s 0 = q) (hm : mult zs s = true) : at_ zs q true (s + 3) false 0 = strEnd zs s := by
  unfold strEnd strFrom at_; rw [hm, h0, if_pos rfl]
theorem strEnd_one {zs : List Int} {s : Nat} {q : Int} (h0 : zs.getD s 0 = q) (hm : mult zs s = false) : at_ zs q false (s + 1) false 0 = strEnd zs s := by
  unfold strEnd strFrom at_; rw [hm, h0, if_neg (by decide)]

theorem at_multi_reset {zs : List Int} {q : Int} {k r : Nat} (h : k < zs.length) (hc : zs.getD k 0 ≠ q) (hr : r < 3) : at_ zs q true k false r = at_ zs q true k false 0 := by
  by_cases h9 : q = 34 ∧ zs.getD k 0 = 92
  · rw [at_multi_back h hc hr h9.1 h9.2, at_multi_back h hc (by omega) h9.1 h9.2]
  · rw [at_multi_plain h hc hr h9, at_multi_plain h hc (by omega) h9]

end Go.Proofs.Qxb6605196aMods
