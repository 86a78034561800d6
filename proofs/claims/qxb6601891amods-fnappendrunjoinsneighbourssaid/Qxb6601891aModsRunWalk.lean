/-
  SEAT b6601891aM: THE WALK OF FnAppendRunJoinsNeighbours.
-/
import Derived.Test.Qxb6601891aModsRun
namespace Go.Proofs.Qxb6601891aMods
open Go.RowKit

theorem ret_bool {a b : Bool} (h : a = b) : Ending.returned (.bool a) = .returned (.bool b) := by rw [h]

/-- zzBytes's answer: the two lengths add up to at most 1<<20. -/
def fits (p n : Nat) : Bool := decide (p + n ≤ 1048576)

set_option maxHeartbeats 1000000 in
theorem bytes_any (a1 a2 : Option Addr) (p c1 n c2 : Nat) (w : World) (hp : p ≤ 9223372036854775807) (hn : n ≤ 9223372036854775807) :
    Calls Trym.prog 8 #[.slice a1 p c1, .slice a2 n c2] w fun e w' => e = .returned (.bool (fits p n)) ∧ w = w' := by
  by_cases h3 : p + n ≤ 1048576
  · have hf : fits p n = true := by simp [fits]; omega
    have h3' : ¬ (1048576 : Int) < (p : Int) + (n : Int) := by omega
    go_enter Trym.func8, Trym.ntmps8
    go_wp2
    go_ret
    exact ⟨ret_bool rfl, rfl⟩
  · have hf : fits p n = false := by simp [fits]; omega
    by_cases h1 : p ≤ 1048576
    · by_cases h2 : n ≤ 1048576
      · have h3' : (1048576 : Int) < (p : Int) + (n : Int) := by omega
        go_enter Trym.func8, Trym.ntmps8
        go_wp2
        go_ret
        exact ⟨ret_bool hf.symm, rfl⟩
      · have h2' : (1048576 : Int) < (n : Int) := by omega
        go_enter Trym.func8, Trym.ntmps8
        go_wp2
        go_ret
        exact ⟨ret_bool hf.symm, rfl⟩
    · have h1' : (1048576 : Int) < (p : Int) := by omega
      go_enter Trym.func8, Trym.ntmps8
      go_wp2
      go_ret
      exact ⟨ret_bool hf.symm, rfl⟩

/-- The first k cuts lie inside, each past the one before. -/
def Valid (cs : List Int) (n k : Nat) : Prop := ∀ i, i < k → 0 < cs.getD i 0 ∧ cs.getD i 0 < (n : Int) ∧ (0 < i → cs.getD (i - 1) 0 < cs.getD i 0)

theorem Valid.step {cs : List Int} {n k : Nat} (h : Valid cs n k) (h1 : 0 < cs.getD k 0) (h2 : cs.getD k 0 < (n : Int)) (h3 : 0 < k → cs.getD (k - 1) 0 < cs.getD k 0) : Valid cs n (k + 1) := by
  intro i hi
  by_cases e : i = k
  · subst e; exact ⟨h1, h2, h3⟩
  · exact h i (by omega)

/-- What holds at the second loop's head: i cuts are taken, the last at S. -/
def RunRel (w wx : World) (B n m : Nat) (zs cs : List Int) (tr ts ti : Value) : Prop :=
  ∃ i S : Nat, i ≤ m ∧ ti = .int .i64 i ∧ ts = .int .i64 S ∧ S < n ∧ (i = 0 → S = 0) ∧ (0 < i → cs.getD (i - 1) 0 = (S : Int)) ∧ RunSt w wx B n S tr ∧ Ctx w wx B n zs

/-- The next cut lies past the last one. -/
theorem next_cut {cs : List Int} {n m i S : Nat} (hV : Valid cs n m) (hi : i < m) (h0 : i = 0 → S = 0) (h1 : 0 < i → cs.getD (i - 1) 0 = (S : Int)) : ∃ T : Nat, cs.getD i 0 = (T : Int) ∧ S < T ∧ T < n := by
  obtain ⟨p1, p2, p3⟩ := hV i hi
  obtain ⟨T, hT⟩ := Int.eq_ofNat_of_zero_le (Int.le_of_lt p1)
  refine ⟨T, hT, ?_, by omega⟩
  by_cases e : i = 0
  · have := h0 e; omega
  · have a := h1 (by omega)
    have b := p3 (by omega)
    omega

set_option maxHeartbeats 4000000 in
set_option maxRecDepth 100000 in
theorem run_walk (a0 a1 : Option Addr) (n c m d : Nat) (zs cs : List Int) (w : World) (hnm : n ≤ 9223372036854775807) (hmm : m ≤ 9223372036854775807)
    (hb : a0 = none ∧ n = 0 ∨ ∃ x, a0 = some x ∧ ∀ i, i < n → x.spot = none ∧ x.block < w.heap.size ∧ w.cell? ⟨x.block, x.off + i, none⟩ = some (.int .u8 (zs.getD i 0)))
    (hc : m = 0 ∨ ∃ b o, a1 = some ⟨b, o, none⟩ ∧ b < w.heap.size ∧ ∀ i, i < m → w.cell? ⟨b, o + i, none⟩ = some (.int .i64 (cs.getD i 0))) :
    Calls Trym.prog 3 #[.slice a0 n c, .slice a1 m d] w fun e w' => e = .returned (.bool true) ∧ Below w.heap.size w w' := by
  have HC1 : Hid (∀ w, Calls Trym.prog 8 #[.slice a0 n c, .slice a1 m d] w fun e w' => e = .returned (.bool (fits n m)) ∧ w = w') := fun w => bytes_any a0 a1 n c m d w hnm hmm
  by_cases hm6 : m ≤ 65536
  · by_cases hn8 : n + 8 * m ≤ 1048576
    · have hfit : fits n m = true := by simp [fits]; omega
      have HC2 : Hid (∀ w, Calls Trym.prog 8 #[.slice a0 n c, .slice a1 m d] w fun e w' => e = .returned (.bool true) ∧ w = w') := fun w => (HC1.out w).mono fun e w' ⟨h1, h2⟩ => ⟨by rw [h1, hfit], h2⟩
      have HBUF : Hid (a0 = none ∧ n = 0 ∨ ∃ x, a0 = some x ∧ ∀ i, i < n → x.spot = none ∧ x.block < w.heap.size ∧ w.cell? ⟨x.block, x.off + i, none⟩ = some (.int .u8 (zs.getD i 0))) := hb
      have HCUT : Hid (m = 0 ∨ ∃ b o, a1 = some ⟨b, o, none⟩ ∧ b < w.heap.size ∧ ∀ i, i < m → w.cell? ⟨b, o + i, none⟩ = some (.int .i64 (cs.getD i 0))) := hc
      clear HC1 hfit hb hc
      have hn8' : ¬ (1048576 : Int) < (n : Int) + 8 * (m : Int) := by omega
      go_enter Trym.func3, Trym.ntmps3
      go_wp2_with (go_at_call 8; refine (HC2.out _).mono ?_; rintro e w' ⟨rfl, rfl⟩)
      clear hn8'
      go_loopw [5] (fun ti wr => ∃ k : Nat, k ≤ m ∧ ti = .int .i64 k ∧ Hid (Below w.heap.size w wr) ∧ Hid (Valid cs n k)) (fun ti _ => m - (intOf ti).toNat)
      case atStart => exact ⟨0, Nat.zero_le _, rfl, Below.refl _ _, fun i hi => absurd hi (Nat.not_lt_zero _)⟩
      case round =>
        obtain ⟨k, hk, rfl, HB, HV⟩ := hrel
        by_cases hkm : k < m
        · rcases HCUT.out with h0 | ⟨b, o, rfl, hbs, hcc⟩
          · omega
          have g : wr.cell? ⟨b, o + k, none⟩ = some (.int .i64 (cs.getD k 0)) := by rw [HB.out.cell (p := ⟨b, o + k, none⟩) hbs]; exact hcc k hkm
          have hkm' : (k : Int) < (m : Int) := by omega
          obtain ⟨t, ht⟩ : ∃ t, cs.getD k 0 = t := ⟨_, rfl⟩
          rw [ht] at g
          have HT : Hid (cs.getD k 0 = t) := ht
          clear ht
          by_cases t1 : t ≤ 0
          · clear hcc
            go_wp2
            go_ret
            exact ⟨rfl, HB.out⟩
          by_cases t2 : (n : Int) ≤ t
          · clear hcc
            go_wp2
            go_ret
            exact ⟨rfl, HB.out⟩
          by_cases hk0 : k = 0
          · subst hk0
            have HV2 : Hid (Valid cs n 1) := HV.out.step (by rw [HT.out]; omega) (by rw [HT.out]; omega) (fun h => absurd h (Nat.lt_irrefl _))
            rw [Nat.add_zero] at g
            clear hcc
            go_wp2
            go_quiet (fail)
            go_wp2
            go_roundw
            case rel => exact ⟨1, by omega, rfl, below_drewN HB.out _, HV2⟩
            case measure => simp [intOf]; omega
          · obtain ⟨j, rfl⟩ : ∃ j, k = j + 1 := ⟨k - 1, by omega⟩
            have g1 : wr.cell? ⟨b, o + j, none⟩ = some (.int .i64 (cs.getD j 0)) := by rw [HB.out.cell (p := ⟨b, o + j, none⟩) hbs]; exact hcc j (by omega)
            obtain ⟨u, hu⟩ : ∃ u, cs.getD j 0 = u := ⟨_, rfl⟩
            rw [hu] at g1
            have HU : Hid (cs.getD j 0 = u) := hu
            clear hu hcc hk0
            have hj0 : (0 : Int) < (j : Int) + 1 := by omega
            have hj1 : (j : Int) < (m : Int) := by omega
            have hj2 : (j : Int) + 1 < (m : Int) := by omega
            have hd0 : decide ((0 : Int) < (j : Int) + 1) = true := decide_eq_true hj0
            by_cases t3 : t ≤ u
            · go_wp2
              go_quiet (fail)
              clear hd0
              go_wp2
              go_ret
              exact ⟨rfl, below_drewN HB.out _⟩
            · have HV2 : Hid (Valid cs n (j + 1 + 1)) := HV.out.step (by rw [HT.out]; omega) (by rw [HT.out]; omega) (fun _ => by rw [HT.out, Nat.add_sub_cancel, HU.out]; omega)
              go_wp2
              go_quiet (fail)
              clear hd0
              go_wp2
              go_roundw
              case rel => exact ⟨j + 1 + 1, by omega, by go_num, below_drewN HB.out _, HV2⟩
              case measure => simp [intOf]; omega
        · obtain rfl : k = m := by omega
          obtain ⟨wz, hwz⟩ : ∃ wz, wz = wr := ⟨_, rfl⟩
          subst hwz
          have hsz := HB.out.size
          -- the world behind the first loop, from here on
          have hkk : ¬ (k : Int) < (k : Int) := by omega
          by_cases hn0 : n = 0
          · -- nothing to cut: no cuts
            obtain rfl : k = 0 := by
              by_cases e : k = 0
              · exact e
              · have := HV.out 0 (by omega); omega
            subst hn0
            have hBw := HB.out
            rcases HBUF.out with ⟨rfl, -⟩ | ⟨x, rfl, hx⟩
            · have HN : Hid (∀ W, Calls Trym.prog 9 #[.slice none 0 c] W fun e w' => e = .returned (.slice none 0 0) ∧ W = w') := fun W => clone_nil 0 c W
              have HF : Hid (∀ W, Calls Trym.prog 10 #[.slice none 0 0, .slice none 0 0] W fun e w' => ∃ G cap, e = .returned (.slice (some ⟨G, 0, none⟩) 1 cap) ∧ W.heap.size ≤ G ∧ w'.cell? ⟨G, 0, none⟩ = some (.slice none 0 0) ∧ w'.frozen? ⟨G, 0, none⟩ = false ∧ Below W.heap.size W w') := fun W => zzFirst none 0 0 W
              have HS : Hid (∀ W, Calls Trym.prog 11 #[.slice none 0 0, .slice none 0 0] W fun e w' => e = .returned (.bool true) ∧ Below W.heap.size W w') := fun W => same_any none [] 0 0 W (by omega) (fun i hi => absurd hi (Nat.not_lt_zero _))
              clear HBUF HCUT
              go_wp2_with fail
              refine (HN.out _).mono ?_
              rintro e w' ⟨rfl, rfl⟩
              go_wp2_with fail
              go_loop [6, 7, 8] (fun tr ts ti => tr = .slice none 0 0 ∧ ts = .int .i64 0 ∧ ti = .int .i64 0) (fun _ _ _ => 0)
              case atStart => exact ⟨rfl, rfl, rfl⟩
              case round =>
                obtain ⟨rfl, rfl, rfl⟩ := hrel
                go_wp2_with fail
                refine (HF.out _).mono ?_
                rintro e w2 ⟨G, cap, rfl, hG, hcell, -, hB2⟩
                go_wp2_with fail
                refine (HS.out _).mono ?_
                rintro e w3 ⟨rfl, hB3⟩
                go_wp2
                go_ret
                exact ⟨rfl, hBw.trans ((hB2.mono hsz).trans (hB3.mono (Nat.le_trans hsz hB2.size)))⟩
            · have HN : Hid (Calls Trym.prog 9 #[.slice (some x) 0 c] wz fun e w' => e = .returned (.slice (some ⟨wz.heap.size, 0, none⟩) 0 0) ∧ Fill wz w' 0 zs 0) := clone_some x zs 0 c wz (by omega) (fun i hi => absurd hi (Nat.not_lt_zero _))
              have HF : Hid (∀ W, Calls Trym.prog 10 #[.slice none 0 0, .slice (some ⟨wz.heap.size, 0, none⟩) 0 0] W fun e w' => ∃ G cap, e = .returned (.slice (some ⟨G, 0, none⟩) 1 cap) ∧ W.heap.size ≤ G ∧ w'.cell? ⟨G, 0, none⟩ = some (.slice (some ⟨wz.heap.size, 0, none⟩) 0 0) ∧ w'.frozen? ⟨G, 0, none⟩ = false ∧ Below W.heap.size W w') := fun W => zzFirst _ 0 0 W
              have HS : Hid (∀ W, Calls Trym.prog 11 #[.slice (some ⟨wz.heap.size, 0, none⟩) 0 0, .slice (some ⟨wz.heap.size, 0, none⟩) 0 0] W fun e w' => e = .returned (.bool true) ∧ Below W.heap.size W w') := fun W => same_any _ [] 0 0 W (by omega) (fun i hi => absurd hi (Nat.not_lt_zero _))
              clear HBUF HCUT hx
              go_wp2_with fail
              refine (HN.out).mono ?_
              rintro e w1 ⟨rfl, hF⟩
              have hBw1 : Below w.heap.size w w1 := hBw.trans (hF.below.mono hsz)
              have hsz1 := hBw1.size
              clear hF
              go_wp2_with fail
              go_loop [6, 7, 8] (fun tr ts ti => tr = .slice none 0 0 ∧ ts = .int .i64 0 ∧ ti = .int .i64 0) (fun _ _ _ => 0)
              case atStart => exact ⟨rfl, rfl, rfl⟩
              case round =>
                obtain ⟨rfl, rfl, rfl⟩ := hrel
                go_wp2_with fail
                refine (HF.out _).mono ?_
                rintro e w2 ⟨G, cap, rfl, hG, hcell, -, hB2⟩
                go_wp2_with fail
                refine (HS.out _).mono ?_
                rintro e w3 ⟨rfl, hB3⟩
                go_wp2
                go_ret
                exact ⟨rfl, hBw1.trans ((hB2.mono hsz1).trans (hB3.mono (Nat.le_trans hsz1 hB2.size)))⟩
          · -- the array is cut into neighbouring pieces
            rcases HBUF.out with ⟨-, h0⟩ | ⟨x, rfl, hx⟩
            · exact absurd h0 hn0
            have hn2 : n ≤ 1048576 := by omega
            have HN : Hid (Calls Trym.prog 9 #[.slice (some x) n c] wz fun e w' => e = .returned (.slice (some ⟨wz.heap.size, 0, none⟩) n n) ∧ Fill wz w' n zs n) := clone_some x zs n c wz hn2 (fun i hi => by
              obtain ⟨h1, h2, h3⟩ := hx i hi
              exact ⟨h1, Nat.lt_of_lt_of_le h2 hsz, by rw [HB.out.cell (p := ⟨x.block, x.off + i, none⟩) h2]; exact h3⟩)
            clear HBUF hx
            go_wp2_with fail
            refine (HN.out).mono ?_
            rintro e w1 ⟨rfl, hF⟩
            have HX : Hid (Ctx w w1 wz.heap.size n zs) := ⟨HB.out.trans (hF.below.mono hsz), hF.row.lt, fun j hj => by rw [hF.row.cell hj, if_pos hj]⟩
            clear hF
            go_wp2_with fail
            go_loopw [6, 7, 8] (fun tr ts ti wx => RunRel w wx wz.heap.size n k zs cs tr ts ti) (fun _ _ ti _ => k - (intOf ti).toNat)
            case atStart => exact ⟨0, 0, Nat.zero_le _, rfl, rfl, by omega, fun _ => rfl, fun h => absurd h (Nat.lt_irrefl _), .inl ⟨rfl, rfl⟩, HX.out⟩
            case round =>
              obtain ⟨i, S, hi, rfl, rfl, hSn, hS0, hS1, hR, hC⟩ := hrel
              clear HX
              by_cases him : i < k
              · obtain ⟨T, hT, hST, hTn⟩ := next_cut HV.out him hS0 hS1
                rcases HCUT.out with h0 | ⟨b, o, rfl, hbs, hcc⟩
                · omega
                have hg := hcc i him
                rw [hT] at hg
                have g : wr.cell? ⟨b, o + i, none⟩ = some (.int .i64 T) := by rw [hC.below.cell (p := ⟨b, o + i, none⟩) hbs]; exact hg
                have HG : Hid (w.cell? ⟨b, o + i, none⟩ = some (.int .i64 T)) := hg
                have HT : Hid (cs.getD i 0 = (T : Int)) := hT
                have HP : Hid (Calls Trym.prog 10 #[u6, .slice (some ⟨wz.heap.size, S, none⟩) (T - S) (n - S)] wr fun e w' => ∃ tr', e = .returned tr' ∧ RunSt w w' wz.heap.size n T tr' ∧ Ctx w w' wz.heap.size n zs) := zzPiece hC hR hST (by omega) hn2
                have him' : (i : Int) < (k : Int) := by omega
                have q1 : (S : Int) ≤ (T : Int) := by omega
                have q2 : (T : Int) ≤ (n : Int) := by omega
                have q3 : n ≠ S := by omega
                clear hcc hT hg hS0 hS1 hR hC
                go_wp2_with fail
                refine (HP.out).mono ?_
                rintro e wy ⟨tr', rfl, hR2, hC2⟩
                have g2 : wy.cell? ⟨b, o + i, none⟩ = some (.int .i64 T) := by rw [hC2.below.cell (p := ⟨b, o + i, none⟩) hbs]; exact HG.out
                have HR2 : Hid (RunSt w wy wz.heap.size n T tr') := hR2
                have HC2 : Hid (Ctx w wy wz.heap.size n zs) := hC2
                clear hR2 hC2
                go_wp2
                go_roundw
                case rel => exact ⟨i + 1, T, by omega, by go_num, rfl, hTn, fun h => absurd h (Nat.succ_ne_zero _), fun _ => by rw [Nat.add_sub_cancel]; exact HT.out, HR2.out, HC2.out⟩
                case measure => simp [intOf]; omega
              · have HP : Hid (Calls Trym.prog 10 #[u6, .slice (some ⟨wz.heap.size, S, none⟩) (n - S) (n - S)] wr fun e w' => ∃ tr', e = .returned tr' ∧ RunSt w w' wz.heap.size n n tr' ∧ Ctx w w' wz.heap.size n zs) := zzPiece hC hR hSn (Nat.le_refl _) hn2
                have him' : ¬ (i : Int) < (k : Int) := by omega
                have q1 : (S : Int) ≤ (n : Int) := by omega
                have q3 : n ≠ S := by omega
                clear hS0 hS1 hR hC HCUT
                go_wp2_with fail
                refine (HP.out).mono ?_
                rintro e wy ⟨tr', rfl, hR2, hC2⟩
                rcases hR2 with ⟨e0, -⟩ | ⟨-, G, cap, rfl, -, -, hcell, -⟩
                · exact absurd e0 hn0
                have HS : Hid (Calls Trym.prog 11 #[.slice (some ⟨wz.heap.size, 0, none⟩) n n, .slice (some ⟨wz.heap.size, 0, none⟩) n n] wy fun e w' => e = .returned (.bool true) ∧ Below wy.heap.size wy w') :=
                  same_any _ zs n n wy hn2 (fun i hi => ⟨wz.heap.size, 0, rfl, by rw [Nat.zero_add]; exact hC2.row i hi⟩)
                have HB2 : Hid (Below w.heap.size w wy) := hC2.below
                clear hC2
                go_wp2_with fail
                refine (HS.out).mono ?_
                rintro e w3 ⟨rfl, hB3⟩
                go_wp2
                go_ret
                exact ⟨rfl, HB2.out.trans (hB3.mono HB2.out.size)⟩
    · have h8 : (1048576 : Int) < (n : Int) + 8 * (m : Int) := by omega
      go_enter Trym.func3, Trym.ntmps3
      go_wp2_with (go_at_call 8; refine (HC1.out _).mono ?_; rintro e w' ⟨rfl, rfl⟩)
      all_goals
        go_ret
        exact ⟨rfl, Below.refl _ _⟩
  · have h6 : (65536 : Int) < (m : Int) := by omega
    go_enter Trym.func3, Trym.ntmps3
    go_wp2_with (go_at_call 8; refine (HC1.out _).mono ?_; rintro e w' ⟨rfl, rfl⟩)
    all_goals
      go_ret
      exact ⟨rfl, Below.refl _ _⟩

/-- The cells of a row that came in, block and place written out. -/
theorem cells_of {k : IntKind} {w : World} {x : Addr} {zs : List Int} (hc : ∀ i, i < zs.length → w.cell? (x.add i) = some (.int k (zs.getD i 0))) :
    ∀ i, i < zs.length → x.spot = none ∧ x.block < w.heap.size ∧ w.cell? ⟨x.block, x.off + i, none⟩ = some (.int k (zs.getD i 0)) := by
  intro i hi
  obtain ⟨b, o, sp⟩ := x
  have hsp : sp = none := by simpa [Addr.add] using World.cell?_spot (hc 0 (by omega))
  subst hsp
  have h := hc i hi
  rw [show (⟨b, o, none⟩ : Addr).add i = ⟨b, o + i, none⟩ from by unfold Addr.add; split <;> simp_all] at h
  have hb : b < w.heap.size := World.block_lt_of_cell? w ⟨b, o + i, none⟩ h
  exact ⟨rfl, hb, h⟩

/-- A slice of numbers that came in: no element, or its cells from one place on. -/
theorem row_of {k : IntKind} {w : World} {x : Addr} {zs : List Int} {m : Nat} (hm : m ≤ zs.length) (hc : ∀ i, i < zs.length → w.cell? (x.add i) = some (.int k (zs.getD i 0))) :
    m = 0 ∨ ∃ b o, some x = some (⟨b, o, none⟩ : Addr) ∧ b < w.heap.size ∧ ∀ i, i < m → w.cell? ⟨b, o + i, none⟩ = some (.int k (zs.getD i 0)) := by
  by_cases h0 : m = 0
  · exact .inl h0
  · have h := cells_of hc
    obtain ⟨h1, h2, _⟩ := h 0 (by omega)
    obtain ⟨b, o, sp⟩ := x
    simp only at h1 h2
    subst h1
    exact .inr ⟨b, o, rfl, h2, fun i hi => (h i (by omega)).2.2⟩

end Go.Proofs.Qxb6601891aMods
