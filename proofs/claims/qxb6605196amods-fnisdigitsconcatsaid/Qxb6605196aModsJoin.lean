/-
  SEAT b6605196aM: THE WALK OF lawJoin: a fresh row that holds a, then b.
-/
import Derived.Test.Qxb6605196aModsBase
namespace Go.Proofs.Qxb6605196aMods
open Go.RowKit

/-- zzBytes's answer: the two lengths add up to at most 1<<20. -/
def fits (p n : Nat) : Bool := decide (p + n ≤ 1048576)
theorem fits_yes {p n : Nat} (h1 : p ≤ 524288) (h2 : n ≤ 524288) : fits p n = true := by simp [fits]; omega

set_option maxHeartbeats 1000000 in
theorem join_any (a1 a2 : Option Addr) (zs ys : List Int) (n c m d : Nat) (w : World) (hn : zs.length = n) (hm : ys.length = m) (hbn : n ≤ 1048576) (hbm : m ≤ 1048576) (hs : Sl w a1 zs) (ht : Sl w a2 ys) :
    Calls Trym.prog 8 #[.slice a1 n c, .slice a2 m d] w fun e w' => e = .returned (.slice (some ⟨w.heap.size, 0, none⟩) (n + m) (n + m)) ∧ Fill w w' (n + m) (zs ++ ys) (n + m) := by
  obtain ⟨hs, -⟩ := hs
  obtain ⟨ht, -⟩ := ht
  have hmk := run_make_row' (P := Trym.prog) 22 5 (.int .u8 0) 1 Trym.underlying22 Trym.info5 rfl .i64 .i64 (n + m) (by omega) (by omega)
  have HN : Hid (zs.length = n) := hn
  have HM : Hid (ys.length = m) := hm
  clear hn hm
  rw [show ((n + m : Nat) : Int) = (n : Int) + (m : Int) from by omega] at hmk
  go_enter Trym.func8, Trym.ntmps8
  go_wp2
  clear hmk
  go_loopw [6] (fun i wr => ∃ k : Nat, k ≤ n ∧ i = .int .i64 k ∧ Fill w wr (n + m) (zs ++ ys) k) (fun i _ => n - (intOf i).toNat)
  case atStart => exact ⟨0, Nat.zero_le _, rfl, Fill.start w _ _⟩
  case round =>
    obtain ⟨k, hk, rfl, hF⟩ := hrel
    by_cases hlt : k < n
    · rcases hs with rfl | ⟨b, o, rfl, hbs, hc⟩
      · exact absurd HN.out (by simp; omega)
      have g : wr.cell? ⟨b, o + k, none⟩ = some (.int .u8 (zs.getD k 0)) := by
        rw [hF.below.cell (p := ⟨b, o + k, none⟩) hbs]; exact hc k (by rw [HN.out]; exact hlt)
      have g2 := hF.row.cell (i := k) (by omega)
      have g3 := hF.row.frozen k
      have hz : (k : Int) < (n : Int) + (m : Int) := by omega
      clear hc
      go_wp2
      go_roundw
      case rel => exact ⟨k + 1, by omega, by go_num, hF.step (by rw [getD_append_left' _ _ _ (by rw [HN.out]; exact hlt), List.getD_eq_getElem?_getD])⟩
      case measure => simp [intOf]; omega
    · obtain rfl : k = n := by omega
      go_wp2
      go_loopw [7] (fun i wr => ∃ j : Nat, j ≤ m ∧ i = .int .i64 j ∧ Fill w wr (k + m) (zs ++ ys) (k + j)) (fun i _ => m - (intOf i).toNat)
      case atStart => exact ⟨0, Nat.zero_le _, rfl, hF⟩
      case round =>
        clear hF
        obtain ⟨j, hj, rfl, hF⟩ := hrel
        by_cases hjt : j < m
        · rcases ht with rfl | ⟨b, o, rfl, hbs, hc⟩
          · exact absurd HM.out (by simp; omega)
          have g : wr.cell? ⟨b, o + j, none⟩ = some (.int .u8 (ys.getD j 0)) := by
            rw [hF.below.cell (p := ⟨b, o + j, none⟩) hbs]; exact hc j (by rw [HM.out]; exact hjt)
          have g2 := hF.row.cell (i := k + j) (by omega)
          have g3 := hF.row.frozen (k + j)
          have hz : (k : Int) + (j : Int) < (k : Int) + (m : Int) := by omega
          have e := getD_append_right' zs ys j
          rw [HN.out] at e
          have HE : Hid ((zs ++ ys).getD (k + j) 0 = ys.getD j 0) := e
          clear hc e
          go_wp2
          go_roundw
          case rel => exact ⟨j + 1, by omega, by go_num, hF.step (k := k + j) (by rw [HE.out, List.getD_eq_getElem?_getD])⟩
          case measure => simp [intOf]; omega
        · obtain rfl : j = m := by omega
          go_wp2
          go_ret
          exact ⟨rfl, hF⟩

end Go.Proofs.Qxb6605196aMods
