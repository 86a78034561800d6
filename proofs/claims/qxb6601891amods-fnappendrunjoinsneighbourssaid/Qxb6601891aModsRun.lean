/-
  SEAT b6601891aM: THE WALKS OF appendRun, ZZAppendRun.
-/
import Derived.Test.Qxb6601891aModsRows
import Derived.WalkKit
import Derived.WalkSpells
import Derived.WalkLawsBesides
import Derived.Below
import Derived.Deep.QuietTactic
import Derived.BigQuiet
import Derived.Deep.Light
import Derived.Deep.OwnRows
import Derived.Lib.SliceRun
namespace Go.Proofs.Qxb6601891aMods
open Go.RowKit

theorem Trym.info5 : (Trym.prog.info? 5).map (fun i => (i.zero, i.size, i.bytes)) = some (some (.int .u8 0), 1, 1) := by kernel_rfl
theorem Trym.info22 : (Trym.prog.info? 22).map (fun i => (i.zero, i.size, i.bytes)) = some (some (.slice none 0 0), 1, 24) := by kernel_rfl

theorem own_one {w : World} {base : Nat} {v u : Value} (h : w.ownsRow base 22 1 v 1 [u]) : ∃ G cap, v = .slice (some ⟨G, 0, none⟩) 1 cap ∧ base ≤ G ∧ w.cell? ⟨G, 0, none⟩ = some u ∧ w.frozen? ⟨G, 0, none⟩ = false := by
  have hc := fun g hg => h.cells (g := g) hg
  rcases h.2 with ⟨_, h0⟩ | ⟨g, cap, cur, rfl, hb, hg, _, _, _, _⟩
  · cases h0
  · refine ⟨g, cap, rfl, hb, ?_, by simp [World.frozen?, hg]⟩
    have := hc g rfl 0 u rfl
    simpa [Addr.add] using this

set_option maxHeartbeats 1000000 in
theorem run_first (ad : Option Addr) (L C : Nat) (w : World) :
    Calls Trym.prog 23 #[.slice none 0 0, .slice ad L C] w fun e w' => ∃ G cap, e = .returned (.slice (some ⟨G, 0, none⟩) 1 cap) ∧ w.heap.size ≤ G ∧ w'.cell? ⟨G, 0, none⟩ = some (.slice ad L C) ∧ w'.frozen? ⟨G, 0, none⟩ = false ∧ Below w.heap.size w w' := by
  obtain ⟨i0, hi, hz0, hz1, hz2⟩ := info_parts Trym.info22
  have HO : Hid ((w.alloc (.cells #[.slice ad L C] 22)).ownsRow w.heap.size 22 1 (.slice none 0 0) 0 []) := World.ownsRow_nil _ _ _ _
  go_enter Trym.func23, Trym.ntmps23
  go_wp2_with (at_builtin; refine wpList_append_own _ rfl _ _ 26 rfl w.heap.size 22 i0 (.slice none 0 0) 1 24 Trym.underlying26 hi hz0 hz1 hz2 rfl (by decide) _ _ _ rfl HO.out ⟨w.heap.size, 0, none⟩ 1 1 [.slice ad L C] rfl rfl ?c1 ?c2 ?c3 ?c4 ?c5 ?_)
  case c1 =>
    intro j u hj
    match j, hj with
    | 0, hj => simp at hj; subst hj; simp [Addr.add]
  case c2 => intro u hu; simp at hu; subst hu; rfl
  case c3 => unfold maxLen; omega
  case c4 => omega
  case c5 => simp
  · intro v' w1 hown hgrow _
    obtain ⟨G, cap, rfl, hG, hcell, hfr⟩ := own_one hown
    have hB : Below w.heap.size w w1 := ((Below.refl w.heap.size w).alloc (Nat.le_refl _) _).grown hgrow (by simp) (by simp [Value.ownBlock])
    clear hown hgrow
    go_wp2
    go_ret
    exact ⟨G, cap, rfl, hG, hcell, hfr, hB⟩

theorem equalIn_ptr (d : Nat) (w : World) (a : Addr) : (Op.equalIn (d + 1) 53 (.pointer (some a)) (.pointer (some a))).run Trym.prog w = .ok true w := by
  simp [Op.equalIn, run_underlying Trym.underlying53, sameAddr]
/-- Two pointers to one place are equal. -/
theorem eql_ptr (w : World) (a : Addr) : (binOp .eql 53 (.pointer (some a)) (.pointer (some a))).run Trym.prog w = .ok (.bool true) w := by
  have h : (Op.equal 53 (.pointer (some a)) (.pointer (some a))).run Trym.prog w = .ok true w := equalIn_ptr 9999 w a
  simp only [binOp]
  simp [h]

set_option maxHeartbeats 1000000 in
theorem run_next (G cap B S L C n : Nat) (w : World) (h0 : w.cell? ⟨G, 0, none⟩ = some (.slice (some ⟨B, 0, none⟩) S n)) (f0 : w.frozen? ⟨G, 0, none⟩ = false) (hL : 0 < L) (hS : S + L ≤ n) (hn : n ≤ 1048576) :
    Calls Trym.prog 23 #[.slice (some ⟨G, 0, none⟩) 1 cap, .slice (some ⟨B, S, none⟩) L C] w fun e w' => e = .returned (.slice (some ⟨G, 0, none⟩) 1 cap) ∧ ∃ q, w' = (w.drewN q).setCell ⟨G, 0, none⟩ (.slice (some ⟨B, 0, none⟩) (S + L) n) := by
  have hL' : (0 : Int) < (L : Int) := by omega
  have hS' : (L : Int) ≤ (n : Int) - (S : Int) := by omega
  have hS2 : (S : Int) + 1 ≤ (n : Int) := by omega
  have hS3 : (S : Int) < (S : Int) + 1 := by omega
  have hS0 : (0 : Int) ≤ (S : Int) + 1 := by omega
  have hsl : ∀ w, (Instr.slice 22 (.slice (some ⟨B, 0, none⟩) S n) none (some (.int .i64 ((S : Int) + 1))) none).run Trym.prog w = .ok (.slice (some ⟨B, 0, none⟩) (S + 1) n) w := fun w => by
    simp [go_sem, run_slice_h, hS0, hS2, sliced]
  have hpp := eql_ptr
  have hw1 : IntKind.i64.wrap ((n : Int) - (S : Int)) = (n : Int) - (S : Int) := Go.IntWalk.i64_in _ (by omega)
  have hw2 : IntKind.i64.wrap ((S : Int) + 1) = (S : Int) + 1 := Go.IntWalk.i64_in _ (by omega)
  go_enter Trym.func23, Trym.ntmps23
  go_wp2
  go_quiet (fail)
  go_wp2
  go_ret
  exact ⟨rfl, _, rfl⟩

/-- The n bytes zs lie at block B; what was there ahead of w's end is as it was. -/
structure Ctx (w wr : World) (B n : Nat) (zs : List Int) : Prop where
  below : Below w.heap.size w wr
  lt : B < wr.heap.size
  row : ∀ j, j < n → wr.cell? ⟨B, j, none⟩ = some (.int .u8 (zs.getD j 0))

/-- The runs behind S bytes: none yet, or one: the first S bytes. -/
def RunSt (w wr : World) (B n S : Nat) (tr : Value) : Prop :=
  (S = 0 ∧ tr = .slice none 0 0) ∨
  (0 < S ∧ ∃ G cap, tr = .slice (some ⟨G, 0, none⟩) 1 cap ∧ w.heap.size ≤ G ∧ G ≠ B ∧ wr.cell? ⟨G, 0, none⟩ = some (.slice (some ⟨B, 0, none⟩) S n) ∧ wr.frozen? ⟨G, 0, none⟩ = false)

theorem piece {w wr : World} {B n S T : Nat} {zs : List Int} {tr : Value} (hC : Ctx w wr B n zs) (hR : RunSt w wr B n S tr) (hST : S < T) (hTn : T ≤ n) (hn : n ≤ 1048576) :
    Calls Trym.prog 23 #[tr, .slice (some ⟨B, S, none⟩) (T - S) (n - S)] wr fun e w' => ∃ tr', e = .returned tr' ∧ RunSt w w' B n T tr' ∧ Ctx w w' B n zs := by
  rcases hR with ⟨rfl, rfl⟩ | ⟨h0, G, cap, rfl, hG, hGB, hcell, hfr⟩
  · refine (run_first (some ⟨B, 0, none⟩) (T - 0) (n - 0) wr).mono fun e w' h => ?_
    obtain ⟨G, cap, he, hG, hcell, hfr, hB⟩ := h
    refine ⟨_, he, .inr ⟨hST, G, cap, rfl, Nat.le_trans hC.below.size hG, by have := hC.lt; omega, hcell, hfr⟩, hC.below.trans (hB.mono hC.below.size), Nat.lt_of_lt_of_le hC.lt hB.size, fun j hj => ?_⟩
    rw [hB.cell (p := ⟨B, j, none⟩) hC.lt]
    exact hC.row j hj
  · refine (run_next G cap B S (T - S) (n - S) n wr hcell hfr (by omega) (by omega) hn).mono fun e w' h => ?_
    obtain ⟨he, q, rfl⟩ := h
    have hlt : G < wr.heap.size := World.block_lt_of_cell? _ _ hcell
    refine ⟨_, he, .inr ⟨by omega, G, cap, rfl, hG, hGB, ?_, ?_⟩, (below_drewN hC.below q).setCell hG _, by simpa using hC.lt, fun j hj => ?_⟩
    · rw [World.cell?_setCell_same (wr.drewN q) ⟨G, 0, none⟩ _ hcell, show S + (T - S) = T from by omega]
    · rw [World.frozen?_setCell]
      exact hfr
    · rw [World.cell?_setCell_other _ _ _ _ (fun e => by have := congrArg Addr.block e; simp at this; exact hGB this)]
      exact hC.row j hj

/-- ZZAppendRun passes on. -/
theorem zzPiece {w wr : World} {B n S T : Nat} {zs : List Int} {tr : Value} (hC : Ctx w wr B n zs) (hR : RunSt w wr B n S tr) (hST : S < T) (hTn : T ≤ n) (hn : n ≤ 1048576) :
    Calls Trym.prog 10 #[tr, .slice (some ⟨B, S, none⟩) (T - S) (n - S)] wr fun e w' => ∃ tr', e = .returned tr' ∧ RunSt w w' B n T tr' ∧ Ctx w w' B n zs := by
  have HH : Hid (Calls Trym.prog 23 #[tr, .slice (some ⟨B, S, none⟩) (T - S) (n - S)] wr fun e w' => ∃ tr', e = .returned tr' ∧ RunSt w w' B n T tr' ∧ Ctx w w' B n zs) := piece hC hR hST hTn hn
  clear hC hR
  go_enter Trym.func10, Trym.ntmps10
  go_wp2_with (go_at_call 23; refine (HH.out).mono ?_; rintro e w' ⟨tr', rfl, h1, h2⟩)
  go_ret
  exact ⟨tr', rfl, h1, h2⟩

theorem zzFirst (ad : Option Addr) (L C : Nat) (w : World) :
    Calls Trym.prog 10 #[.slice none 0 0, .slice ad L C] w fun e w' => ∃ G cap, e = .returned (.slice (some ⟨G, 0, none⟩) 1 cap) ∧ w.heap.size ≤ G ∧ w'.cell? ⟨G, 0, none⟩ = some (.slice ad L C) ∧ w'.frozen? ⟨G, 0, none⟩ = false ∧ Below w.heap.size w w' := by
  have HH : Hid (Calls Trym.prog 23 #[.slice none 0 0, .slice ad L C] w fun e w' => ∃ G cap, e = .returned (.slice (some ⟨G, 0, none⟩) 1 cap) ∧ w.heap.size ≤ G ∧ w'.cell? ⟨G, 0, none⟩ = some (.slice ad L C) ∧ w'.frozen? ⟨G, 0, none⟩ = false ∧ Below w.heap.size w w') := run_first ad L C w
  go_enter Trym.func10, Trym.ntmps10
  go_wp2_with (go_at_call 23; refine (HH.out).mono ?_; rintro e w' ⟨G, cap, rfl, h1, h2, h3, h4⟩)
  go_ret
  exact ⟨G, cap, rfl, h1, h2, h3, h4⟩

/-! ### The clone, and the same bytes -/

/-- The first k of n cells of a new row are filled from zs. -/
structure Fill (w wr : World) (n : Nat) (zs : List Int) (k : Nat) : Prop where
  below : Below w.heap.size w wr
  size : wr.heap.size = w.heap.size + 1
  row : wr.rowIs w.heap.size 5 n (fun i => .int .u8 (if i < k then zs.getD i 0 else 0))

theorem Fill.start (w : World) (n : Nat) (zs : List Int) : Fill w (w.alloc (.cells (madeCells #[.int .u8 0] n) 5)) n zs 0 :=
  ⟨(Below.refl _ _).alloc (Nat.le_refl _) _, by simp, (World.rowIs_made w _ n 5).congr (fun i _ => by simp)⟩

theorem Fill.step {w wr : World} {n : Nat} {zs : List Int} {k : Nat} (h : Fill w wr n zs k) {v : Int} (hv : v = zs.getD k 0) :
    Fill w (wr.setCell ⟨w.heap.size, k, none⟩ (.int .u8 v)) n zs (k + 1) := by
  refine ⟨h.below.setCell (Nat.le_refl _) _, by simp [h.size], (h.row.set k _).congr (fun i _ => ?_)⟩
  by_cases e : i = k
  · subst e; simp [hv]
  · rw [if_neg e]
    by_cases hlt : i < k
    · rw [if_pos hlt, if_pos (by omega)]
    · rw [if_neg hlt, if_neg (by omega)]

/-- 'b == nil'. -/
theorem eqNil (w : World) (a : Option Addr) (n c n' c' : Nat) : (binOp .eql 22 (.slice a n c) (.slice none n' c')).run Trym.prog w = .ok (.bool a.isNone) w := Lib.run_eql_slice_nil w _ _ a n c n' c' Trym.underlying22

/-- sb1CloneBytes: nil stays nil. -/
theorem clone_nil (n c : Nat) (w : World) : Calls Trym.prog 9 #[.slice none n c] w fun e w' => e = .returned (.slice none 0 0) ∧ w = w' := by
  have q22 := eqNil
  go_enter Trym.func9, Trym.ntmps9
  go_wp2
  go_ret
  exact ⟨rfl, rfl⟩

set_option maxHeartbeats 400000 in
/-- sb1CloneBytes: a fresh row that holds the bytes. -/
theorem clone_some (x : Addr) (zs : List Int) (n c : Nat) (w : World) (hb : n ≤ 1048576) (hx : ∀ i, i < n → x.spot = none ∧ x.block < w.heap.size ∧ w.cell? ⟨x.block, x.off + i, none⟩ = some (.int .u8 (zs.getD i 0))) :
    Calls Trym.prog 9 #[.slice (some x) n c] w fun e w' => e = .returned (.slice (some ⟨w.heap.size, 0, none⟩) n n) ∧ Fill w w' n zs n := by
  have hmk := run_make_row' (P := Trym.prog) 22 5 (.int .u8 0) 1 Trym.underlying22 Trym.info5 rfl .i64 .i64 n (by omega) (by omega)
  have q22 := eqNil
  go_enter Trym.func9, Trym.ntmps9
  go_wp2
  clear hmk
  go_loopw [4] (fun i wr => ∃ k : Nat, k ≤ n ∧ i = .int .i64 k ∧ Fill w wr n zs k) (fun i _ => n - (intOf i).toNat)
  case atStart => exact ⟨0, Nat.zero_le _, rfl, Fill.start w _ _⟩
  case round =>
    obtain ⟨k, hk, rfl, hF⟩ := hrel
    by_cases hlt : k < n
    · obtain ⟨b, o, sp⟩ := x
      obtain ⟨hsp, hbs, hc⟩ := hx k hlt
      simp only at hsp hbs hc
      subst hsp
      have g : wr.cell? ⟨b, o + k, none⟩ = some (.int .u8 (zs.getD k 0)) := by
        rw [hF.below.cell (p := ⟨b, o + k, none⟩) hbs]; exact hc
      have g2 := hF.row.cell (i := k) (by omega)
      have g3 := hF.row.frozen k
      clear hc hx
      go_wp2
      go_roundw
      case rel => exact ⟨k + 1, by omega, by go_num, hF.step (by rw [List.getD_eq_getElem?_getD])⟩
      case measure => simp [intOf]; omega
    · obtain rfl : k = n := by omega
      go_wp2
      go_ret
      exact ⟨rfl, hF⟩

set_option maxHeartbeats 400000 in
/-- sb1SameBytes of a slice and itself. -/
theorem same_any (ad : Option Addr) (zs : List Int) (n c : Nat) (w : World) (hb : n ≤ 1048576) (hc : ∀ i, i < n → ∃ b o, ad = some ⟨b, o, none⟩ ∧ w.cell? ⟨b, o + i, none⟩ = some (.int .u8 (zs.getD i 0))) :
    Calls Trym.prog 11 #[.slice ad n c, .slice ad n c] w fun e w' => e = .returned (.bool true) ∧ Below w.heap.size w w' := by
  have HC : Hid (∀ i, i < n → ∃ b o, ad = some ⟨b, o, none⟩ ∧ w.cell? ⟨b, o + i, none⟩ = some (.int .u8 (zs.getD i 0))) := hc
  clear hc
  go_enter Trym.func11, Trym.ntmps11
  go_wp2
  go_loopw [5] (fun i wr => ∃ k : Nat, k ≤ n ∧ i = .int .i64 k ∧ Hid (∃ q, wr = w.drewN q)) (fun i _ => n - (intOf i).toNat)
  case atStart => exact ⟨0, Nat.zero_le _, rfl, 0, rfl⟩
  case round =>
    obtain ⟨k, hk, rfl, HQ⟩ := hrel
    obtain ⟨q, hq⟩ := HQ.out
    clear HQ
    subst hq
    by_cases hlt : k < n
    · obtain ⟨b, o, rfl, g⟩ := HC.out k hlt
      obtain ⟨x, hx⟩ : ∃ x, zs.getD k 0 = x := ⟨_, rfl⟩
      rw [hx] at g
      clear hx
      have hlt' : (k : Int) < (n : Int) := by omega
      go_wp2
      go_quiet (fail)
      go_wp2
      go_roundw
      case rel => exact ⟨k + 1, by omega, by go_num, _, rfl⟩
      case measure => simp [intOf]; omega
    · go_wp2
      go_ret
      exact ⟨rfl, below_drewN (Below.refl _ _) _⟩

end Go.Proofs.Qxb6601891aMods
