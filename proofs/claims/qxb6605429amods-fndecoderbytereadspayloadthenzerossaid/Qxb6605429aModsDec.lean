/-
  SEAT b6605429aM: THE WALKS OF zzCloneBytes, ZZNewDecoder, (*decoder).byte, ZZDecoderState.
-/
import Derived.Test.Qxb6605429aModsRows
import Derived.WalkKit
import Derived.WalkSpells
import Derived.WalkLawsBesides
import Derived.Below
import Derived.Deep.QuietTactic
import Derived.BigQuiet
import Derived.Deep.Light
import Derived.Deep.OwnRows
import Derived.RegionTactic
import Derived.Lib.SliceRun
namespace Go.Proofs.Qxb6605429aMods
open Go.RowKit

theorem Trym.info5 : (Trym.prog.info? 5).map (fun i => (i.zero, i.size, i.bytes)) = some (some (.int .u8 0), 1, 1) := by kernel_rfl

/-- The first k of n cells of a new row are filled from zs. -/
structure Fill (w wr : World) (n : Nat) (zs : List Int) (k : Nat) : Prop where
  below : Below w.heap.size w wr
  size : wr.heap.size = w.heap.size + 1
  row : wr.rowIs w.heap.size 5 n (fun i => .int .u8 (if i < k then zs.getD i 0 else 0))

theorem Fill.start (w : World) (n : Nat) (zs : List Int) : Fill w (w.alloc (.cells (madeCells #[.int .u8 0] n) 5)) n zs 0 :=
  ⟨(Below.refl _ _).alloc (Nat.le_refl _) _, by simp, (World.rowIs_made w _ n 5).congr (fun i _ => by simp)⟩

theorem Fill.step {w wr : World} {n : Nat} {zs : List Int} {k : Nat} (h : Fill w wr n zs k) {v : Int} (hv : v = zs.getD k 0) :
    Fill w (wr.setCell ⟨w.heap.size, k, none⟩ (.int .u8 v)) n zs (k + 1) := by
  refine ⟨h.below.setCell (Nat.le_refl _) _, by simp [h.size], (h.row.set k _).congr (fun i _ => ?_)⟩
  by_cases e : i = k
  · subst e; simp [hv]
  · rw [if_neg e]
    by_cases hlt : i < k
    · rw [if_pos hlt, if_pos (by omega)]
    · rw [if_neg hlt, if_neg (by omega)]

/-- 'p == nil'. -/
theorem eqNil (w : World) (a : Option Addr) (n c n' c' : Nat) : (binOp .eql 28 (.slice a n c) (.slice none n' c')).run Trym.prog w = .ok (.bool a.isNone) w := Lib.run_eql_slice_nil w _ _ a n c n' c' Trym.underlying28

/-- zzCloneBytes: nil stays nil. -/
theorem clone_nil (n c : Nat) (w : World) : Calls Trym.prog 10 #[.slice none n c] w fun e w' => e = .returned (.slice none 0 0) ∧ w = w' := by
  have q28 := eqNil
  go_enter Trym.func10, Trym.ntmps10
  go_wp2
  go_ret
  exact ⟨rfl, rfl⟩

set_option maxHeartbeats 400000 in
/-- zzCloneBytes: a fresh row that holds the bytes. -/
theorem clone_some (x : Addr) (zs : List Int) (n c : Nat) (w : World) (hb : n ≤ 1048576) (hx : ∀ i, i < n → x.spot = none ∧ x.block < w.heap.size ∧ w.cell? ⟨x.block, x.off + i, none⟩ = some (.int .u8 (zs.getD i 0))) :
    Calls Trym.prog 10 #[.slice (some x) n c] w fun e w' => e = .returned (.slice (some ⟨w.heap.size, 0, none⟩) n n) ∧ Fill w w' n zs n := by
  have hmk := run_make_row' (P := Trym.prog) 28 5 (.int .u8 0) 1 Trym.underlying28 Trym.info5 rfl .i64 .i64 n (by omega) (by omega)
  have q28 := eqNil
  go_enter Trym.func10, Trym.ntmps10
  go_wp2
  clear hmk
  go_loopw [4] (fun i wr => ∃ k : Nat, k ≤ n ∧ i = .int .i64 k ∧ Fill w wr n zs k) (fun i _ => n - (intOf i).toNat)
  case atStart => exact ⟨0, Nat.zero_le _, rfl, Fill.start w _ _⟩
  case round =>
    obtain ⟨k, hk, rfl, hF⟩ := hrel
    by_cases hlt : k < n
    · obtain ⟨b, o, sp⟩ := x
      obtain ⟨hsp, hbs, hc⟩ := hx k hlt
      simp only at hsp hbs hc
      subst hsp
      have g : wr.cell? ⟨b, o + k, none⟩ = some (.int .u8 (zs.getD k 0)) := by
        rw [hF.below.cell (p := ⟨b, o + k, none⟩) hbs]; exact hc
      have g2 := hF.row.cell (i := k) (by omega)
      have g3 := hF.row.frozen k
      clear hc hx
      go_wp2
      go_roundw
      case rel => exact ⟨k + 1, by omega, by go_num, hF.step (by rw [List.getD_eq_getElem?_getD])⟩
      case measure => simp [intOf]; omega
    · obtain rfl : k = n := by omega
      go_wp2
      go_ret
      exact ⟨rfl, hF⟩

/-- ZZNewDecoder. -/
theorem new_any (ad : Option Addr) (n c : Nat) (bad : Bool) (w : World) :
    Calls Trym.prog 11 #[.slice ad n c, .bool bad] w fun e w' => e = .returned (.pointer (some ⟨w.heap.size, 0, none⟩)) ∧ w.alloc (.cells #[.slice ad n c, .bool bad] 38) = w' := by
  go_enter Trym.func11, Trym.ntmps11
  go_wp2
  go_ret
  exact ⟨rfl, rfl⟩

/-- The decoder at block D, i bytes of the n bytes zs (which lie at block B) read, its flag bd; what was there ahead of w0's end is as it was. -/
structure Dec (w0 w : World) (B D n : Nat) (zs : List Int) (i : Nat) (bd : Bool) : Prop where
  below : Below w0.heap.size w0 w
  ge : w0.heap.size ≤ D
  ne : B ≠ D
  row : ∀ j, j < n → w.cell? ⟨B, j, none⟩ = some (.int .u8 (zs.getD j 0))
  f0 : w.frozen? ⟨D, 0, none⟩ = false
  f1 : w.frozen? ⟨D, 1, none⟩ = false
  st : ∃ ad, w.cell? ⟨D, 0, none⟩ = some (.slice ad (n - i) (n - i)) ∧ (i < n → ad = some ⟨B, i, none⟩)
  fl : w.cell? ⟨D, 1, none⟩ = some (.bool bd)

theorem Dec.read {w0 w : World} {B D n k L : Nat} {zs : List Int} {bd : Bool} (d : Dec w0 w B D n zs k bd) {ad : Option Addr} (hL : L = n - (k + 1)) (had : k + 1 < n → ad = some ⟨B, k + 1, none⟩) :
    Dec w0 (w.setCell ⟨D, 0, none⟩ (.slice ad L L)) B D n zs (k + 1) bd := by
  subst hL
  obtain ⟨ad0, h0, _⟩ := d.st
  refine ⟨d.below.setCell d.ge _, d.ge, d.ne, fun j hj => ?_, by simpa using d.f0, by simpa using d.f1, ⟨ad, World.cell?_setCell_same _ _ _ h0, had⟩, ?_⟩
  · rw [World.cell?_setCell_other _ _ _ _ (fun e => by have := congrArg Addr.block e; simp at this; exact d.ne this.symm)]
    exact d.row j hj
  · rw [World.cell?_setCell_other _ _ _ _ (fun e => by have := congrArg Addr.off e; simp at this)]
    exact d.fl

theorem Dec.mark {w0 w : World} {B D n k : Nat} {zs : List Int} {bd : Bool} (d : Dec w0 w B D n zs k bd) : Dec w0 (w.setCell ⟨D, 1, none⟩ (.bool true)) B D n zs k true := by
  obtain ⟨ad0, h0, had⟩ := d.st
  refine ⟨d.below.setCell d.ge _, d.ge, d.ne, fun j hj => ?_, by simpa using d.f0, by simpa using d.f1, ⟨ad0, ?_, had⟩, World.cell?_setCell_same _ _ _ d.fl⟩
  · rw [World.cell?_setCell_other _ _ _ _ (fun e => by have := congrArg Addr.block e; simp at this; exact d.ne this.symm)]
    exact d.row j hj
  · rw [World.cell?_setCell_other _ _ _ _ (fun e => by have := congrArg Addr.off e; simp at this)]
    exact h0

theorem Dec.drewN {w0 w : World} {B D n k : Nat} {zs : List Int} {bd : Bool} (d : Dec w0 w B D n zs k bd) (q : Nat) : Dec w0 (w.drewN q) B D n zs k bd :=
  ⟨below_drewN d.below q, d.ge, d.ne, d.row, d.f0, d.f1, d.st, d.fl⟩

set_option maxHeartbeats 400000 in
theorem byte_yes {w0 w : World} {B D n k : Nat} {zs : List Int} {bd : Bool} (h : Dec w0 w B D n zs k bd) (hk : k < n) :
    Calls Trym.prog 15 #[.pointer (some ⟨D, 0, none⟩)] w fun e w' => e = .returned (.int .u8 (zs.getD k 0)) ∧ Dec w0 w' B D n zs (k + 1) bd := by
  obtain ⟨ad, h0, had⟩ := h.st
  obtain rfl := had hk
  have h1 := h.row k hk
  have h2 := h.f0
  have hl : (0 : Int) < ((n - k : Nat) : Int) := by omega
  have hl2 : ((((n - k : Nat) : Int)) == 0) = false := by simp; omega
  have HD : Hid (Dec w0 w B D n zs k bd) := h
  have hne := h.ne
  clear h had
  go_enter Trym.func15, Trym.ntmps15
  go_wp2
  · go_ret
    exact ⟨rfl, HD.out.read (by omega) (by omega)⟩
  · go_ret
    exact ⟨rfl, HD.out.read (by omega) (fun _ => rfl)⟩

set_option maxHeartbeats 400000 in
theorem byte_no {w0 w : World} {B D n : Nat} {zs : List Int} {bd : Bool} (h : Dec w0 w B D n zs n bd) :
    Calls Trym.prog 15 #[.pointer (some ⟨D, 0, none⟩)] w fun e w' => e = .returned (.int .u8 0) ∧ Dec w0 w' B D n zs n true := by
  obtain ⟨ad, h0, -⟩ := h.st
  rw [Nat.sub_self] at h0
  have h2 := h.f1
  have h3 := h.fl
  have HD : Hid (Dec w0 w B D n zs n bd) := h
  clear h
  go_enter Trym.func15, Trym.ntmps15
  go_wp2
  go_ret
  exact ⟨rfl, HD.out.mark⟩

theorem zzByte_yes {w0 w : World} {B D n k : Nat} {zs : List Int} {bd : Bool} (h : Dec w0 w B D n zs k bd) (hk : k < n) :
    Calls Trym.prog 12 #[.pointer (some ⟨D, 0, none⟩)] w fun e w' => e = .returned (.int .u8 (zs.getD k 0)) ∧ Dec w0 w' B D n zs (k + 1) bd := by
  have HH : Hid (Calls Trym.prog 15 #[.pointer (some ⟨D, 0, none⟩)] w fun e w' => e = .returned (.int .u8 (zs.getD k 0)) ∧ Dec w0 w' B D n zs (k + 1) bd) := byte_yes h hk
  clear h
  go_enter Trym.func12, Trym.ntmps12
  go_wp2_with (go_at_call 15; refine (HH.out).mono ?_; rintro e w' ⟨rfl, hd⟩)
  go_ret
  exact ⟨rfl, hd⟩
theorem zzByte_no {w0 w : World} {B D n : Nat} {zs : List Int} {bd : Bool} (h : Dec w0 w B D n zs n bd) :
    Calls Trym.prog 12 #[.pointer (some ⟨D, 0, none⟩)] w fun e w' => e = .returned (.int .u8 0) ∧ Dec w0 w' B D n zs n true := by
  have HH : Hid (Calls Trym.prog 15 #[.pointer (some ⟨D, 0, none⟩)] w fun e w' => e = .returned (.int .u8 0) ∧ Dec w0 w' B D n zs n true) := byte_no h
  clear h
  go_enter Trym.func12, Trym.ntmps12
  go_wp2_with (go_at_call 15; refine (HH.out).mono ?_; rintro e w' ⟨rfl, hd⟩)
  go_ret
  exact ⟨rfl, hd⟩

set_option maxHeartbeats 400000 in
theorem state_any {w0 w : World} {B D n k : Nat} {zs : List Int} {bd : Bool} (h : Dec w0 w B D n zs k bd) :
    Calls Trym.prog 13 #[.pointer (some ⟨D, 0, none⟩)] w fun e w' => ∃ ad, e = .returned (.tuple #[.slice ad (n - k) (n - k), .bool bd]) ∧ (k < n → ad = some ⟨B, k, none⟩) ∧ Dec w0 w' B D n zs k bd := by
  obtain ⟨ad, h0, had⟩ := h.st
  have h3 := h.fl
  have HD : Hid (Dec w0 w B D n zs k bd) := h
  have HA : Hid (k < n → ad = some ⟨B, k, none⟩) := had
  clear h had
  go_enter Trym.func13, Trym.ntmps13
  go_wp2
  go_quiet (fail)
  go_wp2
  go_ret2
  exact ⟨ad, rfl, HA.out, HD.out.drewN _⟩

end Go.Proofs.Qxb6605429aMods
