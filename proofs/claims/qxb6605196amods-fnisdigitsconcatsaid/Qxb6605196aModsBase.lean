/-
  THE SHARED GROUND OF SEAT b6605196aM: what the walks say of a slice of bytes.
-/
import Derived.Test.Qxb6605196aModsRows
import Derived.WalkKit
import Derived.WalkSpells
import Derived.WalkLawsBesides
import Derived.Below
import Derived.Laws.CopyOwn
import Derived.Deep.QuietTactic
import Derived.BigQuiet
import Derived.Deep.Light
import Derived.Deep.OwnRows
namespace Go.Proofs.Qxb6605196aMods
open Go.RowKit

theorem ret_int {k : IntKind} {a b : Int} (h : a = b) : Ending.returned (.int k a) = .returned (.int k b) := by rw [h]
theorem ret_bool {a b : Bool} (h : a = b) : Ending.returned (.bool a) = .returned (.bool b) := by rw [h]

/-- The visible elements of a byte slice at address 'a' are the numbers 'zs'. -/
def Sl (w : World) (a : Option Addr) (zs : List Int) : Prop :=
  (zs = [] ∨ ∃ b o, a = some ⟨b, o, none⟩ ∧ b < w.heap.size ∧ ∀ i, i < zs.length → w.cell? ⟨b, o + i, none⟩ = some (.int .u8 (zs.getD i 0))) ∧ ∀ n ∈ zs, 0 ≤ n ∧ n ≤ 255

/-- A world in which what lay below the old heap's end is as it was keeps what is known of a slice. -/
theorem Sl.later {w w' : World} {a : Option Addr} {zs : List Int} (h : Sl w a zs) (hb : Below w.heap.size w w') : Sl w' a zs := by
  refine ⟨?_, h.2⟩
  rcases h.1 with h | ⟨b, o, ha, hlt, hc⟩
  · exact .inl h
  · exact .inr ⟨b, o, ha, Nat.lt_of_lt_of_le hlt hb.size, fun i hi => by rw [hb.cell (p := ⟨b, o + i, none⟩) hlt]; exact hc i hi⟩

/-- A row of the call's own, told as a slice. -/
theorem Sl.ofRow {w : World} {b n : Nat} {zs : List Int} (h : w.rowIs b 5 n (fun i => .int .u8 (zs.getD i 0))) (hn : zs.length = n) (hz : ∀ m ∈ zs, 0 ≤ m ∧ m ≤ 255) : Sl w (some ⟨b, 0, none⟩) zs :=
  ⟨.inr ⟨b, 0, rfl, h.lt, fun i hi => by rw [Nat.zero_add]; exact h.cell (by omega)⟩, hz⟩

theorem Trym.info5 : (Trym.prog.info? 5).map (fun i => (i.zero, i.size, i.bytes)) = some (some (.int .u8 0), 1, 1) := by kernel_rfl

/-- The first k of n cells of a new row are filled from zs. -/
structure Fill (w wr : World) (n : Nat) (zs : List Int) (k : Nat) : Prop where
  below : Below w.heap.size w wr
  size : wr.heap.size = w.heap.size + 1
  row : wr.rowIs w.heap.size 5 n (fun i => .int .u8 (if i < k then zs.getD i 0 else 0))

theorem Fill.start (w : World) (n : Nat) (zs : List Int) : Fill w (w.alloc (.cells (madeCells #[.int .u8 0] n) 5)) n zs 0 :=
  ⟨(Below.refl _ _).alloc (Nat.le_refl _) _, by simp, (World.rowIs_made w _ n 5).congr (fun i _ => by simp)⟩

theorem Fill.step {w wr : World} {n : Nat} {zs : List Int} {k : Nat} (h : Fill w wr n zs k) {v : Int} (hv : v = zs.getD k 0) :
    Fill w (wr.setCell ⟨w.heap.size, k, none⟩ (.int .u8 v)) n zs (k + 1) := by
  refine ⟨h.below.setCell (Nat.le_refl _) _, by simp [h.size], (h.row.set k _).congr (fun i _ => ?_)⟩
  by_cases e : i = k
  · subst e; simp [hv]
  · rw [if_neg e]
    by_cases hlt : i < k
    · rw [if_pos hlt, if_pos (by omega)]
    · rw [if_neg hlt, if_neg (by omega)]

theorem Fill.sl {w wr : World} {n : Nat} {zs : List Int} (h : Fill w wr n zs n) (hn : zs.length = n) (hz : ∀ m ∈ zs, 0 ≤ m ∧ m ≤ 255) : Sl wr (some ⟨w.heap.size, 0, none⟩) zs :=
  Sl.ofRow (h.row.congr (fun i hi => by rw [if_pos hi])) hn hz

theorem getD_append_left' (zs ys : List Int) (i : Nat) (h : i < zs.length) : (zs ++ ys).getD i 0 = zs.getD i 0 := by
  simp [List.getD_eq_getElem?_getD, List.getElem?_append_left h]
theorem getD_append_right' (zs ys : List Int) (i : Nat) : (zs ++ ys).getD (zs.length + i) 0 = ys.getD i 0 := by
  rw [List.getD_eq_getElem?_getD, List.getD_eq_getElem?_getD, List.getElem?_append_right (by omega)]
  congr 2
  omega

end Go.Proofs.Qxb6605196aMods
