/-
  SEAT b6605196aM: 'zzc := make([]byte, len(a)); copy(zzc, a)': a fresh row that holds a's bytes.
-/
import Derived.Test.Qxb6605196aModsBase
namespace Go.Proofs.Qxb6605196aMods
open Go.RowKit

theorem Trym.size5 : (Trym.prog.info? 5).map (·.size) = some 1 := by kernel_rfl

theorem copy_new (w : World) (sp : Option Addr) (n c : Nat) (zs : List Int) (hn : zs.length = n) (hs : Sl w sp zs) :
    ∃ w1, Fill w w1 n zs n ∧ ∀ ty, (Builtin.copy_ #[22, 22] ty #[.slice (some ⟨w.heap.size, 0, none⟩) n n, .slice sp n c]).run Trym.prog (w.alloc (.cells (madeCells #[.int .u8 0] n) 5)) = .ok (.int .i64 n) w1 := by
  have hF := Fill.start w n zs
  rcases hs.1 with rfl | ⟨b, o, rfl, hlt, hc⟩
  · obtain rfl : n = 0 := by simpa using hn.symm
    exact ⟨_, hF, fun ty => run_copy_none _ 22 22 ty 5 _ _ 0 0 0 c Trym.underlying22 Trym.size5 rfl⟩
  · obtain ⟨W, hW⟩ : ∃ W, w.alloc (.cells (madeCells #[.int .u8 0] n) 5) = W := ⟨_, rfl⟩
    rw [hW] at hF ⊢
    obtain ⟨cur, hg, hsz, _⟩ := hF.row
    have hrun := fun ty => run_copy_row (P := Trym.prog) W 22 22 ty 5 w.heap.size 0 n n ⟨b, o, none⟩ n c cur 5 (zs.map (.int .u8)) Trym.underlying22 Trym.size5 hg (by simp [hn])
      (fun j v hv => by
        rw [List.getElem?_map, Option.map_eq_some_iff] at hv
        obtain ⟨z, hz, rfl⟩ := hv
        have hj : j < zs.length := (List.getElem?_eq_some_iff.1 hz).1
        have := hc j hj
        rw [List.getD_eq_getElem?_getD, hz] at this
        rw [show (⟨b, o, none⟩ : Addr).add j = ⟨b, o + j, none⟩ from by unfold Addr.add; split <;> simp_all, hF.below.cell (p := ⟨b, o + j, none⟩) hlt]
        exact this)
      (by simp [hsz, hn]) (fun v hv => by
        obtain ⟨z, _, rfl⟩ := List.mem_map.1 hv
        rfl)
    rw [List.length_map, hn] at hrun
    refine ⟨_, ⟨below_setRow hF.below (Nat.le_refl _) _, by simp [World.setRow, hF.size], _, setRow_heap W w.heap.size _ _ 5 _ hg, ?_, ?_⟩, hrun⟩
    · simp [hn, hsz]
    · intro i hi
      simp [hi]
      rw [List.getElem?_append_left (by simp [hn, hi]), List.getElem?_map, List.getElem?_eq_getElem (by omega)]
      rfl

/-- A row that came in, told as the walk takes it. -/
theorem Sl.ofCells {w : World} {x : Addr} {len : Nat} {zs : List Int} (hl : len ≤ zs.length) (hc : ∀ i, i < zs.length → w.cell? (x.add i) = some (.int .u8 (zs.getD i 0))) (hw : ∀ n ∈ zs, (Lit.int .u8 n).wf = true) : Sl w (some x) (zs.take len) := by
  refine ⟨?_, fun n hn => ?_⟩
  · by_cases h0 : zs.length = 0
    · left
      rw [List.eq_nil_of_length_eq_zero h0, List.take_nil]
    · right
      obtain ⟨b, o, sp⟩ := x
      have hsp : sp = none := by simpa [Addr.add] using World.cell?_spot (hc 0 (by omega))
      subst hsp
      have hcell : ∀ i, i < zs.length → w.cell? ⟨b, o + i, none⟩ = some (.int .u8 (zs.getD i 0)) := fun i hi => by
        have := hc i hi
        rwa [show (⟨b, o, none⟩ : Addr).add i = ⟨b, o + i, none⟩ from by unfold Addr.add; split <;> simp_all] at this
      refine ⟨b, o, rfl, World.block_lt_of_cell? _ _ (hcell 0 (by omega)), fun i hi => ?_⟩
      rw [List.length_take] at hi
      rw [hcell i (by omega), List.getD_eq_getElem?_getD, List.getD_eq_getElem?_getD, List.getElem?_take, if_pos (by omega)]
  · have := hw n (List.mem_of_mem_take hn)
    simp only [Lit.wf, Bool.and_eq_true, decide_eq_true_eq] at this
    have h1 : IntKind.min .u8 = 0 := rfl
    have h2 : IntKind.max .u8 = 255 := rfl
    omega

end Go.Proofs.Qxb6605196aMods
