/-
  What Int.Add leaves, read.
-/
import Derived.Test.YbulkduzaGet
namespace Go.Proofs.Ybulkduza
open Go.RowKit

/-- All blocks that were there are as before, but one. -/
def But (Z : Nat) (w w' : World) : Prop := w.heap.size ≤ w'.heap.size ∧ (∀ k, k < w.heap.size → k ≠ Z → w'.heap[k]? = w.heap[k]?) ∧ w'.os = w.os ∧ w'.tape = w.tape ∧ w'.output = w.output

theorem Added.but {w w' : World} {Z : Nat} {v : Int} (h : Added w w' Z v) : But Z w w' := by
  obtain ⟨R, l, c, k, rfl, _⟩ := h
  refine ⟨by simp, fun j hj hne => ?_, rfl, rfl, rfl⟩
  rw [World.heap_drewN, Below.heap_setCell _ _ _ _ hne, Below.heap_setCell _ _ _ _ hne, Below.heap_alloc _ _ _ hj]

theorem Added.big {w w' : World} {Z : Nat} {v : Int} (h : Added w w' Z v) (h0 : w.cell? ⟨Z, 0, none⟩ = some (.bool false)) (h1 : w.cell? ⟨Z, 1, none⟩ = some (.slice none 0 0)) (hb : -4611686018427387904 < v ∧ v < 4611686018427387904) : BigAt w' Z v := by
  obtain ⟨R, l, c, k, rfl, hR⟩ := h
  have lZ := World.block_lt_of_cell? w _ h0
  have a0 : (w.alloc (.cells R 86)).cell? ⟨Z, 0, none⟩ = some (.bool false) := cell_old _ _ _ h0
  have a1 : (w.alloc (.cells R 86)).cell? ⟨Z, 1, none⟩ = some (.slice none 0 0) := cell_old _ _ _ h1
  have b0 : ((w.alloc (.cells R 86)).setCell ⟨Z, 1, none⟩ (.slice (some ⟨w.heap.size, 0, none⟩) l c)).cell? ⟨Z, 0, none⟩ = some (.bool false) := by
    rw [World.cell?_setCell_other _ _ _ _ (by simp)]; exact a0
  have c0 := World.cell?_setCell_same' ((w.alloc (.cells R 86)).setCell ⟨Z, 1, none⟩ (.slice (some ⟨w.heap.size, 0, none⟩) l c)) ⟨Z, 0, none⟩ (.bool (decide (v < 0))) (by rw [b0]; rfl)
  have c1 : (((w.alloc (.cells R 86)).setCell ⟨Z, 1, none⟩ (.slice (some ⟨w.heap.size, 0, none⟩) l c)).setCell ⟨Z, 0, none⟩ (.bool (decide (v < 0)))).cell? ⟨Z, 1, none⟩ = some (.slice (some ⟨w.heap.size, 0, none⟩) l c) := by
    rw [World.cell?_setCell_other _ _ _ _ (by simp)]
    exact World.cell?_setCell_same' _ _ _ (by rw [a1]; rfl)
  rcases hR with ⟨hv, rfl⟩ | ⟨hv, rfl, hc, hw⟩
  · refine .inl ⟨hv, ?_, _, _, c1⟩
    rw [show decide (v < 0) = false by simp; omega] at c0
    rw [show decide (v < 0) = false by simp; omega]
    exact c0
  · refine .inr ⟨hv, hb.1, hb.2, c0, w.heap.size, 0, c, c1, hc, ?_⟩
    have lZ' : Z < w.heap.size := lZ
    rw [World.cell?_drewN, World.cell?_setCell_other _ _ _ _ (fun e => by cases e; omega), World.cell?_setCell_other _ _ _ _ (fun e => by cases e)]
    exact cell_new _ _ _ _ _ _ rfl hw
end Go.Proofs.Ybulkduza
