/-
  An Int that is there stays as it is.
-/
import Derived.Test.YbulkduzaAdded
namespace Go.Proofs.Ybulkduza
open Go.RowKit

theorem BigAt.alloc {w : World} {P : Nat} {v : Int} (h : BigAt w P v) (o : Obj) : BigAt (w.alloc o) P v := by
  rcases h with ⟨h0, h1, a, c, h2⟩ | ⟨h0, h1, h2, h3, b, o', c, h4, h5, h6⟩
  · exact .inl ⟨h0, cell_old _ _ _ h1, a, c, cell_old _ _ _ h2⟩
  · exact .inr ⟨h0, h1, h2, cell_old _ _ _ h3, b, o', c, cell_old _ _ _ h4, h5, cell_old _ _ _ h6⟩
theorem BigAt.drewN {w : World} {P : Nat} {v : Int} (h : BigAt w P v) (k : Nat) : BigAt (w.drewN k) P v := h
/-- Another block that holds a new Int's two cells was written. -/
theorem BigAt.but {w w' : World} {P Z : Nat} {v : Int} (h : BigAt w P v) (hb : But Z w w') (hP : P ≠ Z) {c0 : Array Value} {t : TypeId} (hZ : w.heap[Z]? = some (.cells c0 t (0, 0))) (hc : ∀ (i : Nat) (n : Int), c0[i]? ≠ some (.int .u64 n)) : BigAt w' P v := by
  have ce : ∀ {x j : Nat} {u : Value}, w.cell? ⟨x, j, none⟩ = some u → x ≠ Z → w'.cell? ⟨x, j, none⟩ = some u := fun {x j u} hu hx =>
    (World.cell?_of_block (w := w) (hb.2.1 x (World.block_lt_of_cell? w _ hu) hx)).trans hu
  rcases h with ⟨h0, h1, a, c, h2⟩ | ⟨h0, h1, h2, h3, b, o', c, h4, h5, h6⟩
  · exact .inl ⟨h0, ce h1 hP, a, c, ce h2 hP⟩
  · refine .inr ⟨h0, h1, h2, ce h3 hP, b, o', c, ce h4 hP, h5, ce h6 ?_⟩
    rintro rfl
    unfold World.cell? at h6
    simp only [hZ] at h6
    exact hc o' _ (by simpa using h6)
end Go.Proofs.Ybulkduza
