/-
  One contract of NewInt, of Sign and of Cmp over BigAt; what Add leaves is a BigAt.
-/
import Derived.Test.YbulkduzaInt
namespace Go.Proofs.Ybulkduza
open Go.RowKit

theorem cell_new (w : World) (c : Array Value) (t : TypeId) (S j : Nat) (v : Value) (hS : S = w.heap.size) (h : c[j]? = some v) : (w.alloc (.cells c t)).cell? ⟨S, j, none⟩ = some v := by
  subst hS
  unfold World.cell?
  simp only
  rw [heap_alloc_new]
  simpa using h
theorem cell_old (w : World) (o : Obj) (a : Addr) {v : Value} (h : w.cell? a = some v) : (w.alloc o).cell? a = some v := (World.cell?_alloc_lt _ _ _ (World.block_lt_of_cell? w a h)).trans h

/-- NewInt. -/
theorem newInt (v : Int) (h0 : -4611686018427387904 < v) (h1 : v < 4611686018427387904) (w : World) :
    Calls Yba.prog 7 #[.int .i64 v] w fun e w' => ∃ P, e = .returned (.pointer (some ⟨P, 0, none⟩)) ∧ w.heap.size ≤ P ∧ BigAt w' P v ∧ (∃ c, w'.heap[P]? = some (.cells c 83 (0, 0))) ∧ Below w.heap.size w w' := by
  rcases Int.lt_trichotomy v 0 with h | rfl | h
  · refine (newIntNeg v h (by omega) w).mono ?_
    rintro e w' ⟨rfl, rfl⟩
    refine ⟨_, rfl, by omega, .inr ⟨by omega, h0, h1, ?_, w.heap.size, 0, 1, ?_, by omega, ?_⟩, ?_, ((Below.refl _ _).alloc (Nat.le_refl _) _).alloc (by simp) _⟩
    · rw [show decide (v < 0) = true by simpa using h]; exact cell_new _ _ _ _ _ _ (by simp) rfl
    · exact cell_new _ _ _ _ _ _ (by simp) rfl
    · rw [if_pos h]; exact cell_old _ _ _ (cell_new _ _ _ _ _ _ rfl rfl)
    · have := heap_alloc_new (w.alloc (.cells #[.int .u64 (-v)] 86)) (.cells #[.bool true, .slice (some ⟨w.heap.size, 0, none⟩) 1 1] 83)
      exact ⟨#[.bool true, .slice (some ⟨w.heap.size, 0, none⟩) 1 1], by rw [← this]; simp⟩
  · refine (newInt0 w).mono ?_
    rintro e w' ⟨rfl, rfl⟩
    exact ⟨_, rfl, Nat.le_refl _, .inl ⟨rfl, cell_new _ _ _ _ _ _ rfl rfl, _, _, cell_new _ _ _ _ _ _ rfl rfl⟩, ⟨_, heap_alloc_new _ _⟩, (Below.refl _ _).alloc (Nat.le_refl _) _⟩
  · refine (newIntPos v h (by omega) w).mono ?_
    rintro e w' ⟨rfl, rfl⟩
    refine ⟨_, rfl, by omega, .inr ⟨by omega, h0, h1, ?_, w.heap.size, 0, 1, ?_, by omega, ?_⟩, ?_, ((Below.refl _ _).alloc (Nat.le_refl _) _).alloc (by simp) _⟩
    · rw [show decide (v < 0) = false by simp; omega]; exact cell_new _ _ _ _ _ _ (by simp) rfl
    · exact cell_new _ _ _ _ _ _ (by simp) rfl
    · rw [if_neg (by omega)]; exact cell_old _ _ _ (cell_new _ _ _ _ _ _ rfl rfl)
    · have := heap_alloc_new (w.alloc (.cells #[.int .u64 v] 86)) (.cells #[.bool false, .slice (some ⟨w.heap.size, 0, none⟩) 1 1] 83)
      exact ⟨#[.bool false, .slice (some ⟨w.heap.size, 0, none⟩) 1 1], by rw [← this]; simp⟩

/-- Sign. -/
theorem signOf (P : Nat) (v : Int) (w : World) (h : BigAt w P v) : Calls Yba.prog 12 #[.pointer (some ⟨P, 0, none⟩)] w fun e w' => e = .returned (.int .i64 (if v = 0 then 0 else if v < 0 then -1 else 1)) ∧ w' = w := by
  rcases h with ⟨rfl, _, a, c, hs⟩ | ⟨v0, _, _, hn, b, o, c, hs, _, _⟩
  · exact sign0 P a c w hs
  · refine (sign1 P _ c _ w hn hs).mono ?_
    rintro e w' ⟨rfl, rfl⟩
    refine ⟨?_, rfl⟩
    rw [if_neg v0]
    by_cases h : v < 0 <;> simp [h]

/-- Cmp: 0 just where they are equal. -/
theorem cmpOf (X Y : Nat) (x y : Int) (w : World) (hX : BigAt w X x) (hY : BigAt w Y y) (hq : (binOp .eql 36 (.pointer (some ⟨X, 0, none⟩)) (.pointer (some ⟨Y, 0, none⟩))).run Yba.prog w = .ok (.bool false) w) :
    Calls Yba.prog 10 #[.pointer (some ⟨X, 0, none⟩), .pointer (some ⟨Y, 0, none⟩)] w fun e w' => ∃ r : Int, e = .returned (.int .i64 r) ∧ (r = 0 ↔ x = y) ∧ ∃ k, w' = w.drewN k := by
  have same : ∀ {a b : Value} {r : Int} {k : Nat}, (Calls Yba.prog 20 #[a, b] (w.drewN k) fun e w' => e = .returned (.int .i64 r) ∧ w' = w.drewN k) → Calls Yba.prog 20 #[a, b] (w.drewN k) fun e w' => e = .returned (.int .i64 r) ∧ ∃ j, w' = (w.drewN k).drewN j :=
    fun h => h.mono fun _ _ ⟨he, hw⟩ => ⟨he, 0, hw⟩
  rcases hX with ⟨rfl, xn, a1, c1, xs⟩ | ⟨x0, _, _, xn, b1, o1, c1, xs, _, xw⟩
  · rcases hY with ⟨rfl, yn, a2, c2, ys⟩ | ⟨y0, _, _, yn, b2, o2, c2, ys, _, yw⟩
    · refine (cmp_like X Y false a1 a2 0 0 c1 c2 0 (by omega) w hq xn yn xs ys (fun k => same (cmp00 a1 c1 a2 c2 _))).mono ?_
      rintro e w' ⟨rfl, k, rfl⟩
      exact ⟨_, rfl, by simp, k, rfl⟩
    · by_cases h : y < 0
      · rw [show decide (y < 0) = true by simpa using h] at yn
        refine (cmp_signs X Y false w hq xn yn).mono ?_
        rintro e w' ⟨rfl, k, rfl⟩
        exact ⟨_, rfl, by simp; omega, k, rfl⟩
      · rw [show decide (y < 0) = false by simpa using h] at yn
        refine (cmp_like X Y false a1 _ 0 1 c1 c2 (-1) (by omega) w hq xn yn xs ys (fun k => same (cmp01 a1 c1 _ c2 _))).mono ?_
        rintro e w' ⟨rfl, k, rfl⟩
        exact ⟨_, rfl, by simp; omega, k, rfl⟩
  · rcases hY with ⟨rfl, yn, a2, c2, ys⟩ | ⟨y0, _, _, yn, b2, o2, c2, ys, _, yw⟩
    · by_cases h : x < 0
      · rw [show decide (x < 0) = true by simpa using h] at xn
        refine (cmp_signs X Y true w hq xn yn).mono ?_
        rintro e w' ⟨rfl, k, rfl⟩
        exact ⟨_, rfl, by simp; omega, k, rfl⟩
      · rw [show decide (x < 0) = false by simpa using h] at xn
        refine (cmp_like X Y false _ a2 1 0 c1 c2 1 (by omega) w hq xn yn xs ys (fun k => same (cmp10 _ c1 a2 c2 _))).mono ?_
        rintro e w' ⟨rfl, k, rfl⟩
        exact ⟨_, rfl, by simp; omega, k, rfl⟩
    · by_cases h : x < 0 <;> by_cases h' : y < 0
      · rw [show decide (x < 0) = true by simpa using h] at xn
        rw [show decide (y < 0) = true by simpa using h'] at yn
        rw [if_pos h] at xw
        rw [if_pos h'] at yw
        refine (cmp_like X Y true _ _ 1 1 c1 c2 _ (by split <;> (try split) <;> omega) w hq xn yn xs ys (fun k => cmp11 b1 o1 c1 b2 o2 c2 (-x) (-y) _ xw yw)).mono ?_
        rintro e w' ⟨rfl, k, rfl⟩
        refine ⟨_, rfl, ?_, k, rfl⟩
        simp only [if_true]
        split <;> (try split) <;> omega
      · rw [show decide (x < 0) = true by simpa using h] at xn
        rw [show decide (y < 0) = false by simpa using h'] at yn
        refine (cmp_signs X Y true w hq xn yn).mono ?_
        rintro e w' ⟨rfl, k, rfl⟩
        exact ⟨_, rfl, by simp; omega, k, rfl⟩
      · rw [show decide (x < 0) = false by simpa using h] at xn
        rw [show decide (y < 0) = true by simpa using h'] at yn
        refine (cmp_signs X Y false w hq xn yn).mono ?_
        rintro e w' ⟨rfl, k, rfl⟩
        exact ⟨_, rfl, by simp; omega, k, rfl⟩
      · rw [show decide (x < 0) = false by simpa using h] at xn
        rw [show decide (y < 0) = false by simpa using h'] at yn
        rw [if_neg h] at xw
        rw [if_neg h'] at yw
        refine (cmp_like X Y false _ _ 1 1 c1 c2 _ (by split <;> (try split) <;> omega) w hq xn yn xs ys (fun k => cmp11 b1 o1 c1 b2 o2 c2 x y _ xw yw)).mono ?_
        rintro e w' ⟨rfl, k, rfl⟩
        refine ⟨_, rfl, ?_, k, rfl⟩
        simp only [Bool.false_eq_true, if_false]
        split <;> (try split) <;> omega
end Go.Proofs.Ybulkduza
