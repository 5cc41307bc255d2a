/-
  An Int and its blocks; what leaves all Ints as they are.
-/
import Derived.Test.YbulkduzaFrame
namespace Go.Proofs.Ybulkduza
open Go.RowKit

/-- The pointer's Int holds v, and its blocks are an Int's. -/
def BigIs (w : World) (P : Nat) (v : Int) : Prop := BigAt w P v ∧ (∃ c, w.heap[P]? = some (.cells c 83 (0, 0))) ∧ ∀ b o l c, w.cell? ⟨P, 1, none⟩ = some (.slice (some ⟨b, o, none⟩) l c) → ∃ d, w.heap[b]? = some (.cells d 86 (0, 0))

/-- The blocks of Ints lie as they lay. -/
def KeepsInts (w w' : World) : Prop := ∀ (k : Nat) (c : Array Value) (t : TypeId), w.heap[k]? = some (.cells c t (0, 0)) → (t = 83 ∨ t = 86) → w'.heap[k]? = some (.cells c t (0, 0))
theorem KeepsInts.refl (w : World) : KeepsInts w w := fun _ _ _ h _ => h
theorem KeepsInts.trans {w w' w'' : World} (h : KeepsInts w w') (h' : KeepsInts w' w'') : KeepsInts w w'' := fun k c t hk ht => h' k c t (h k c t hk ht) ht
theorem KeepsInts.of_block {w w' : World} (h : ∀ (k : Nat) (c : Array Value) (t : TypeId), w.heap[k]? = some (.cells c t (0, 0)) → (t = 83 ∨ t = 86) → w'.heap[k]? = w.heap[k]?) : KeepsInts w w' := fun k c t hk ht => (h k c t hk ht).trans hk
theorem KeepsInts.of_but {w w' : World} {Z : Nat} (h : But Z w w') (hZ : ∀ c t, w.heap[Z]? = some (.cells c t (0, 0)) → t ≠ 83 ∧ t ≠ 86) : KeepsInts w w' := .of_block fun k c t hk ht => by
  by_cases hkz : k = Z
  · subst hkz
    have := hZ c t hk
    rcases ht with rfl | rfl
    · exact absurd rfl this.1
    · exact absurd rfl this.2
  · exact h.2.1 k (Array.getElem?_eq_some_iff.1 hk).1 hkz
theorem KeepsInts.of_size {w w' : World} (h : ∀ k, k < w.heap.size → w'.heap[k]? = w.heap[k]?) : KeepsInts w w' := .of_block fun k _ _ hk _ => h k (Array.getElem?_eq_some_iff.1 hk).1
theorem KeepsInts.alloc (w : World) (o : Obj) : KeepsInts w (w.alloc o) := .of_size fun _ hk => Below.heap_alloc _ _ _ hk
theorem KeepsInts.of_below {w w' : World} (h : Below w.heap.size w w') : KeepsInts w w' := .of_size fun k hk => h.block k hk
theorem KeepsInts.of_grown {w w' : World} {r : Option Nat} (h : w.grownBy w' r) (hr : ∀ z, r = some z → ∀ c t, w.heap[z]? = some (.cells c t (0, 0)) → t ≠ 83 ∧ t ≠ 86) : KeepsInts w w' := .of_block fun k c t hk ht => by
  refine h.block k (Array.getElem?_eq_some_iff.1 hk).1 (fun e => ?_)
  have := hr k e.symm c t hk
  rcases ht with rfl | rfl
  · exact absurd rfl this.1
  · exact absurd rfl this.2
theorem KeepsInts.setCell {w : World} {Z i : Nat} {c : Array Value} {t : TypeId} {r : Nat × Nat} (v : Value) (hZ : w.heap[Z]? = some (.cells c t r)) (ht : t ≠ 83 ∧ t ≠ 86) : KeepsInts w (w.setCell ⟨Z, i, none⟩ v) := .of_block fun k c' t' hk ht' => by
  refine Below.heap_setCell _ _ _ _ ?_
  rintro rfl
  rw [hk] at hZ
  cases hZ
  rcases ht' with rfl | rfl
  · exact absurd rfl ht.1
  · exact absurd rfl ht.2

theorem BigIs.keep {w w' : World} {P : Nat} {v : Int} (h : BigIs w P v) (hk : KeepsInts w w') : BigIs w' P v := by
  obtain ⟨h, ⟨c, hc⟩, hb⟩ := h
  have eP : w'.heap[P]? = w.heap[P]? := (hk P c 83 hc (.inl rfl)).trans hc.symm
  have cP : ∀ j, w'.cell? ⟨P, j, none⟩ = w.cell? ⟨P, j, none⟩ := fun j => World.cell?_of_block (w := w) eP
  refine ⟨?_, ⟨c, eP.trans hc⟩, fun b o l c' h' => ?_⟩
  · rcases h with ⟨h0, h1, a, c, h2⟩ | ⟨h0, h1, h2, h3, b, o', c, h4, h5, h6⟩
    · exact .inl ⟨h0, (cP 0).trans h1, a, c, (cP 1).trans h2⟩
    · obtain ⟨d, hd⟩ := hb b o' 1 c h4
      have eb : w'.heap[b]? = w.heap[b]? := (hk b d 86 hd (.inr rfl)).trans hd.symm
      exact .inr ⟨h0, h1, h2, (cP 0).trans h3, b, o', c, (cP 1).trans h4, h5, (World.cell?_of_block (w := w) eb).trans h6⟩
  · rw [cP 1] at h'
    obtain ⟨d, hd⟩ := hb b o l c' h'
    exact ⟨d, hk b d 86 hd (.inr rfl)⟩

/-- An Int that Add wrote. -/
theorem Added.is {w w' : World} {Z : Nat} {v : Int} (h : Added w w' Z v) (hZ : w.heap[Z]? = some (.cells #[.bool false, .slice none 0 0] 83 (0, 0))) (hb : -4611686018427387904 < v ∧ v < 4611686018427387904) : BigIs w' Z v := by
  have h0 : w.cell? ⟨Z, 0, none⟩ = some (.bool false) := by unfold World.cell?; simp only [hZ]; rfl
  have h1 : w.cell? ⟨Z, 1, none⟩ = some (.slice none 0 0) := by unfold World.cell?; simp only [hZ]; rfl
  refine ⟨h.big h0 h1 hb, ?_⟩
  obtain ⟨R, l, c, k, rfl, hR⟩ := h
  have lZ := World.block_lt_of_cell? w _ h0
  have lZ' : Z < w.heap.size := lZ
  have aZ : (w.alloc (.cells R 86)).heap[Z]? = some (.cells #[.bool false, .slice none 0 0] 83 (0, 0)) := (Below.heap_alloc _ _ _ lZ').trans hZ
  have a1 : (w.alloc (.cells R 86)).cell? ⟨Z, 1, none⟩ = some (.slice none 0 0) := cell_old _ _ _ h1
  have c1 : (((w.alloc (.cells R 86)).setCell ⟨Z, 1, none⟩ (.slice (some ⟨w.heap.size, 0, none⟩) l c)).setCell ⟨Z, 0, none⟩ (.bool (decide (v < 0)))).cell? ⟨Z, 1, none⟩ = some (.slice (some ⟨w.heap.size, 0, none⟩) l c) := by
    rw [World.cell?_setCell_other _ _ _ _ (by simp)]
    exact World.cell?_setCell_same' _ _ _ (by rw [a1]; rfl)
  constructor
  · refine ⟨#[.bool (decide (v < 0)), .slice (some ⟨w.heap.size, 0, none⟩) l c], ?_⟩
    rw [World.heap_drewN]
    have s1 := heap_setCell_same (w.alloc (.cells R 86)) Z 1 _ 83 (.slice (some ⟨w.heap.size, 0, none⟩) l c) aZ
    exact heap_setCell_same _ Z 0 _ 83 (.bool (decide (v < 0))) s1
  · intro b o l' c' hc
    rw [World.cell?_drewN, c1] at hc
    cases hc
    refine ⟨R, ?_⟩
    rw [World.heap_drewN, Below.heap_setCell _ _ _ _ (by simp only; omega), Below.heap_setCell _ _ _ _ (by simp only; omega)]
    exact heap_alloc_new _ _

/-- NewInt. -/
theorem newIntIs (v : Int) (h0 : -4611686018427387904 < v) (h1 : v < 4611686018427387904) (w : World) :
    Calls Yba.prog 7 #[.int .i64 v] w fun e w' => ∃ P, e = .returned (.pointer (some ⟨P, 0, none⟩)) ∧ w.heap.size ≤ P ∧ BigIs w' P v ∧ Below w.heap.size w w' := by
  rcases Int.lt_trichotomy v 0 with h | rfl | h
  · refine (newIntNeg v h (by omega) w).mono ?_
    rintro e w' ⟨rfl, rfl⟩
    have c1 : ((w.alloc (.cells #[.int .u64 (-v)] 86)).alloc (.cells #[.bool true, .slice (some ⟨w.heap.size, 0, none⟩) 1 1] 83)).cell? ⟨w.heap.size + 1, 1, none⟩ = some (.slice (some ⟨w.heap.size, 0, none⟩) 1 1) := cell_new _ _ _ _ _ _ (by simp) rfl
    refine ⟨_, rfl, by omega, ⟨.inr ⟨by omega, h0, h1, ?_, w.heap.size, 0, 1, c1, by omega, ?_⟩, ?_, ?_⟩, ((Below.refl _ _).alloc (Nat.le_refl _) _).alloc (by simp) _⟩
    · rw [show decide (v < 0) = true by simpa using h]; exact cell_new _ _ _ _ _ _ (by simp) rfl
    · rw [if_pos h]; exact cell_old _ _ _ (cell_new _ _ _ _ _ _ rfl rfl)
    · have := heap_alloc_new (w.alloc (.cells #[.int .u64 (-v)] 86)) (.cells #[.bool true, .slice (some ⟨w.heap.size, 0, none⟩) 1 1] 83)
      exact ⟨#[.bool true, .slice (some ⟨w.heap.size, 0, none⟩) 1 1], by rw [← this]; simp⟩
    · intro b o l c hc
      rw [c1] at hc
      cases hc
      exact ⟨_, (Below.heap_alloc _ _ _ (by simp)).trans (heap_alloc_new _ _)⟩
  · refine (newInt0 w).mono ?_
    rintro e w' ⟨rfl, rfl⟩
    have c1 : (w.alloc (.cells #[.bool false, .slice none 0 0] 83)).cell? ⟨w.heap.size, 1, none⟩ = some (.slice none 0 0) := cell_new _ _ _ _ _ _ rfl rfl
    exact ⟨_, rfl, Nat.le_refl _, ⟨.inl ⟨rfl, cell_new _ _ _ _ _ _ rfl rfl, _, _, c1⟩, ⟨_, heap_alloc_new _ _⟩, fun b o l c hc => by rw [c1] at hc; cases hc⟩, (Below.refl _ _).alloc (Nat.le_refl _) _⟩
  · refine (newIntPos v h (by omega) w).mono ?_
    rintro e w' ⟨rfl, rfl⟩
    have c1 : ((w.alloc (.cells #[.int .u64 v] 86)).alloc (.cells #[.bool false, .slice (some ⟨w.heap.size, 0, none⟩) 1 1] 83)).cell? ⟨w.heap.size + 1, 1, none⟩ = some (.slice (some ⟨w.heap.size, 0, none⟩) 1 1) := cell_new _ _ _ _ _ _ (by simp) rfl
    refine ⟨_, rfl, by omega, ⟨.inr ⟨by omega, h0, h1, ?_, w.heap.size, 0, 1, c1, by omega, ?_⟩, ?_, ?_⟩, ((Below.refl _ _).alloc (Nat.le_refl _) _).alloc (by simp) _⟩
    · rw [show decide (v < 0) = false by simp; omega]; exact cell_new _ _ _ _ _ _ (by simp) rfl
    · rw [if_neg (by omega)]; exact cell_old _ _ _ (cell_new _ _ _ _ _ _ rfl rfl)
    · have := heap_alloc_new (w.alloc (.cells #[.int .u64 v] 86)) (.cells #[.bool false, .slice (some ⟨w.heap.size, 0, none⟩) 1 1] 83)
      exact ⟨#[.bool false, .slice (some ⟨w.heap.size, 0, none⟩) 1 1], by rw [← this]; simp⟩
    · intro b o l c hc
      rw [c1] at hc
      cases hc
      exact ⟨_, (Below.heap_alloc _ _ _ (by simp)).trans (heap_alloc_new _ _)⟩
end Go.Proofs.Ybulkduza
