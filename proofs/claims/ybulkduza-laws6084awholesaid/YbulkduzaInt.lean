/-
  A big.Int of one word at most; one contract of Add.
-/
import Derived.Test.YbulkduzaAddD
import Derived.Test.YbulkduzaCmp
import Derived.Test.YbulkduzaNat2
namespace Go.Proofs.Ybulkduza
open Go.RowKit

/-- The pointer's Int holds v. -/
def BigAt (w : World) (P : Nat) (v : Int) : Prop :=
  (v = 0 ∧ w.cell? ⟨P, 0, none⟩ = some (.bool false) ∧ ∃ a c, w.cell? ⟨P, 1, none⟩ = some (.slice a 0 c)) ∨
  (v ≠ 0 ∧ -4611686018427387904 < v ∧ v < 4611686018427387904 ∧ w.cell? ⟨P, 0, none⟩ = some (.bool (decide (v < 0))) ∧ ∃ b o c, w.cell? ⟨P, 1, none⟩ = some (.slice (some ⟨b, o, none⟩) 1 c) ∧ 1 ≤ c ∧ w.cell? ⟨b, o, none⟩ = some (.int .u64 (if v < 0 then -v else v)))

theorem alloc_drewN' (w : World) (k : Nat) (o : Obj) : (w.drewN k).alloc o = (w.alloc o).drewN k := by
  unfold World.alloc; rfl

/-- What Add leaves: a new row of words, the Int's two cells. -/
def Added (w w' : World) (Z : Nat) (v : Int) : Prop := ∃ (R : Array Value) (l c k : Nat), w' = (((w.alloc (.cells R 86)).setCell ⟨Z, 1, none⟩ (.slice (some ⟨w.heap.size, 0, none⟩) l c)).setCell ⟨Z, 0, none⟩ (.bool (decide (v < 0)))).drewN k ∧
  ((v = 0 ∧ l = 0) ∨ (v ≠ 0 ∧ l = 1 ∧ 1 ≤ c ∧ R[0]? = some (.int .u64 (if v < 0 then -v else v))))

/-- Like signs: the words add. -/
theorem add_like (Z X Y b1 o1 c1 b2 o2 c2 : Nat) (n : Bool) (p q v : Int) (w : World) (hZ0 : w.cell? ⟨Z, 0, none⟩ = some (.bool false)) (hZ1 : w.cell? ⟨Z, 1, none⟩ = some (.slice none 0 0)) (f0 : w.frozen? ⟨Z, 0, none⟩ = false) (f1 : w.frozen? ⟨Z, 1, none⟩ = false) (lZ : Z < w.heap.size)
    (xn : w.cell? ⟨X, 0, none⟩ = some (.bool n)) (xs : w.cell? ⟨X, 1, none⟩ = some (.slice (some ⟨b1, o1, none⟩) 1 c1)) (xc : 1 ≤ c1) (xw : w.cell? ⟨b1, o1, none⟩ = some (.int .u64 p))
    (yn : w.cell? ⟨Y, 0, none⟩ = some (.bool n)) (ys : w.cell? ⟨Y, 1, none⟩ = some (.slice (some ⟨b2, o2, none⟩) 1 c2)) (yc : 1 ≤ c2) (yw : w.cell? ⟨b2, o2, none⟩ = some (.int .u64 q))
    (hp : 0 < p) (hq : 0 < q) (hpq : p + q < 18446744073709551616) (hn : decide (v < 0) = n) (hv : (if v < 0 then -v else v) = p + q) :
    Calls Yba.prog 13 #[.pointer (some ⟨Z, 0, none⟩), .pointer (some ⟨X, 0, none⟩), .pointer (some ⟨Y, 0, none⟩)] w fun e w' => e = .returned (.pointer (some ⟨Z, 0, none⟩)) ∧ Added w w' Z v := by
  refine (intAdd_same Z X Y n _ _ 1 1 c1 c2 6 #[.int .u64 (p + q), .int .u64 0, .int .u64 0, .int .u64 0, .int .u64 0, .int .u64 0] w hZ1 hZ0 f0 f1 lZ xn xs yn ys
    (fun k => (add11 b1 o1 c1 b2 o2 c2 p q (w.drewN k) hp hq hpq xw yw xc yc).mono fun _ _ ⟨he, j, hw⟩ => ⟨he, k + j, by rw [hw, alloc_drewN', World.drewN_drewN]⟩)).mono ?_
  rintro e w' ⟨rfl, k, rfl⟩
  refine ⟨rfl, _, 1, 6, k, by rw [hn], .inr ⟨?_, rfl, by omega, by rw [hv]; rfl⟩⟩
  intro h0
  rw [h0] at hv
  simp at hv
  omega
/-- Unlike signs: the words subtract. -/
theorem add_unlike (Z X Y b1 o1 c1 b2 o2 c2 : Nat) (n : Bool) (p q v : Int) (w : World) (hZ0 : w.cell? ⟨Z, 0, none⟩ = some (.bool false)) (hZ1 : w.cell? ⟨Z, 1, none⟩ = some (.slice none 0 0)) (f0 : w.frozen? ⟨Z, 0, none⟩ = false) (f1 : w.frozen? ⟨Z, 1, none⟩ = false) (lZ : Z < w.heap.size)
    (xn : w.cell? ⟨X, 0, none⟩ = some (.bool n)) (xs : w.cell? ⟨X, 1, none⟩ = some (.slice (some ⟨b1, o1, none⟩) 1 c1)) (xc : 1 ≤ c1) (xw : w.cell? ⟨b1, o1, none⟩ = some (.int .u64 p))
    (yn : w.cell? ⟨Y, 0, none⟩ = some (.bool (!n))) (ys : w.cell? ⟨Y, 1, none⟩ = some (.slice (some ⟨b2, o2, none⟩) 1 c2)) (yc : 1 ≤ c2) (yw : w.cell? ⟨b2, o2, none⟩ = some (.int .u64 q))
    (hp : 0 < p) (hq : 0 < q) (hp1 : p < 18446744073709551616) (hq1 : q < 18446744073709551616) (hv : v = if n then q - p else p - q) :
    Calls Yba.prog 13 #[.pointer (some ⟨Z, 0, none⟩), .pointer (some ⟨X, 0, none⟩), .pointer (some ⟨Y, 0, none⟩)] w fun e w' => e = .returned (.pointer (some ⟨Z, 0, none⟩)) ∧ Added w w' Z v := by
  have hc := fun k => cmp11 b1 o1 c1 b2 o2 c2 p q (w.drewN k) xw yw
  rcases Int.lt_trichotomy p q with h | h | h
  · rw [if_pos h] at hc
    have hs := fun k => (sub11 b2 o2 c2 b1 o1 c1 q p (w.drewN k) hp (by omega) hq1 yw xw yc xc)
    simp only [if_neg (show ¬ q - p = 0 by omega)] at hs
    refine (intAdd_lt Z X Y n _ _ 1 1 c1 c2 1 (-1) #[.int .u64 (q - p)] w (by omega) hZ1 hZ0 f0 f1 lZ xn xs yn ys hc (fun k => (hs k).mono fun _ _ ⟨he, j, hw⟩ => ⟨he, k + j, by rw [hw, alloc_drewN', World.drewN_drewN]⟩)).mono ?_
    rintro e w' ⟨rfl, k, rfl⟩
    have hneg : decide (v < 0) = !n := by cases n <;> simp at hv ⊢ <;> omega
    refine ⟨rfl, _, 1, 1, k, by rw [hneg], .inr ⟨by cases n <;> simp at hv <;> omega, rfl, by omega, ?_⟩⟩
    have : (if v < 0 then -v else v) = q - p := by cases n <;> simp at hv <;> split <;> omega
    rw [this]; rfl
  · rw [if_neg (by omega), if_neg (by omega)] at hc
    have hs := fun k => (sub11 b1 o1 c1 b2 o2 c2 p q (w.drewN k) hq (by omega) hp1 xw yw xc yc)
    simp only [if_pos (show p - q = 0 by omega)] at hs
    refine (intAdd_eq Z X Y n _ _ 1 1 c1 c2 1 0 #[.int .u64 (p - q)] w (by omega) hZ1 hZ0 f0 f1 lZ xn xs yn ys hc (fun k => (hs k).mono fun _ _ ⟨he, j, hw⟩ => ⟨he, k + j, by rw [hw, alloc_drewN', World.drewN_drewN]⟩)).mono ?_
    rintro e w' ⟨rfl, k, rfl⟩
    have h0 : v = 0 := by cases n <;> simp at hv <;> omega
    exact ⟨rfl, _, 0, 1, k, by rw [h0]; rfl, .inl ⟨h0, rfl⟩⟩
  · rw [if_neg (by omega), if_pos h] at hc
    have hs := fun k => (sub11 b1 o1 c1 b2 o2 c2 p q (w.drewN k) hq (by omega) hp1 xw yw xc yc)
    simp only [if_neg (show ¬ p - q = 0 by omega)] at hs
    refine (intAdd_gt Z X Y n _ _ 1 1 c1 c2 1 1 #[.int .u64 (p - q)] w (by omega) hZ1 hZ0 f0 f1 lZ xn xs yn ys hc (fun k => (hs k).mono fun _ _ ⟨he, j, hw⟩ => ⟨he, k + j, by rw [hw, alloc_drewN', World.drewN_drewN]⟩)).mono ?_
    rintro e w' ⟨rfl, k, rfl⟩
    have hneg : decide (v < 0) = n := by cases n <;> simp at hv ⊢ <;> omega
    refine ⟨rfl, _, 1, 1, k, by rw [hneg], .inr ⟨by cases n <;> simp at hv <;> omega, rfl, by omega, ?_⟩⟩
    have : (if v < 0 then -v else v) = p - q := by cases n <;> simp at hv <;> split <;> omega
    rw [this]; rfl

theorem intAdd (Z X Y : Nat) (x y : Int) (w : World) (hZ0 : w.cell? ⟨Z, 0, none⟩ = some (.bool false)) (hZ1 : w.cell? ⟨Z, 1, none⟩ = some (.slice none 0 0)) (f0 : w.frozen? ⟨Z, 0, none⟩ = false) (f1 : w.frozen? ⟨Z, 1, none⟩ = false)
    (hX : BigAt w X x) (hY : BigAt w Y y) (hy0 : y ≠ 0) (hb : -4611686018427387904 < x + y ∧ x + y < 4611686018427387904) :
    Calls Yba.prog 13 #[.pointer (some ⟨Z, 0, none⟩), .pointer (some ⟨X, 0, none⟩), .pointer (some ⟨Y, 0, none⟩)] w fun e w' => e = .returned (.pointer (some ⟨Z, 0, none⟩)) ∧ Added w w' Z (x + y) := by
  have lZ := World.block_lt_of_cell? w _ hZ0
  rcases hY with ⟨h, _⟩ | ⟨_, y1, y2, yn, b2, o2, c2, ys, yc, yw⟩
  · exact absurd h hy0
  rcases hX with ⟨rfl, xn, a1, c1, xs⟩ | ⟨x0, x1, x2, xn, b1, o1, c1, xs, xc, xw⟩
  · rw [Int.zero_add]
    by_cases hs : y < 0
    · rw [if_pos hs] at yw
      rw [show decide (y < 0) = true by simpa using hs] at yn
      refine (intAdd_lt Z X Y false a1 _ 0 1 c1 c2 1 (-1) #[.int .u64 (-y)] w (by omega) hZ1 hZ0 f0 f1 lZ xn xs yn ys (fun k => (cmp01 a1 c1 _ c2 (w.drewN k)).mono fun _ _ ⟨he, hw⟩ => ⟨he, 0, hw⟩)
        (fun k => (sub10 b2 o2 c2 a1 c1 (-y) (w.drewN k) yw).mono fun _ _ ⟨he, hw⟩ => ⟨he, k, hw.trans (alloc_drewN' _ _ _)⟩)).mono ?_
      rintro e w' ⟨rfl, k, rfl⟩
      exact ⟨rfl, _, 1, 1, k, by rw [show decide (y < 0) = true by simpa using hs]; rfl, .inr ⟨hy0, rfl, by omega, by rw [if_pos hs]; rfl⟩⟩
    · rw [if_neg hs] at yw
      rw [show decide (y < 0) = false by simpa using hs] at yn
      refine (intAdd_same Z X Y false a1 _ 0 1 c1 c2 1 #[.int .u64 y] w hZ1 hZ0 f0 f1 lZ xn xs yn ys
        (fun k => (add01 b2 o2 c2 a1 c1 y (w.drewN k) yw).mono fun _ _ ⟨he, hw⟩ => ⟨he, k, hw.trans (alloc_drewN' _ _ _)⟩)).mono ?_
      rintro e w' ⟨rfl, k, rfl⟩
      exact ⟨rfl, _, 1, 1, k, by rw [show decide (y < 0) = false by simpa using hs], .inr ⟨hy0, rfl, by omega, by rw [if_neg hs]; rfl⟩⟩
  · by_cases hx : x < 0
    · rw [if_pos hx] at xw
      rw [show decide (x < 0) = true by simpa using hx] at xn
      by_cases hs : y < 0
      · rw [if_pos hs] at yw
        rw [show decide (y < 0) = true by simpa using hs] at yn
        exact add_like Z X Y b1 o1 c1 b2 o2 c2 true (-x) (-y) _ w hZ0 hZ1 f0 f1 lZ xn xs xc xw yn ys yc yw (by omega) (by omega) (by omega) (by simp; omega) (by rw [if_pos (by omega)]; omega)
      · rw [if_neg hs] at yw
        rw [show decide (y < 0) = false by simpa using hs] at yn
        exact add_unlike Z X Y b1 o1 c1 b2 o2 c2 true (-x) y _ w hZ0 hZ1 f0 f1 lZ xn xs xc xw yn ys yc yw (by omega) (by omega) (by omega) (by omega) (by simp; omega)
    · rw [if_neg hx] at xw
      rw [show decide (x < 0) = false by simpa using hx] at xn
      by_cases hs : y < 0
      · rw [if_pos hs] at yw
        rw [show decide (y < 0) = true by simpa using hs] at yn
        exact add_unlike Z X Y b1 o1 c1 b2 o2 c2 false x (-y) _ w hZ0 hZ1 f0 f1 lZ xn xs xc xw yn ys yc yw (by omega) (by omega) (by omega) (by omega) (by simp)
      · rw [if_neg hs] at yw
        rw [show decide (y < 0) = false by simpa using hs] at yn
        exact add_like Z X Y b1 o1 c1 b2 o2 c2 false x y _ w hZ0 hZ1 f0 f1 lZ xn xs xc xw yn ys yc yw (by omega) (by omega) (by omega) (by simp; omega) (by rw [if_neg (by omega)])
end Go.Proofs.Ybulkduza
