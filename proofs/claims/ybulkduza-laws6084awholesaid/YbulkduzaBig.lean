/-
  math/big.Int at values of one word: NewInt, Sign.
-/
import Derived.Test.YbulkduzaNat
import Derived.Laws.Alloc2
import Derived.Laws.Unary
namespace Go.Proofs.Ybulkduza
open Go.RowKit

theorem run_build83 (n : Bool) (a : Option Addr) (l c : Nat) (W : World) : (Instr.build 83 #[(0, .bool n), (1, .slice a l c)]).run Yba.prog W = .ok (.agg #[.bool n, .slice a l c]) W := by kernel_rfl
theorem wrap_neg (v : Int) (h0 : v < 0) (h1 : -9223372036854775808 < v) : IntKind.u64.wrap (-IntKind.u64.wrap v) = -v := by
  have e : ∀ x : Int, IntKind.u64.wrap x = x % (2 ^ 64 : Int) := fun x => by
    show (if (false && decide (x % (2 ^ 64 : Int) ≥ (2 ^ 63 : Int))) = true then x % (2 ^ 64 : Int) - 2 ^ 64 else x % (2 ^ 64 : Int)) = _
    rw [if_neg (by simp)]
  rw [e, e]; omega
attribute [local go_sem] run_build83

set_option maxRecDepth 100000 in
set_option maxHeartbeats 1000000 in
theorem newInt0 (w : World) : Calls Yba.prog 7 #[.int .i64 0] w fun e w' => e = .returned (.pointer (some ⟨w.heap.size, 0, none⟩)) ∧ w' = w.alloc (.cells #[.bool false, .slice none 0 0] 83) := by
  go_enter Yba.func7, Yba.ntmps7
  go_wp2
  go_ret
  exact ⟨rfl, rfl⟩

theorem wrap_pos (v : Int) (h0 : 0 < v) (h1 : v < 9223372036854775808) : IntKind.u64.wrap v = v := by
  show (if (false && decide (v % (2 ^ 64 : Int) ≥ (2 ^ 63 : Int))) = true then v % (2 ^ 64 : Int) - 2 ^ 64 else v % (2 ^ 64 : Int)) = v
  rw [if_neg (by simp)]
  omega
set_option maxRecDepth 100000 in
set_option maxHeartbeats 1000000 in
theorem newIntPos (v : Int) (h0 : 0 < v) (h1 : v < 9223372036854775808) (w : World) : Calls Yba.prog 7 #[.int .i64 v] w fun e w' => e = .returned (.pointer (some ⟨w.heap.size + 1, 0, none⟩)) ∧ w' = (w.alloc (.cells #[.int .u64 v] 86)).alloc (.cells #[.bool false, .slice (some ⟨w.heap.size, 0, none⟩) 1 1] 83) := by
  have hw := wrap_pos v h0 h1
  have d1 : decide (v < 0) = false := by simp; omega
  have d2 : (v == 0) = false := by simp; omega
  go_enter Yba.func7, Yba.ntmps7
  go_wp2
  go_ret
  exact ⟨rfl, rfl⟩
set_option maxRecDepth 100000 in
set_option maxHeartbeats 1000000 in
theorem newIntNeg (v : Int) (h0 : v < 0) (h1 : -9223372036854775808 < v) (w : World) : Calls Yba.prog 7 #[.int .i64 v] w fun e w' => e = .returned (.pointer (some ⟨w.heap.size + 1, 0, none⟩)) ∧ w' = (w.alloc (.cells #[.int .u64 (-v)] 86)).alloc (.cells #[.bool true, .slice (some ⟨w.heap.size, 0, none⟩) 1 1] 83) := by
  have hw := wrap_neg v h0 h1
  have d1 : decide (v < 0) = true := by simp; omega
  have d2 : (v == 0) = false := by simp; omega
  go_enter Yba.func7, Yba.ntmps7
  go_wp2
  go_ret
  exact ⟨rfl, rfl⟩
set_option maxRecDepth 100000 in
set_option maxHeartbeats 1000000 in
theorem sign0 (P : Nat) (a : Option Addr) (c : Nat) (w : World) (h : w.cell? ⟨P, 1, none⟩ = some (.slice a 0 c)) : Calls Yba.prog 12 #[.pointer (some ⟨P, 0, none⟩)] w fun e w' => e = .returned (.int .i64 0) ∧ w' = w := by
  go_enter Yba.func12, Yba.ntmps12
  go_wp2
  go_ret
  exact ⟨rfl, rfl⟩
set_option maxRecDepth 100000 in
set_option maxHeartbeats 1000000 in
theorem sign1 (P : Nat) (a : Option Addr) (c : Nat) (n : Bool) (w : World) (h0 : w.cell? ⟨P, 0, none⟩ = some (.bool n)) (h : w.cell? ⟨P, 1, none⟩ = some (.slice a 1 c)) : Calls Yba.prog 12 #[.pointer (some ⟨P, 0, none⟩)] w fun e w' => e = .returned (.int .i64 (if n then -1 else 1)) ∧ w' = w := by
  cases n
  · go_enter Yba.func12, Yba.ntmps12
    go_wp2
    go_ret
    exact ⟨rfl, rfl⟩
  · go_enter Yba.func12, Yba.ntmps12
    go_wp2
    go_ret
    exact ⟨rfl, rfl⟩
end Go.Proofs.Ybulkduza
