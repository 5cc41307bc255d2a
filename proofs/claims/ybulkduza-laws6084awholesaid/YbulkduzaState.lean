/-
  state.New, the law's key.
-/
import Derived.Test.YbulkduzaInt2
namespace Go.Proofs.Ybulkduza
open Go.RowKit

/-- The four keys. -/
def keyOf4 (k : Nat) : ByteArray := if k = 0 then ⟨#[97]⟩ else if k = 1 then ⟨#[98]⟩ else if k = 2 then ⟨#[99]⟩ else ⟨#[100]⟩

set_option maxRecDepth 100000 in
set_option maxHeartbeats 1000000 in
theorem key4 (k : Nat) (hk : k < 4) (w : World) : Calls Yba.prog 6 #[.int .i64 k] w fun e w' => e = .returned (.string (keyOf4 k)) ∧ w' = w := by
  obtain rfl | rfl | rfl | rfl : k = 0 ∨ k = 1 ∨ k = 2 ∨ k = 3 := by omega
  all_goals
    go_enter Yba.func6, Yba.ntmps6
    go_wp2
    go_ret
    exact ⟨rfl, rfl⟩

theorem run_build78 (m : Option Nat) (W : World) : (Instr.build 78 #[(0, .map m)]).run Yba.prog W = .ok (.agg #[.map m]) W := by kernel_rfl
attribute [local go_sem] run_build78
set_option maxRecDepth 100000 in
set_option maxHeartbeats 1000000 in
theorem newState (w : World) : Calls Yba.prog 4 #[] w fun e w' => e = .returned (.pointer (some ⟨w.heap.size + 1, 0, none⟩)) ∧ w' = (w.alloc (.map #[] 0)).alloc (.cells #[.map (some w.heap.size)] 78) := by
  have hmm := @run_makeMap Yba.prog
  go_enter Yba.func4, Yba.ntmps4
  go_wp2
  go_ret
  exact ⟨rfl, rfl⟩
end Go.Proofs.Ybulkduza
