import Derived.Test.YbulkduzaAdded
namespace Go.Proofs.Ybulkduza
open Go.RowKit
set_option maxRecDepth 100000 in
set_option maxHeartbeats 1000000 in
theorem stAdd_zero (S Y : Nat) (key : ByteArray) (w : World) (hY : BigAt w Y 0) : Calls Yba.prog 5 #[.pointer (some ⟨S, 0, none⟩), .string key, .pointer (some ⟨Y, 0, none⟩)] w fun e w' => e = .returned (.tuple #[]) ∧ w' = w := by
  have hs := signOf Y 0 w hY
  rw [if_pos rfl] at hs
  go_enter Yba.func5, Yba.ntmps5
  go_wp2_with (go_at_call 12; refine hs.mono ?_; rintro e w1 ⟨rfl, rfl⟩)
  exact bodyPost_ret (results_none rfl _ _ _) rfl ⟨rfl, rfl⟩
end Go.Proofs.Ybulkduza
