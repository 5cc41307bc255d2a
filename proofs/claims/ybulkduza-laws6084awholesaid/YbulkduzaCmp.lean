/-
  (*math/big.Int).Cmp at values of one word.
-/
import Derived.Test.YbulkduzaAddS
import Derived.LaidEqlPtr
namespace Go.Proofs.Ybulkduza
open Go.RowKit

theorem eql_other {w : World} {X Y : Nat} {cx cy : Array Value} {tx ty : TypeId} (hne : X ≠ Y) (hx : w.heap[X]? = some (.cells cx tx (0, 0))) (hy : w.heap[Y]? = some (.cells cy ty (0, 0))) :
    (binOp .eql 36 (.pointer (some ⟨X, 0, none⟩)) (.pointer (some ⟨Y, 0, none⟩))).run Yba.prog w = .ok (.bool false) w := by
  obtain ⟨j, hj, hs⟩ := Option.map_eq_some_iff.1 (show (Yba.prog.info? 83).map (fun i => i.size) = some 2 by kernel_rfl)
  exact run_eql_ptr_other (P := Yba.prog) w (a := ⟨X, 0, none⟩) (b := ⟨Y, 0, none⟩) Yba.underlying36 hj (by rw [hs]; decide) (by simp [hne]) hx hy

set_option maxRecDepth 100000 in
set_option maxHeartbeats 2000000 in
/-- Unlike signs. -/
theorem cmp_signs (X Y : Nat) (n : Bool) (w : World) (hq : (binOp .eql 36 (.pointer (some ⟨X, 0, none⟩)) (.pointer (some ⟨Y, 0, none⟩))).run Yba.prog w = .ok (.bool false) w)
    (hx0 : w.cell? ⟨X, 0, none⟩ = some (.bool n)) (hy0 : w.cell? ⟨Y, 0, none⟩ = some (.bool (!n))) :
    Calls Yba.prog 10 #[.pointer (some ⟨X, 0, none⟩), .pointer (some ⟨Y, 0, none⟩)] w fun e w' => e = .returned (.int .i64 (if n then -1 else 1)) ∧ ∃ k, w' = w.drewN k := by
  have hbb : (n == !n) = false := by cases n <;> rfl
  go_enter Yba.func10, Yba.ntmps10
  go_wp2_with fail
  go_quiet (fail)
  cases n
  · go_wp2_with fail
    go_ret
    exact ⟨rfl, _, rfl⟩
  · go_wp2_with fail
    go_ret
    exact ⟨rfl, _, rfl⟩
set_option maxRecDepth 100000 in
set_option maxHeartbeats 2000000 in
/-- Like signs. -/
theorem cmp_like (X Y : Nat) (n : Bool) (ax ay : Option Addr) (lx ly cx cy : Nat) (r : Int) (hr : r = -1 ∨ r = 0 ∨ r = 1) (w : World) (hq : (binOp .eql 36 (.pointer (some ⟨X, 0, none⟩)) (.pointer (some ⟨Y, 0, none⟩))).run Yba.prog w = .ok (.bool false) w)
    (hx0 : w.cell? ⟨X, 0, none⟩ = some (.bool n)) (hy0 : w.cell? ⟨Y, 0, none⟩ = some (.bool n)) (hx1 : w.cell? ⟨X, 1, none⟩ = some (.slice ax lx cx)) (hy1 : w.cell? ⟨Y, 1, none⟩ = some (.slice ay ly cy))
    (hcmp : ∀ k, Calls Yba.prog 20 #[.slice ax lx cx, .slice ay ly cy] (w.drewN k) fun e w' => e = .returned (.int .i64 r) ∧ ∃ j, w' = (w.drewN k).drewN j) :
    Calls Yba.prog 10 #[.pointer (some ⟨X, 0, none⟩), .pointer (some ⟨Y, 0, none⟩)] w fun e w' => e = .returned (.int .i64 (if n then -r else r)) ∧ ∃ k, w' = w.drewN k := by
  have hbb : (n == n) = true := by cases n <;> rfl
  have hflat : ∀ a b : Nat, Calls Yba.prog 20 #[.slice ax lx cx, .slice ay ly cy] (w.drewN (a + b)) fun e w'' => e = .returned (.int .i64 r) ∧ ∃ m, w'' = w.drewN (a + m) := fun a b =>
    (hcmp (a + b)).mono fun _ _ ⟨he, j, hj⟩ => ⟨he, b + j, by rw [hj, World.drewN_drewN, Nat.add_assoc]⟩
  go_enter Yba.func10, Yba.ntmps10
  go_wp2_with fail
  go_quiet (fail)
  go_wp2_with fail
  go_quiet (first | (go_at_call 20; refine hflat _ _))
  cases n
  · go_wp2_with fail
    go_ret
    exact ⟨rfl, _, rfl⟩
  · rcases hr with rfl | rfl | rfl
    · go_wp2_with fail
      go_ret
      exact ⟨rfl, _, rfl⟩
    · go_wp2_with fail
      go_ret
      exact ⟨rfl, _, rfl⟩
    · go_wp2_with fail
      go_ret
      exact ⟨rfl, _, rfl⟩
end Go.Proofs.Ybulkduza
