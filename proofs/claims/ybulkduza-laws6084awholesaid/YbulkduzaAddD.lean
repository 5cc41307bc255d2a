/-
  (*math/big.Int).Add at values of one word, into a new Int.
-/
import Derived.Test.YbulkduzaAddS
import Derived.Deep.RegionWith
namespace Go.Proofs.Ybulkduza
open Go.RowKit
attribute [local go_sem] setCell_drewN'
theorem quiet_flat {P : Program} {f : FuncId} {args : Array Value} {v : Value} {w : World} (h : ∀ k, Calls P f args (w.drewN k) fun e w' => e = .returned v ∧ ∃ j, w' = (w.drewN k).drewN j) {a b : Nat} :
    Calls P f args (w.drewN (a + b)) fun e w'' => e = .returned v ∧ ∃ m, w'' = w.drewN (a + m) :=
  (h (a + b)).mono fun _ _ ⟨he, j, hj⟩ => ⟨he, b + j, by rw [hj, World.drewN_drewN, Nat.add_assoc]⟩

set_option maxRecDepth 100000 in
set_option maxHeartbeats 2000000 in
theorem intAdd_gt (Z X Y : Nat) (n : Bool) (ax ay : Option Addr) (lx ly cx cy c : Nat) (r : Int) (R : Array Value) (w : World) (hr : 0 ≤ r)
    (hz1 : w.cell? ⟨Z, 1, none⟩ = some (.slice none 0 0)) (hz0 : w.cell? ⟨Z, 0, none⟩ = some (.bool false)) (f0 : w.frozen? ⟨Z, 0, none⟩ = false) (f1 : w.frozen? ⟨Z, 1, none⟩ = false) (lZ : Z < w.heap.size)
    (hx0 : w.cell? ⟨X, 0, none⟩ = some (.bool n)) (hx1 : w.cell? ⟨X, 1, none⟩ = some (.slice ax lx cx)) (hy0 : w.cell? ⟨Y, 0, none⟩ = some (.bool (!n))) (hy1 : w.cell? ⟨Y, 1, none⟩ = some (.slice ay ly cy))
    (hcmp : ∀ k, Calls Yba.prog 20 #[.slice ax lx cx, .slice ay ly cy] (w.drewN k) fun e w' => e = .returned (.int .i64 r) ∧ ∃ j, w' = (w.drewN k).drewN j)
    (hsub : ∀ k, Calls Yba.prog 23 #[.slice none 0 0, .slice ax lx cx, .slice ay ly cy] (w.drewN k) fun e w' => e = .returned (.slice (some ⟨w.heap.size, 0, none⟩) 1 c) ∧ ∃ j, w' = (w.alloc (.cells R 86)).drewN j) :
    Calls Yba.prog 13 #[.pointer (some ⟨Z, 0, none⟩), .pointer (some ⟨X, 0, none⟩), .pointer (some ⟨Y, 0, none⟩)] w fun e w' => e = .returned (.pointer (some ⟨Z, 0, none⟩)) ∧ ∃ k, w' = (((w.alloc (.cells R 86)).setCell ⟨Z, 1, none⟩ (.slice (some ⟨w.heap.size, 0, none⟩) 1 c)).setCell ⟨Z, 0, none⟩ (.bool n)).drewN k := by
  have hbb : (n == !n) = false := by cases n <;> rfl
  have al : ∀ o, Below w.heap.size w (w.alloc o) := fun o => (Below.refl _ _).alloc (Nat.le_refl _) o
  have fa0 : ∀ o, (w.alloc o).frozen? ⟨Z, 0, none⟩ = false := fun o => ((al o).frozen lZ).trans f0
  have fa1 : ∀ o, (w.alloc o).frozen? ⟨Z, 1, none⟩ = false := fun o => ((al o).frozen lZ).trans f1
  have ca0 : ∀ o, (w.alloc o).cell? ⟨Z, 0, none⟩ = some (.bool false) := fun o => ((al o).cell lZ).trans hz0
  have ca1 : ∀ o, (w.alloc o).cell? ⟨Z, 1, none⟩ = some (.slice none 0 0) := fun o => ((al o).cell lZ).trans hz1
  clear al
  have hd : decide (0 ≤ r) = true := by simpa using hr
  go_enter Yba.func13, Yba.ntmps13
  go_wp2_with fail
  go_quiet (fail)
  go_wp2_with fail
  go_quiet (first | (go_at_call 20; refine quiet_flat hcmp))
  go_wp2_with fail
  go_region_with (first | (go_at_call 23; refine (hsub _).mono ?_; rintro e w1 ⟨rfl, k1, rfl⟩))
  all_goals go_wp2_with fail
  all_goals
    go_ret
    exact ⟨rfl, _, rfl⟩

set_option maxRecDepth 100000 in
set_option maxHeartbeats 2000000 in
theorem intAdd_eq (Z X Y : Nat) (n : Bool) (ax ay : Option Addr) (lx ly cx cy c : Nat) (r : Int) (R : Array Value) (w : World) (hr : 0 ≤ r)
    (hz1 : w.cell? ⟨Z, 1, none⟩ = some (.slice none 0 0)) (hz0 : w.cell? ⟨Z, 0, none⟩ = some (.bool false)) (f0 : w.frozen? ⟨Z, 0, none⟩ = false) (f1 : w.frozen? ⟨Z, 1, none⟩ = false) (lZ : Z < w.heap.size)
    (hx0 : w.cell? ⟨X, 0, none⟩ = some (.bool n)) (hx1 : w.cell? ⟨X, 1, none⟩ = some (.slice ax lx cx)) (hy0 : w.cell? ⟨Y, 0, none⟩ = some (.bool (!n))) (hy1 : w.cell? ⟨Y, 1, none⟩ = some (.slice ay ly cy))
    (hcmp : ∀ k, Calls Yba.prog 20 #[.slice ax lx cx, .slice ay ly cy] (w.drewN k) fun e w' => e = .returned (.int .i64 r) ∧ ∃ j, w' = (w.drewN k).drewN j)
    (hsub : ∀ k, Calls Yba.prog 23 #[.slice none 0 0, .slice ax lx cx, .slice ay ly cy] (w.drewN k) fun e w' => e = .returned (.slice (some ⟨w.heap.size, 0, none⟩) 0 c) ∧ ∃ j, w' = (w.alloc (.cells R 86)).drewN j) :
    Calls Yba.prog 13 #[.pointer (some ⟨Z, 0, none⟩), .pointer (some ⟨X, 0, none⟩), .pointer (some ⟨Y, 0, none⟩)] w fun e w' => e = .returned (.pointer (some ⟨Z, 0, none⟩)) ∧ ∃ k, w' = (((w.alloc (.cells R 86)).setCell ⟨Z, 1, none⟩ (.slice (some ⟨w.heap.size, 0, none⟩) 0 c)).setCell ⟨Z, 0, none⟩ (.bool false)).drewN k := by
  have hbb : (n == !n) = false := by cases n <;> rfl
  have al : ∀ o, Below w.heap.size w (w.alloc o) := fun o => (Below.refl _ _).alloc (Nat.le_refl _) o
  have fa0 : ∀ o, (w.alloc o).frozen? ⟨Z, 0, none⟩ = false := fun o => ((al o).frozen lZ).trans f0
  have fa1 : ∀ o, (w.alloc o).frozen? ⟨Z, 1, none⟩ = false := fun o => ((al o).frozen lZ).trans f1
  have ca0 : ∀ o, (w.alloc o).cell? ⟨Z, 0, none⟩ = some (.bool false) := fun o => ((al o).cell lZ).trans hz0
  have ca1 : ∀ o, (w.alloc o).cell? ⟨Z, 1, none⟩ = some (.slice none 0 0) := fun o => ((al o).cell lZ).trans hz1
  clear al
  have hd : decide (0 ≤ r) = true := by simpa using hr
  go_enter Yba.func13, Yba.ntmps13
  go_wp2_with fail
  go_quiet (fail)
  go_wp2_with fail
  go_quiet (first | (go_at_call 20; refine quiet_flat hcmp))
  go_wp2_with fail
  go_region_with (first | (go_at_call 23; refine (hsub _).mono ?_; rintro e w1 ⟨rfl, k1, rfl⟩))
  all_goals go_wp2_with fail
  all_goals
    go_ret
    exact ⟨rfl, _, rfl⟩

set_option maxRecDepth 100000 in
set_option maxHeartbeats 2000000 in
theorem intAdd_lt (Z X Y : Nat) (n : Bool) (ax ay : Option Addr) (lx ly cx cy c : Nat) (r : Int) (R : Array Value) (w : World) (hr : r < 0)
    (hz1 : w.cell? ⟨Z, 1, none⟩ = some (.slice none 0 0)) (hz0 : w.cell? ⟨Z, 0, none⟩ = some (.bool false)) (f0 : w.frozen? ⟨Z, 0, none⟩ = false) (f1 : w.frozen? ⟨Z, 1, none⟩ = false) (lZ : Z < w.heap.size)
    (hx0 : w.cell? ⟨X, 0, none⟩ = some (.bool n)) (hx1 : w.cell? ⟨X, 1, none⟩ = some (.slice ax lx cx)) (hy0 : w.cell? ⟨Y, 0, none⟩ = some (.bool (!n))) (hy1 : w.cell? ⟨Y, 1, none⟩ = some (.slice ay ly cy))
    (hcmp : ∀ k, Calls Yba.prog 20 #[.slice ax lx cx, .slice ay ly cy] (w.drewN k) fun e w' => e = .returned (.int .i64 r) ∧ ∃ j, w' = (w.drewN k).drewN j)
    (hsub : ∀ k, Calls Yba.prog 23 #[.slice none 0 0, .slice ay ly cy, .slice ax lx cx] (w.drewN k) fun e w' => e = .returned (.slice (some ⟨w.heap.size, 0, none⟩) 1 c) ∧ ∃ j, w' = (w.alloc (.cells R 86)).drewN j) :
    Calls Yba.prog 13 #[.pointer (some ⟨Z, 0, none⟩), .pointer (some ⟨X, 0, none⟩), .pointer (some ⟨Y, 0, none⟩)] w fun e w' => e = .returned (.pointer (some ⟨Z, 0, none⟩)) ∧ ∃ k, w' = (((w.alloc (.cells R 86)).setCell ⟨Z, 1, none⟩ (.slice (some ⟨w.heap.size, 0, none⟩) 1 c)).setCell ⟨Z, 0, none⟩ (.bool (!n))).drewN k := by
  have hbb : (n == !n) = false := by cases n <;> rfl
  have al : ∀ o, Below w.heap.size w (w.alloc o) := fun o => (Below.refl _ _).alloc (Nat.le_refl _) o
  have fa0 : ∀ o, (w.alloc o).frozen? ⟨Z, 0, none⟩ = false := fun o => ((al o).frozen lZ).trans f0
  have fa1 : ∀ o, (w.alloc o).frozen? ⟨Z, 1, none⟩ = false := fun o => ((al o).frozen lZ).trans f1
  have ca0 : ∀ o, (w.alloc o).cell? ⟨Z, 0, none⟩ = some (.bool false) := fun o => ((al o).cell lZ).trans hz0
  have ca1 : ∀ o, (w.alloc o).cell? ⟨Z, 1, none⟩ = some (.slice none 0 0) := fun o => ((al o).cell lZ).trans hz1
  clear al
  have hd : decide (0 ≤ r) = false := by simpa using hr
  go_enter Yba.func13, Yba.ntmps13
  go_wp2_with fail
  go_quiet (fail)
  go_wp2_with fail
  go_quiet (first | (go_at_call 20; refine quiet_flat hcmp))
  go_wp2_with fail
  go_region_with (first | (go_at_call 23; refine (hsub _).mono ?_; rintro e w1 ⟨rfl, k1, rfl⟩))
  all_goals go_wp2_with fail
  all_goals
    go_ret
    exact ⟨rfl, _, rfl⟩
end Go.Proofs.Ybulkduza
