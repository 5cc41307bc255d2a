/-
  math/bits.Add, Sub, math/big.addVV_g, subVV_g at one word.
-/
import Derived.Test.YbulkduzaChecked
import Derived.ProofKit
import Derived.Below
import Derived.Laws.Twins
import Derived.Laws.Externs
import Derived.Shelf.Spec.BitsCarry
import Derived.BigQuiet
import Derived.Deep.DeepCutAuto
import Derived.Deep.LoopGhost
import Derived.LoopN
import Derived.Deep.Draws
namespace Go.Proofs.Ybulkduza
open Go.RowKit

theorem call27 (args : Array Value) (w : World) : (callFunc 27 args).run Yba.prog w = .ok (.enter 14 args) w :=
  run_callFunc_twin (twin := "math/big.addVV_g") Yba.func27 (by kernel_rfl) (by kernel_rfl) (by kernel_rfl) (by kernel_rfl) Yba.func14 (by kernel_rfl) (by kernel_rfl) (by kernel_rfl) args w
theorem call31 (args : Array Value) (w : World) : (callFunc 31 args).run Yba.prog w = .ok (.enter 15 args) w :=
  run_callFunc_twin (twin := "math/big.subVV_g") Yba.func31 (by kernel_rfl) (by kernel_rfl) (by kernel_rfl) (by kernel_rfl) Yba.func15 (by kernel_rfl) (by kernel_rfl) (by kernel_rfl) args w

theorem call35 (x y : Int) (hx : 0 ≤ x) (hy : 0 ≤ y) (h : x + y < 18446744073709551616) (w : World) : (callFunc 35 #[.int .u64 x, .int .u64 y, .int .u64 0]).run Yba.prog w = .ok (.value (.tuple #[.int .u64 (x + y), .int .u64 0])) w := by
  rw [run_callFunc_extern Yba.func35 (by kernel_rfl) (by kernel_rfl) (by kernel_rfl) (e := add64Entry) (by kernel_rfl), run_add64 (P := Yba.prog) x y 0 hx hy (by omega) (by omega) w,
    show (x + y + 0) % 18446744073709551616 = x + y by omega, show (x + y + 0) / 18446744073709551616 = 0 by omega]
  rfl
theorem call37 (x y : Int) (hx : 0 ≤ y) (hy : y ≤ x) (h : x < 18446744073709551616) (w : World) : (callFunc 37 #[.int .u64 x, .int .u64 y, .int .u64 0]).run Yba.prog w = .ok (.value (.tuple #[.int .u64 (x - y), .int .u64 0])) w := by
  obtain ⟨a, rfl⟩ := Int.eq_ofNat_of_zero_le (show 0 ≤ x by omega)
  obtain ⟨b, rfl⟩ := Int.eq_ofNat_of_zero_le hx
  rw [run_callFunc_extern Yba.func37 (by kernel_rfl) (by kernel_rfl) (by kernel_rfl) (e := sub64Entry) (by kernel_rfl)]
  have e := run_sub64 (P := Yba.prog) a b 0 (by omega) w
  rw [show ((0 : Nat) : Int) = 0 from rfl] at e
  rw [e, show ((a + 18446744073709551616 - b - 0) % 18446744073709551616 : Nat) = a - b by omega, if_neg (by omega)]
  show Result.ok _ _ = _
  rw [show (((a - b : Nat)) : Int) = (a : Int) - b by omega]
  rfl

set_option maxHeartbeats 400000 in
theorem bits_add (x y : Int) (hx : 0 ≤ x) (hy : 0 ≤ y) (h : x + y < 18446744073709551616) (w : World) :
    Calls Yba.prog 30 #[.int .u64 x, .int .u64 y, .int .u64 0] w fun e w' => e = .returned (.tuple #[.int .u64 (x + y), .int .u64 0]) ∧ w' = w := by
  have c := call35 x y hx hy h
  go_enter Yba.func30, Yba.ntmps30
  go_wp2
  go_ret2
  exact ⟨rfl, rfl⟩
set_option maxHeartbeats 400000 in
theorem bits_sub (x y : Int) (hx : 0 ≤ y) (hy : y ≤ x) (h : x < 18446744073709551616) (w : World) :
    Calls Yba.prog 33 #[.int .u64 x, .int .u64 y, .int .u64 0] w fun e w' => e = .returned (.tuple #[.int .u64 (x - y), .int .u64 0]) ∧ w' = w := by
  have c := call37 x y hx hy h
  go_enter Yba.func33, Yba.ntmps33
  go_wp2
  go_ret2
  exact ⟨rfl, rfl⟩

set_option maxHeartbeats 1000000 in
/-- One word to one word, no carry. -/
theorem addVV (b o bx ox b2 oy cz cx cy : Nat) (z0 : Value) (x y : Int) (hx : 0 ≤ x) (hy : 0 ≤ y) (h : x + y < 18446744073709551616) (w : World) (hz : w.cell? ⟨b, o, none⟩ = some z0) (hfz : w.frozen? ⟨b, o, none⟩ = false)
    (hcx : w.cell? ⟨bx, ox, none⟩ = some (.int .u64 x)) (hcy : w.cell? ⟨b2, oy, none⟩ = some (.int .u64 y)) :
    Calls Yba.prog 14 #[.slice (some ⟨b, o, none⟩) 1 cz, .slice (some ⟨bx, ox, none⟩) 1 cx, .slice (some ⟨b2, oy, none⟩) 1 cy] w fun e w' => e = .returned (.int .u64 0) ∧ ∃ k, w' = (w.drewN k).setCell ⟨b, o, none⟩ (.int .u64 (x + y)) := by
  go_enter Yba.func14, Yba.ntmps14
  go_wp2_with fail
  refine wp_loop_rounds 2 ?_
  rw [rounds_succ]
  go_wp2_with fail
  go_quiet (first | (go_at_call 30; refine Calls.quiet_of_same (bits_add x y hx hy h _)))
  go_wp2_with fail
  rw [rounds_succ]
  go_wp2_with fail
  go_ret
  exact ⟨rfl, _, rfl⟩
set_option maxHeartbeats 1000000 in
/-- One word to one word, no carry. -/
theorem subVV (b o bx ox b2 oy cz cx cy : Nat) (z0 : Value) (x y : Int) (hx : 0 ≤ y) (hy : y ≤ x) (h : x < 18446744073709551616) (w : World) (hz : w.cell? ⟨b, o, none⟩ = some z0) (hfz : w.frozen? ⟨b, o, none⟩ = false)
    (hcx : w.cell? ⟨bx, ox, none⟩ = some (.int .u64 x)) (hcy : w.cell? ⟨b2, oy, none⟩ = some (.int .u64 y)) :
    Calls Yba.prog 15 #[.slice (some ⟨b, o, none⟩) 1 cz, .slice (some ⟨bx, ox, none⟩) 1 cx, .slice (some ⟨b2, oy, none⟩) 1 cy] w fun e w' => e = .returned (.int .u64 0) ∧ ∃ k, w' = (w.drewN k).setCell ⟨b, o, none⟩ (.int .u64 (x - y)) := by
  go_enter Yba.func15, Yba.ntmps15
  go_wp2_with fail
  refine wp_loop_rounds 2 ?_
  rw [rounds_succ]
  go_wp2_with fail
  go_quiet (first | (go_at_call 33; refine Calls.quiet_of_same (bits_sub x y hx hy h _)))
  go_wp2_with fail
  rw [rounds_succ]
  go_wp2_with fail
  go_ret
  exact ⟨rfl, _, rfl⟩
end Go.Proofs.Ybulkduza
