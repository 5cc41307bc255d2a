import Derived.Test.YbulkduwiFacts
import Derived.Deep.CutRange
namespace Go.Proofs.Ybulkduwi
open Go.RowKit
attribute [local go_sem ↓] exec_load24 exec_store24
attribute [local go_sem] run_load24 run_store24 arr_new arr_old rowOk_new rowOk_old setRow_new setRow_old

/-- The law's own key number i: its first two bytes tell i, its last is 1. -/
def karr (i : Nat) : Array Value := (((Array.replicate 32 (Value.int .u8 0)).setIfInBounds 0 (.int .u8 ((i : Int) % 256))).setIfInBounds 1 (.int .u8 ((i : Int) / 256))).setIfInBounds 31 (.int .u8 1)

theorem Ones.set {a : Array Value} (h : Ones a) (i : Nat) (v : Value) (hv : v.oneCell' = true) : Ones (a.setIfInBounds i v) := by
  intro j u hu
  rw [Array.getElem?_setIfInBounds] at hu
  split at hu
  · split at hu
    · cases hu; exact hv
    · cases hu
  · exact h j u hu

set_option maxRecDepth 100000 in
set_option maxHeartbeats 400000 in
theorem key_any (i : Nat) (hi : i < 65536) (w : World) :
    Calls Yba.prog 4 #[.int .i64 i] w fun e w' => e = .returned (.agg (karr i)) ∧ Below w.heap.size w w' := by
  obtain ⟨z, ⟨zs, hz, z1⟩, hzz⟩ := zero24
  have HZ : Hid (z = Array.replicate 32 (Value.int .u8 0)) := hzz
  clear hzz
  have ks : (((z.setIfInBounds 0 (.int .u8 ((i : Int) % 256))).setIfInBounds 1 (.int .u8 ((i : Int) / 256))).setIfInBounds 31 (.int .u8 1)).size = 32 := by simp [zs]
  have kc := cut_all _ _ ks
  have k1 := ((z1.set 0 (.int .u8 ((i : Int) % 256)) rfl).set 1 (.int .u8 ((i : Int) / 256)) rfl).set 31 (.int .u8 1) rfl
  go_enter Yba.func4, Yba.ntmps4
  go_upto_region 5 with fail
  go_wp2
  refine bodyPost_ret (results_cell_row rfl _ _ w.heap.size 24 _ (0, 0) _ rfl (heap_alloc2_old w _ _) Yba.underlying24 rfl (by rw [ks]; kernel_rfl)) rfl ⟨?_, ((Below.refl _ _).alloc (Nat.le_refl _) _).alloc (by simp) _⟩
  rw [HZ.out]
  rfl
end Go.Proofs.Ybulkduwi
