/-
  math/big.nat's add and sub at no word or one word, into nil.
-/
import Derived.Test.YbulkduzaNat
import Derived.Deep.RegionWith
import Derived.Laws.Alloc2
namespace Go.Proofs.Ybulkduza
open Go.RowKit
theorem setCell_drewN (w : World) (k : Nat) (a : Addr) (v : Value) : (w.drewN k).setCell a v = (w.setCell a v).drewN k := by
  unfold World.setCell; rfl
attribute [local go_sem ↓] exec_make81
attribute [local go_sem] run_word1 run_word2 run_cap81 run_sl_0 run_sl_1 run_sh_1 run_sh_nil run_copy1 setCell_drewN

set_option maxRecDepth 100000 in
set_option maxHeartbeats 1000000 in
theorem add10 (b o c : Nat) (a' : Option Addr) (c' : Nat) (x : Int) (w : World) (hx : w.cell? ⟨b, o, none⟩ = some (.int .u64 x)) :
    Calls Yba.prog 22 #[.slice none 0 0, .slice (some ⟨b, o, none⟩) 1 c, .slice a' 0 c'] w fun e w' => e = .returned (.slice (some ⟨w.heap.size, 0, none⟩) 1 1) ∧ w' = w.alloc (.cells #[.int .u64 x] 86) := by
  go_enter Yba.func22, Yba.ntmps22
  go_wp2_with (go_at_call 25; refine (set1 b o c x _ hx).mono ?_; rintro e w1 ⟨rfl, rfl⟩)
  go_ret
  exact ⟨rfl, rfl⟩
set_option maxRecDepth 100000 in
set_option maxHeartbeats 1000000 in
theorem add01 (b o c : Nat) (a' : Option Addr) (c' : Nat) (x : Int) (w : World) (hx : w.cell? ⟨b, o, none⟩ = some (.int .u64 x)) :
    Calls Yba.prog 22 #[.slice none 0 0, .slice a' 0 c', .slice (some ⟨b, o, none⟩) 1 c] w fun e w' => e = .returned (.slice (some ⟨w.heap.size, 0, none⟩) 1 1) ∧ w' = w.alloc (.cells #[.int .u64 x] 86) := by
  go_enter Yba.func22, Yba.ntmps22
  go_wp2_with (go_at_call 22; refine (add10 b o c a' c' x _ hx).mono ?_; rintro e w1 ⟨rfl, rfl⟩)
  go_ret
  exact ⟨rfl, rfl⟩
set_option maxRecDepth 100000 in
set_option maxHeartbeats 1000000 in
theorem sub10 (b o c : Nat) (a' : Option Addr) (c' : Nat) (x : Int) (w : World) (hx : w.cell? ⟨b, o, none⟩ = some (.int .u64 x)) :
    Calls Yba.prog 23 #[.slice none 0 0, .slice (some ⟨b, o, none⟩) 1 c, .slice a' 0 c'] w fun e w' => e = .returned (.slice (some ⟨w.heap.size, 0, none⟩) 1 1) ∧ w' = w.alloc (.cells #[.int .u64 x] 86) := by
  go_enter Yba.func23, Yba.ntmps23
  go_wp2_with (go_at_call 25; refine (set1 b o c x _ hx).mono ?_; rintro e w1 ⟨rfl, rfl⟩)
  go_ret
  exact ⟨rfl, rfl⟩

set_option maxRecDepth 100000 in
set_option maxHeartbeats 1000000 in
theorem add11 (b o c b' o' c' : Nat) (x y : Int) (w : World) (hx0 : 0 < x) (hy0 : 0 < y) (hxy : x + y < 18446744073709551616) (hx : w.cell? ⟨b, o, none⟩ = some (.int .u64 x)) (hy : w.cell? ⟨b', o', none⟩ = some (.int .u64 y)) (hc : 1 ≤ c) (hc' : 1 ≤ c') :
    Calls Yba.prog 22 #[.slice none 0 0, .slice (some ⟨b, o, none⟩) 1 c, .slice (some ⟨b', o', none⟩) 1 c'] w fun e w' => e = .returned (.slice (some ⟨w.heap.size, 0, none⟩) 1 6) ∧ ∃ k, w' = (w.alloc (.cells #[.int .u64 (x + y), .int .u64 0, .int .u64 0, .int .u64 0, .int .u64 0, .int .u64 0] 86)).drewN k := by
  have c27 := call27
  have hb := World.block_lt_of_cell? w _ hx
  have hb' := World.block_lt_of_cell? w _ hy
  go_enter Yba.func22, Yba.ntmps22
  go_upto_region 10 with (go_at_call 26; refine (make2 _).mono ?_; rintro e w1 ⟨rfl, rfl⟩)
  go_region_with (first | (go_at_call 14; refine (addVV w.heap.size 0 b o b' o' 6 c c' (.int .u64 0) x y (by omega) (by omega) hxy _ (by go_simp) (by go_simp) (by go_simp) (by go_simp)).mono ?_; rintro e w1 ⟨rfl, k1, rfl⟩))
  all_goals
    go_wp2_with (go_at_call 29; refine (norm2 w.heap.size 0 6 (x + y) _ (by omega) (by omega) (by go_simp) (by go_simp)).mono ?_; rintro e w1 ⟨rfl, rfl⟩)
    go_ret
    exact ⟨rfl, 1 + k1, by rw [World.setCell_alloc_new, World.setCell_alloc_new]; rfl⟩

set_option maxRecDepth 100000 in
set_option maxHeartbeats 1000000 in
theorem sub11 (b o c b' o' c' : Nat) (x y : Int) (w : World) (hy0 : 0 < y) (hxy : y ≤ x) (hx1 : x < 18446744073709551616) (hx : w.cell? ⟨b, o, none⟩ = some (.int .u64 x)) (hy : w.cell? ⟨b', o', none⟩ = some (.int .u64 y)) (hc : 1 ≤ c) (hc' : 1 ≤ c') :
    Calls Yba.prog 23 #[.slice none 0 0, .slice (some ⟨b, o, none⟩) 1 c, .slice (some ⟨b', o', none⟩) 1 c'] w fun e w' => e = .returned (.slice (some ⟨w.heap.size, 0, none⟩) (if x - y = 0 then 0 else 1) 1) ∧ ∃ k, w' = (w.alloc (.cells #[.int .u64 (x - y)] 86)).drewN k := by
  have c31 := call31
  have hb := World.block_lt_of_cell? w _ hx
  have hb' := World.block_lt_of_cell? w _ hy
  go_enter Yba.func23, Yba.ntmps23
  go_upto_region 10 with (go_at_call 26; refine (make1 _).mono ?_; rintro e w1 ⟨rfl, rfl⟩)
  go_region_with (first | (go_at_call 15; refine (subVV w.heap.size 0 b o b' o' 1 c c' (.int .u64 0) x y (by omega) (by omega) hx1 _ (by go_simp) (by go_simp) (by go_simp) (by go_simp)).mono ?_; rintro e w1 ⟨rfl, k1, rfl⟩))
  all_goals
    go_wp2_with (go_at_call 29; refine (norm1 w.heap.size 0 1 (x - y) _ (by omega) (by go_simp)).mono ?_; rintro e w1 ⟨rfl, rfl⟩)
  all_goals
    go_ret
    exact ⟨rfl, 1 + k1, by rw [World.setCell_alloc_new]; rfl⟩
end Go.Proofs.Ybulkduza
