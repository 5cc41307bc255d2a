import Derived.Test.YbulkduwiLens
import Derived.Test.YbulkduwiKey
import Derived.BigRegion
import Derived.Deep.DrawnRows
import Derived.Deep.CutRange
namespace Go.Proofs.Ybulkduwi
open Go.RowKit
attribute [local go_sem ↓] exec_load24 exec_store24 exec_load53 exec_store53 exec_load56 exec_store56 exec_load58 exec_store58 exec_build53 exec_build58 Go.wp_at_zero Go.wp_at_succ
attribute [local go_sem] run_load24 run_load53 run_load56 run_load58 run_store24 run_store53 run_store56 run_store58 arr_new arr_old arr_drew arr_drewN rowOk_new rowOk_old rowOk_drew rowOk_drewN setRow_new setRow_old setRow_drew setRow_drewN alloc_drewN setCell_drewN run_len29 run_len38 mOk_drew mlen_drew mOk_drewN mlen_drewN

theorem B53 (e n p : Int) (h : Array Value) (hh : h.size = 32) (h1 : Ones h) : ∃ a : Array Value,
    (∀ W, (rowBuild 53 #[(0, .int .u64 e), (1, .int .i64 n), (2, .int .u64 p), (5, .agg h)]).run Yba.prog W = .ok (.agg a) W) ∧ a.size = 37 ∧ Ones a ∧
    a[0]? = some (.int .u64 e) ∧ a[1]? = some (.int .i64 n) ∧ a[2]? = some (.int .u64 p) ∧ a[3]? = some (.pointer none) ∧ a[4]? = some (.pointer none) ∧ cut a 5 32 = h := by
  obtain ⟨f, hf⟩ := build53
  exact ⟨f e n p h, hf e n p h hh h1⟩
theorem B58 (g e : Int) (c m : Array Value) (n : Int) (hc : c.size = 32) (hm : m.size = 32) (c1 : Ones c) (m1 : Ones m) : ∃ a : Array Value,
    (∀ W, (rowBuild 58 #[(0, .int .u64 g), (1, .int .u64 e), (2, .agg c), (3, .agg m), (4, .int .i64 n)]).run Yba.prog W = .ok (.agg a) W) ∧ a.size = 67 ∧ Ones a := by
  obtain ⟨f, hf⟩ := build58
  obtain ⟨h1, h2, h3, _⟩ := hf g e c m n hc hm c1 m1
  exact ⟨f g e c m n, h1, h2, h3⟩

theorem set_get (a : Array Value) (i k : Nat) (v : Value) (h : i ≠ k) : (a.setIfInBounds i v)[k]? = a[k]? := Array.getElem?_setIfInBounds_ne h
theorem set_same (a : Array Value) (i : Nat) (v : Value) (h : i < a.size) : (a.setIfInBounds i v)[i]? = some v := by rw [Array.getElem?_setIfInBounds_self]; simp [h]
theorem range_of_arr {W : World} {b o n : Nat} {a c : Array Value} (hW : arr W b = a) (hs : o + n ≤ a.size) (h : cut a o n = c) : W.rangeAt b o c.toList := by
  intro j v hv
  subst hW
  subst h
  have hj := (List.getElem?_eq_some_iff.1 hv).1
  rw [Array.length_toList, size_cut _ _ _ hs] at hj
  rw [Array.getElem?_toList, get_cut _ _ _ _ hs hj] at hv
  rw [arr_cell _ _ _ (by omega)]
  exact hv
/-! Blocks of a world of new blocks. -/
theorem at2_0 (w : World) (a b : Obj) : ((w.alloc a).alloc b).heap[w.heap.size]? = some a := heap_alloc2_old w a b
theorem at3_0 (w : World) (a b c : Obj) : (((w.alloc a).alloc b).alloc c).heap[w.heap.size]? = some a := (Below.heap_alloc _ _ _ (by simp; omega)).trans (at2_0 w a b)
theorem at4_0 (w : World) (a b c d : Obj) : ((((w.alloc a).alloc b).alloc c).alloc d).heap[w.heap.size]? = some a := (Below.heap_alloc _ _ _ (by simp; omega)).trans (at3_0 w a b c)
theorem at3_2 (w : World) (a b c : Obj) : (((w.alloc a).alloc b).alloc c).heap[w.heap.size + 1 + 1]? = some c := by
  have := heap_alloc_new ((w.alloc a).alloc b) c
  simpa using this
theorem at4_2 (w : World) (a b c d : Obj) : ((((w.alloc a).alloc b).alloc c).alloc d).heap[w.heap.size + 1 + 1]? = some c := (Below.heap_alloc _ _ _ (by simp)).trans (at3_2 w a b c)
theorem at4_3 (w : World) (a b c d : Obj) : ((((w.alloc a).alloc b).alloc c).alloc d).heap[w.heap.size + 1 + 1 + 1]? = some d := by
  have := heap_alloc_new (((w.alloc a).alloc b).alloc c) d
  simpa using this

end Go.Proofs.Ybulkduwi
