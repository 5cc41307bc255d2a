/-
  Keys of Accepted and Pending; what the readings of a digest, of an Accepted, of the proposal's data give the walk.
-/
import Derived.Test.YbulkduwiMade
import Derived.OpenShut
import Derived.Deep.Slices
import Derived.Deep.Strs
import Derived.Lib.SmallJoins
namespace Go.Proofs.Ybulkduwi
open Go.RowKit

theorem cells56 : Yba.prog.cellsOf 56 = 34 := by kernel_rfl
theorem cells58 : Yba.prog.cellsOf 58 = 67 := by kernel_rfl
theorem cells28 : Yba.prog.cellsOf 28 = 66 := by kernel_rfl

theorem seg24 (d : Nat) (a : Array Value) (o : Nat) (hs : o + 32 ≤ a.size) (h : U8s a o 32) : (Yba.prog.keyLits (d + 2) 24 ((a.toList.drop o).take 32)).isSome = true := by
  refine kl_24 d _ (by simp; omega) fun k hk => ?_
  obtain ⟨m, hm, hw⟩ := h k hk
  refine ⟨m, ?_, hw⟩
  rw [List.getElem?_take, if_pos hk, List.getElem?_drop]
  simpa using hm
theorem seg_int (d : Nat) (a : Array Value) (o : Nat) (t : TypeId) (q : IntKind) (ht : Yba.prog.underlying t = some (.int q)) (h : ∃ m, a[o]? = some (.int q m) ∧ (Lit.int q m).wf = true) : (Yba.prog.keyLits (d + 1) t ((a.toList.drop o).take 1)).isSome = true := by
  obtain ⟨m, hm, hw⟩ := h
  rw [take_one a o _ hm]
  exact kl_int d t q m ht hw

theorem key56 (a : Array Value) (hs : a.size = 34) (h0 : U64 a 0) (h1 : U64 a 1) (h2 : U8s a 2 32) : (keyOf Yba.prog 56 (.agg a)).isSome = true := by
  have e : Yba.prog.keyType 56 = true := by kernel_rfl
  have f : Value.formed Yba.prog 56 (.agg a) = true := by simp [Value.formed, Yba.underlying56, cells56, hs]
  unfold keyOf
  rw [Yba.underlying56]
  simp only [e, f, Bool.and_self, if_true, Option.isSome_map, size_types, Value.cells]
  unfold Program.keyLits
  rw [Yba.underlying56]
  simp only [cells56]
  rw [if_pos ⟨by simpa using hs, by kernel_rfl⟩, Option.isSome_map]
  refine mapM_some fun g hg => ?_
  simp only [List.mem_cons, List.not_mem_nil, or_false] at hg
  rcases hg with rfl | rfl | rfl
  · simp only [cells22]; exact seg_int 99 a 0 22 .u64 Yba.underlying22 h0
  · simp only [cells22]; exact seg_int 99 a 1 22 .u64 Yba.underlying22 h1
  · simp only [cells24]; exact seg24 98 a 2 (by omega) h2

theorem key58 (a : Array Value) (hs : a.size = 67) (h0 : U64 a 0) (h1 : U64 a 1) (h2 : U8s a 2 32) (h3 : U8s a 34 32) (h4 : I64 a 66) : (keyOf Yba.prog 58 (.agg a)).isSome = true := by
  have e : Yba.prog.keyType 58 = true := by kernel_rfl
  have f : Value.formed Yba.prog 58 (.agg a) = true := by simp [Value.formed, Yba.underlying58, cells58, hs]
  unfold keyOf
  rw [Yba.underlying58]
  simp only [e, f, Bool.and_self, if_true, Option.isSome_map, size_types, Value.cells]
  unfold Program.keyLits
  rw [Yba.underlying58]
  simp only [cells58]
  rw [if_pos ⟨by simpa using hs, by kernel_rfl⟩, Option.isSome_map]
  refine mapM_some fun g hg => ?_
  simp only [List.mem_cons, List.not_mem_nil, or_false] at hg
  rcases hg with rfl | rfl | rfl | rfl | rfl
  · simp only [cells22]; exact seg_int 99 a 0 22 .u64 Yba.underlying22 h0
  · simp only [cells22]; exact seg_int 99 a 1 22 .u64 Yba.underlying22 h1
  · simp only [cells24]; exact seg24 98 a 2 (by omega) h2
  · simp only [cells24]; exact seg24 98 a 34 (by omega) h3
  · simp only [cells3]; exact seg_int 99 a 66 3 .i64 Yba.underlying3 h4

theorem neq24 (a : Array Value) (hs : a.size = 32) (h : U8s a 0 32) (W : World) : (binOp .neq 24 (.agg a) (.agg a)).run Yba.prog W = .ok (.bool false) W :=
  neq_self W (m := 5) (by omega) (by kernel_rfl) (by kernel_rfl) (key24 a hs h)
theorem neq56 (a : Array Value) (hs : a.size = 34) (h0 : U64 a 0) (h1 : U64 a 1) (h2 : U8s a 2 32) (W : World) : (binOp .neq 56 (.agg a) (.agg a)).run Yba.prog W = .ok (.bool false) W :=
  neq_self W (m := 5) (by omega) (by kernel_rfl) (by kernel_rfl) (key56 a hs h0 h1 h2)
theorem neq58 (a : Array Value) (hs : a.size = 67) (h0 : U64 a 0) (h1 : U64 a 1) (h2 : U8s a 2 32) (h3 : U8s a 34 32) (h4 : I64 a 66) (W : World) : (binOp .neq 58 (.agg a) (.agg a)).run Yba.prog W = .ok (.bool false) W :=
  neq_self W (m := 5) (by omega) (by kernel_rfl) (by kernel_rfl) (key58 a hs h0 h1 h2 h3 h4)

/-! Bytes of a cut. -/
theorem u8s_cut {a : Array Value} {o n : Nat} (h : U8s a o n) (hs : o + n ≤ a.size) : U8s (cut a o n) 0 n := fun k hk => by
  obtain ⟨m, hm, hw⟩ := h k hk
  exact ⟨m, by rw [Nat.zero_add, get_cut _ _ _ _ hs hk]; exact hm, hw⟩
theorem u8s_of_cut {a c : Array Value} {o n : Nat} (hc : cut a o n = c) (hs : o + n ≤ a.size) (h : U8s c 0 n) : U8s a o n := fun k hk => by
  obtain ⟨m, hm, hw⟩ := h k hk
  rw [Nat.zero_add, ← hc, get_cut _ _ _ _ hs hk] at hm
  exact ⟨m, hm, hw⟩

/-- The literal that Status answers with is equal to itself. -/
theorem nq58 (p0 e : Int) (c m : Array Value) (k : Nat) (pA : Array Value) (w0 : (Lit.int .u64 p0).wf = true) (we : (Lit.int .u64 e).wf = true) (hc : c.size = 32) (hm : m.size = 32) (c1 : Ones c) (m1 : Ones m) (cu : U8s c 0 32) (mu : U8s m 0 32) (hk : k < 65536)
    (hb : ∀ W, (rowBuild 58 #[(0, .int .u64 p0), (1, .int .u64 e), (2, .agg c), (3, .agg m), (4, .int .i64 k)]).run Yba.prog W = .ok (.agg pA) W) (W : World) : (binOp .neq 58 (.agg pA) (.agg pA)).run Yba.prog W = .ok (.bool false) W := by
  obtain ⟨f, hf⟩ := build58
  obtain ⟨b1, b2, b3, b4, b5, b6, b7, b8⟩ := hf p0 e c m k hc hm c1 m1
  have : f p0 e c m k = pA := by have := (b1 W).symm.trans (hb W); simpa using this
  rw [this] at b2 b3 b4 b5 b6 b7 b8
  refine neq58 pA b2 ⟨_, b4, w0⟩ ⟨_, b5, we⟩ (u8s_of_cut b6 (by omega) cu) (u8s_of_cut b7 (by omega) mu) ⟨_, b8, ?_⟩ W
  simp [Lit.wf, IntKind.min, IntKind.max, IntKind.signed, IntKind.bits]; omega

section
variable {H : Type} {enc : TypeId × Value → H} {w : World} {base : Nat} {spare : Nat → Bool} {held : Bool} {fuel : Nat} {cs : List Value} {x : DataW H × List MemPlace}
theorem open24 (h : DataW.trod enc Yba.prog w base spare held fuel 24 cs = some x) : cs.length = 32 ∧ ∀ k, k < 32 → ∃ m, cs[k]? = some (.int .u8 m) ∧ (Lit.int .u8 m).wf = true := by
  obtain ⟨xs, m, _, _, hl, hxl, hx⟩ := DataW.trod_array Yba.underlying24 h
  rw [cells24] at hl
  refine ⟨hl, fun k hk => ?_⟩
  have hx := hx k hk
  rw [cells5, Nat.mul_one] at hx
  have hk' : k < xs.length := by omega
  rw [List.getElem?_eq_getElem hk'] at hx
  obtain ⟨n, hn, _, hw⟩ := DataW.trod_int Yba.underlying5 hx
  refine ⟨n, ?_, hw⟩
  have : ((cs.drop k).take 1)[0]? = some (.int .u8 n) := by rw [hn]; rfl
  rw [List.getElem?_take, if_pos (by omega), List.getElem?_drop] at this
  exact this
theorem first_of {o : Nat} {v : Value} (h : (cs.drop o).take 1 = [v]) : cs[o]? = some v := by
  have : ((cs.drop o).take 1)[0]? = some v := by rw [h]; rfl
  rw [List.getElem?_take, if_pos (by omega), List.getElem?_drop] at this
  exact this
theorem open56 (h : DataW.trod enc Yba.prog w base spare held fuel 56 cs = some x) : cs.length = 34 ∧ U64 cs.toArray 0 ∧ U64 cs.toArray 1 ∧ U8s cs.toArray 2 32 := by
  obtain ⟨y0, y1, y2, n, _, hl, h0, h1, h2⟩ := Deep.trod_struct3 Yba.underlying56 h
  simp only [cells22, cells24, cells56] at h0 h1 h2 hl
  obtain ⟨n0, e0, _, w0⟩ := DataW.trod_int Yba.underlying22 h0
  obtain ⟨n1, e1, _, w1⟩ := DataW.trod_int Yba.underlying22 h1
  refine ⟨hl, ⟨n0, by simpa using first_of e0, w0⟩, ⟨n1, by simpa using first_of e1, w1⟩, fun k hk => ?_⟩
  obtain ⟨m, hm, hw⟩ := (open24 h2).2 k hk
  rw [List.getElem?_take, if_pos hk, List.getElem?_drop] at hm
  exact ⟨m, by simpa using hm, hw⟩
theorem open28 (h : DataW.trod enc Yba.prog w base spare held fuel 28 cs = some x) : cs.length = 66 ∧ U64 cs.toArray 0 ∧ U64 cs.toArray 1 ∧ U8s cs.toArray 2 32 ∧ U8s cs.toArray 34 32 := by
  obtain ⟨y0, y1, y2, y3, n, _, hl, h0, h1, h2, h3⟩ := Joins.trod_struct4 Yba.underlying28 h
  simp only [cells22, cells24, cells28] at h0 h1 h2 h3 hl
  obtain ⟨n0, e0, _, w0⟩ := DataW.trod_int Yba.underlying22 h0
  obtain ⟨n1, e1, _, w1⟩ := DataW.trod_int Yba.underlying22 h1
  refine ⟨hl, ⟨n0, by simpa using first_of e0, w0⟩, ⟨n1, by simpa using first_of e1, w1⟩, fun k hk => ?_, fun k hk => ?_⟩
  · obtain ⟨m, hm, hw⟩ := (open24 h2).2 k hk
    rw [List.getElem?_take, if_pos hk, List.getElem?_drop] at hm
    exact ⟨m, by simpa using hm, hw⟩
  · obtain ⟨m, hm, hw⟩ := (open24 h3).2 k hk
    rw [List.getElem?_take, if_pos hk, List.getElem?_drop] at hm
    exact ⟨m, by simpa using hm, hw⟩
end
end Go.Proofs.Ybulkduwi
