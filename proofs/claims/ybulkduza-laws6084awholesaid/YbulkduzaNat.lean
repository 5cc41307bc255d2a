/-
  math/big.nat at no word or one word.
-/
import Derived.Test.YbulkduzaBits
import Derived.Laws.Slices
import Derived.Deep.WholeRow
namespace Go.Proofs.Ybulkduza
open Go.RowKit

def wordMake (l c : Value) : Sem Value := Instr.makeSlice 81 l c
section
variable (ρ : Operand → Value) (dst : Option Tmp) (x y : Operand) (ty : TypeId) (pos : String) (after : Array Edge) (guard : Option (Nat × Bool))
theorem exec_make81 : execOp ρ { dst, op := .makeSlice 81 x y, type := ty, pos, after, guard } = (do pure (.value (← wordMake (ρ x) (ρ y)))) := rfl
end
theorem info86 : ∃ i : TypeInfo, Yba.prog.info? 86 = some i ∧ i.zero = some (.int .u64 0) ∧ i.size = 1 ∧ i.bytes = 8 := by
  obtain ⟨i, hi, h2⟩ := Option.map_eq_some_iff.1 (show (Yba.prog.info? 86).map (fun i => (i.size, i.bytes)) = some (1, 8) by kernel_rfl)
  obtain ⟨j, hj, h3⟩ := Option.map_eq_some_iff.1 (show (Yba.prog.info? 86).map (fun i => i.zero) = some (some (.int .u64 0)) by kernel_rfl)
  rw [hi] at hj
  cases hj
  simp only [Prod.mk.injEq] at h2
  exact ⟨i, hi, h3, h2.1, h2.2⟩
theorem run_word1 (W : World) : (wordMake (.int .i64 1) (.int .i64 1)).run Yba.prog W = .ok (.slice (some ⟨W.heap.size, 0, none⟩) 1 1) (W.alloc (.cells #[.int .u64 0] 86)) := by
  obtain ⟨i, hi, hz, hs, hb⟩ := info86
  have := run_makeSlice (P := Yba.prog) W 81 86 i _ Yba.underlying81 hi hz .i64 .i64 1 1 (by omega) (by omega) (by rw [hs]; decide) (by rw [hb]; decide) (by omega)
  rw [hs, show madeCells (Value.int .u64 0).cells (Int.toNat 1 * 1) = #[.int .u64 0] by kernel_rfl] at this
  exact this
theorem run_word2 (W : World) : (wordMake (.int .i64 2) (.int .i64 6)).run Yba.prog W = .ok (.slice (some ⟨W.heap.size, 0, none⟩) 2 6) (W.alloc (.cells #[.int .u64 0, .int .u64 0, .int .u64 0, .int .u64 0, .int .u64 0, .int .u64 0] 86)) := by
  obtain ⟨i, hi, hz, hs, hb⟩ := info86
  have := run_makeSlice (P := Yba.prog) W 81 86 i _ Yba.underlying81 hi hz .i64 .i64 2 6 (by omega) (by omega) (by rw [hs]; decide) (by rw [hb]; decide) (by omega)
  rw [hs, show madeCells (Value.int .u64 0).cells (Int.toNat 6 * 1) = #[.int .u64 0, .int .u64 0, .int .u64 0, .int .u64 0, .int .u64 0, .int .u64 0] by kernel_rfl] at this
  exact this
theorem elem81 : Yba.prog.elem 81 = 86 := by simp [Program.elem, Yba.underlying81]
theorem run_size86 (W : World) : (sizeOf 86).run Yba.prog W = .ok 1 W := by
  obtain ⟨i, hi, hz, hs, hb⟩ := info86
  simp [sizeOf, typeInfo, hi, hs]
theorem run_cap81 (ty : TypeId) (a : Option Addr) (l c : Nat) (W : World) : (Builtin.cap_ #[81] ty #[.slice a l c]).run Yba.prog W = .ok (.int .i64 c) W := by
  simp [Builtin.cap_, run_underlying Yba.underlying81, goInt]
theorem sliced_head (b o k c : Nat) : sliced (some ⟨b, o, none⟩) 0 k c 1 = .slice (some ⟨b, o, none⟩) k c := by
  unfold sliced
  split <;> simp [Addr.add]
theorem run_sl_h (b o l c k : Nat) (hk : k ≤ c) (W : World) : (Instr.sliceAt 81 (.slice (some ⟨b, o, none⟩) l c) none (some (.int .i64 k)) none).run Yba.prog W = .ok (.slice (some ⟨b, o, none⟩) k c) W := by
  have ht : Yba.prog.underlying 81 = some (.slice (Yba.prog.elem 81)) := by rw [elem81]; exact Yba.underlying81
  rw [run_sliceAt_slice _ _ _ _ _ _ ht, run_slice_h _ _ _ _ _ ht .i64 k (by omega) (by omega), elem81, run_size86]
  simp [sliced_head]
theorem run_sl_lh (b o l c k : Nat) (hk : k ≤ c) (W : World) : (Instr.sliceAt 81 (.slice (some ⟨b, o, none⟩) l c) (some (.int .i64 0)) (some (.int .i64 k)) none).run Yba.prog W = .ok (.slice (some ⟨b, o, none⟩) k c) W := by
  have ht : Yba.prog.underlying 81 = some (.slice (Yba.prog.elem 81)) := by rw [elem81]; exact Yba.underlying81
  rw [run_sliceAt_slice _ _ _ _ _ _ ht, run_slice_lh _ _ _ _ _ ht .i64 .i64 0 k (by omega) (by omega) (by omega), elem81, run_size86]
  simp [sliced_head]
theorem run_sl_0 (b o l c : Nat) (W : World) : (Instr.sliceAt 81 (.slice (some ⟨b, o, none⟩) l c) (some (.int .i64 0)) (some (.int .i64 0)) none).run Yba.prog W = .ok (.slice (some ⟨b, o, none⟩) 0 c) W := run_sl_lh b o l c 0 (by omega) W
theorem run_sl_1 (b o l c : Nat) (h : 1 ≤ c) (W : World) : (Instr.sliceAt 81 (.slice (some ⟨b, o, none⟩) l c) (some (.int .i64 0)) (some (.int .i64 1)) none).run Yba.prog W = .ok (.slice (some ⟨b, o, none⟩) 1 c) W := run_sl_lh b o l c 1 h W
theorem run_sh_1 (b o l c : Nat) (h : 1 ≤ c) (W : World) : (Instr.sliceAt 81 (.slice (some ⟨b, o, none⟩) l c) none (some (.int .i64 1)) none).run Yba.prog W = .ok (.slice (some ⟨b, o, none⟩) 1 c) W := run_sl_h b o l c 1 h W
theorem run_sh_nil (W : World) : (Instr.sliceAt 81 (.slice none 0 0) none (some (.int .i64 0)) none).run Yba.prog W = .ok (.slice none 0 0) W := by
  have ht : Yba.prog.underlying 81 = some (.slice (Yba.prog.elem 81)) := by rw [elem81]; exact Yba.underlying81
  rw [run_sliceAt_slice _ _ _ _ _ _ ht, run_slice_h _ _ _ _ _ ht .i64 0 (by omega) (by omega), elem81, run_size86]
  rfl
theorem setRow_new (w : World) (c c' : Array Value) (t : TypeId) (n : Nat) (h : n = w.heap.size) : (w.alloc (.cells c t)).setRow n c' = w.alloc (.cells c' t) := by
  subst h; exact World.setRow_alloc_new w c c' t
/-- copy of one word into a new word. -/
theorem run_copy1 (w : World) (ty : TypeId) (b o c : Nat) (y : Int) (hy : w.cell? ⟨b, o, none⟩ = some (.int .u64 y)) :
    (Builtin.copy_ #[81, 81] ty #[.slice (some ⟨w.heap.size, 0, none⟩) 1 1, .slice (some ⟨b, o, none⟩) 1 c]).run Yba.prog (w.alloc (.cells #[.int .u64 0] 86)) = .ok (.int .i64 1) (w.alloc (.cells #[.int .u64 y] 86)) := by
  obtain ⟨i, hi, hz, hs, hb⟩ := info86
  have hlt := World.block_lt_of_cell? w _ hy
  have hl := run_loadCells_list (P := Yba.prog) (w.alloc (.cells #[.int .u64 0] 86)) ⟨b, o, none⟩ [.int .u64 y] (fun j v hv => by
    cases j with
    | zero => simp at hv; subst hv; simpa [Addr.add] using (World.cell?_alloc_lt _ _ _ hlt).trans hy
    | succ j => simp at hv)
  have hst := run_storeCells_at Yba.prog w.heap.size 0 86 [.int .u64 y] 0 #[.int .u64 0] (w.alloc (.cells #[.int .u64 0] 86)) (by rw [heap_alloc_new]) (by simp) (by simp [Value.oneCell'])
  simp at hl hst
  rw [setRow_new _ _ _ _ _ rfl] at hst
  simp [Builtin.copy_, run_underlying Yba.underlying81, Builtin.lenOf, Builtin.firstCells, sizeOf, typeInfo, hi, hs, hl, hst, goInt]
attribute [local go_sem ↓] exec_make81
attribute [local go_sem] run_word1 run_word2 run_cap81 run_sl_0 run_sl_1 run_sh_1 run_sh_nil run_copy1

set_option maxRecDepth 100000 in
set_option maxHeartbeats 1000000 in
theorem make1 (w : World) : Calls Yba.prog 26 #[.slice none 0 0, .int .i64 1] w fun e w' => e = .returned (.slice (some ⟨w.heap.size, 0, none⟩) 1 1) ∧ w' = w.alloc (.cells #[.int .u64 0] 86) := by
  go_enter Yba.func26, Yba.ntmps26
  go_wp2
  go_ret
  exact ⟨rfl, rfl⟩
set_option maxRecDepth 100000 in
set_option maxHeartbeats 1000000 in
theorem make2 (w : World) : Calls Yba.prog 26 #[.slice none 0 0, .int .i64 2] w fun e w' => e = .returned (.slice (some ⟨w.heap.size, 0, none⟩) 2 6) ∧ w' = w.alloc (.cells #[.int .u64 0, .int .u64 0, .int .u64 0, .int .u64 0, .int .u64 0, .int .u64 0] 86) := by
  go_enter Yba.func26, Yba.ntmps26
  go_wp2
  go_ret
  exact ⟨rfl, rfl⟩

set_option maxRecDepth 100000 in
set_option maxHeartbeats 1000000 in
/-- z.set(y) for z nil, y one word. -/
theorem set1 (b o c : Nat) (y : Int) (w : World) (hy : w.cell? ⟨b, o, none⟩ = some (.int .u64 y)) :
    Calls Yba.prog 25 #[.slice none 0 0, .slice (some ⟨b, o, none⟩) 1 c] w fun e w' => e = .returned (.slice (some ⟨w.heap.size, 0, none⟩) 1 1) ∧ w' = w.alloc (.cells #[.int .u64 y] 86) := by
  go_enter Yba.func25, Yba.ntmps25
  go_wp2_with (go_at_call 26; refine (make1 _).mono ?_; rintro e w1 ⟨rfl, rfl⟩)
  go_ret
  exact ⟨rfl, rfl⟩

set_option maxRecDepth 100000 in
set_option maxHeartbeats 1000000 in
theorem norm1 (b o c : Nat) (v : Int) (w : World) (hc : 1 ≤ c) (hv : w.cell? ⟨b, o, none⟩ = some (.int .u64 v)) :
    Calls Yba.prog 29 #[.slice (some ⟨b, o, none⟩) 1 c] w fun e w' => e = .returned (.slice (some ⟨b, o, none⟩) (if v = 0 then 0 else 1) c) ∧ w' = w := by
  go_enter Yba.func29, Yba.ntmps29
  go_wp2_with fail
  refine wp_loop_rounds 2 ?_
  rw [rounds_succ]
  by_cases h : v = 0
  · subst h
    go_wp2_with fail
    rw [rounds_succ]
    go_wp2_with fail
    go_ret
    exact ⟨rfl, rfl⟩
  · have hb : (v == 0) = false := by simpa using h
    go_wp2_with fail
    go_ret
    exact ⟨rfl, rfl⟩

set_option maxRecDepth 100000 in
set_option maxHeartbeats 1000000 in
/-- Two words, the upper one 0. -/
theorem norm2 (b o c : Nat) (v : Int) (w : World) (hc : 1 ≤ c) (h0 : ¬ v = 0) (hv : w.cell? ⟨b, o, none⟩ = some (.int .u64 v)) (hv1 : w.cell? ⟨b, o + 1, none⟩ = some (.int .u64 0)) :
    Calls Yba.prog 29 #[.slice (some ⟨b, o, none⟩) 2 c] w fun e w' => e = .returned (.slice (some ⟨b, o, none⟩) 1 c) ∧ w' = w := by
  have hb : (v == 0) = false := by simpa using h0
  go_enter Yba.func29, Yba.ntmps29
  go_wp2_with fail
  refine wp_loop_rounds 2 ?_
  rw [rounds_succ]
  go_wp2_with fail
  rw [rounds_succ]
  go_wp2_with fail
  go_ret
  exact ⟨rfl, rfl⟩

set_option maxRecDepth 100000 in
set_option maxHeartbeats 1000000 in
theorem cmp11 (b o c b' o' c' : Nat) (x y : Int) (w : World) (hx : w.cell? ⟨b, o, none⟩ = some (.int .u64 x)) (hy : w.cell? ⟨b', o', none⟩ = some (.int .u64 y)) :
    Calls Yba.prog 20 #[.slice (some ⟨b, o, none⟩) 1 c, .slice (some ⟨b', o', none⟩) 1 c'] w fun e w' => e = .returned (.int .i64 (if x < y then -1 else if y < x then 1 else 0)) ∧ ∃ k, w' = w.drewN k := by
  go_enter Yba.func20, Yba.ntmps20
  go_wp2_with fail
  refine wp_loop_rounds 1 ?_
  rw [rounds_succ]
  go_wp2_with fail
  go_quiet (fail)
  go_wp2_with fail
  go_quiet (fail)
  by_cases h1 : x < y
  · have d1 : decide (x < y) = true := by simpa using h1
    go_wp2_with fail
    go_ret
    exact ⟨rfl, _, rfl⟩
  · have d1 : decide (x < y) = false := by simpa using h1
    go_wp2_with fail
    go_quiet (fail)
    by_cases h2 : y < x
    · have d2 : decide (y < x) = true := by simpa using h2
      go_wp2_with fail
      go_ret
      exact ⟨rfl, _, rfl⟩
    · have d2 : decide (y < x) = false := by simpa using h2
      go_wp2_with fail
      go_ret
      exact ⟨rfl, _, rfl⟩
set_option maxRecDepth 100000 in
set_option maxHeartbeats 1000000 in
theorem cmp01 (ao : Option Addr) (c : Nat) (a' : Option Addr) (c' : Nat) (w : World) :
    Calls Yba.prog 20 #[.slice ao 0 c, .slice a' 1 c'] w fun e w' => e = .returned (.int .i64 (-1)) ∧ w' = w := by
  go_enter Yba.func20, Yba.ntmps20
  go_wp2
  go_ret
  exact ⟨rfl, rfl⟩
set_option maxRecDepth 100000 in
set_option maxHeartbeats 1000000 in
theorem cmp10 (ao : Option Addr) (c : Nat) (a' : Option Addr) (c' : Nat) (w : World) :
    Calls Yba.prog 20 #[.slice ao 1 c, .slice a' 0 c'] w fun e w' => e = .returned (.int .i64 1) ∧ w' = w := by
  go_enter Yba.func20, Yba.ntmps20
  go_wp2
  go_ret
  exact ⟨rfl, rfl⟩
set_option maxRecDepth 100000 in
set_option maxHeartbeats 1000000 in
theorem cmp00 (ao : Option Addr) (c : Nat) (a' : Option Addr) (c' : Nat) (w : World) :
    Calls Yba.prog 20 #[.slice ao 0 c, .slice a' 0 c'] w fun e w' => e = .returned (.int .i64 0) ∧ w' = w := by
  go_enter Yba.func20, Yba.ntmps20
  go_wp2
  go_ret
  exact ⟨rfl, rfl⟩
end Go.Proofs.Ybulkduza
