/-
  'copy' of a slice of structs of 34 cells into a row that was just made; 'make' of one.
-/
import Derived.Test.YbulkduwiMaps
namespace Go.Proofs.Ybulkduwi
open Go.RowKit

theorem info56 : ∃ i : TypeInfo, ∃ z, Yba.prog.info? 56 = some i ∧ i.zero = some (.agg z) ∧ i.size = 34 ∧ i.bytes = 48 ∧ z.size = 34 := by
  obtain ⟨z, zs, hz, _⟩ := zero56
  obtain ⟨i, hi, h2⟩ := Option.map_eq_some_iff.1 (show (Yba.prog.info? 56).map (fun i => (i.size, i.bytes)) = some (34, 48) by kernel_rfl)
  simp only [Prod.mk.injEq] at h2
  have hz0 := hz default
  simp [zeroValue, typeInfo, hi] at hz0
  cases hq : i.zero with
  | none => simp [hq] at hz0
  | some v =>
    simp [hq] at hz0
    exact ⟨i, z, hi, by rw [hq, hz0], h2.1, h2.2, zs⟩

/-- 'make([]Accepted, n)'. -/
theorem wpList_make56 {w : World} {ops : Array Oper} {rest : List Oper} {o : Oper} {a : Act} {Q : Exit → Act → World → Prop} (hg : o.guard = none) (l c : Operand) (hop : o.op = Op.makeSlice 26 l c) (n : Nat) (hn : n ≤ 1048576)
    (kl kc : IntKind) (hl : a.eval l = .int kl n) (hc : a.eval c = .int kc n)
    (h : ∀ w', (∃ cur, w'.heap[w.heap.size]? = some (.cells cur 56 (0, 0)) ∧ cur.size = n * 34) → Below w.heap.size w w' → wpList Yba.prog ops Q rest (a.put o.dst (.slice (some ⟨w.heap.size, 0, none⟩) n n)) w') : wpList Yba.prog ops Q (o :: rest) a w := by
  obtain ⟨i, z, hi, hz, hs, hb, _⟩ := info56
  refine wpList_make_full w hg l c 26 hop w.heap.size 56 i (.agg z) 34 Yba.underlying26 hi hz hs kl kc n n n hl hc rfl rfl (by rw [hb]; omega) (by unfold maxLen; omega) (Nat.le_refl _) ?_
  intro w' hown hgr
  refine h w' ?_ ((Below.refl _ _).grown hgr (Nat.le_refl _) (fun _ h => by cases h))
  rcases hown.2 with ⟨h1, _⟩ | ⟨g, cap, cur, h1, _, h2, _, _, h3, _⟩
  · cases h1
  · simp only [Value.slice.injEq, Option.some.injEq, Addr.mk.injEq, and_true, true_and] at h1
    obtain ⟨rfl, rfl⟩ := h1
    exact ⟨cur, h2, h3⟩

theorem run_copy56 (w : World) (ty : TypeId) (g n cp : Nat) (a : Addr) (sc : Nat) (cur : Array Value) (cs : List Value) (hg : w.heap[g]? = some (.cells cur 56 (0, 0))) (hn : cs.length = n * 34) (hcur : cur.size = n * 34)
    (hsrc : ∀ j v, cs[j]? = some v → w.cell? (a.add j) = some v) (h1 : ∀ v ∈ cs, v.oneCell' = true) :
    (Builtin.copy_ #[26, 26] ty #[.slice (some ⟨g, 0, none⟩) n cp, .slice (some a) n sc]).run Yba.prog w = .ok (goInt n) (w.setRow g cs.toArray) := by
  obtain ⟨i, z, hi, _, hs, _⟩ := info56
  have hl := run_loadCells_list (P := Yba.prog) w a cs hsrc
  rw [hn] at hl
  have hst := run_storeCells_at Yba.prog g 0 56 cs 0 cur w hg (by omega) h1
  have e : (cur.toList.take (0 + 0) ++ cs ++ cur.toList.drop (0 + 0 + cs.length)) = cs := by
    rw [List.drop_of_length_le (by simp; omega)]; simp
  rw [e] at hst
  simp [Builtin.copy_, run_underlying Yba.underlying26, Builtin.lenOf, Builtin.firstCells, sizeOf, typeInfo, hi, hs, hl, hst]
theorem run_copy56_none (w : World) (ty : TypeId) (g cp : Nat) (ao : Option Addr) (sc : Nat) :
    (Builtin.copy_ #[26, 26] ty #[.slice (some ⟨g, 0, none⟩) 0 cp, .slice ao 0 sc]).run Yba.prog w = .ok (goInt 0) w := by
  obtain ⟨i, z, hi, _, hs, _⟩ := info56
  cases ao with
  | none => simp [Builtin.copy_, run_underlying Yba.underlying26, Builtin.lenOf, Builtin.firstCells, sizeOf, typeInfo, hi, storeCells]
  | some a =>
    have hl := run_loadCells_list (P := Yba.prog) w a [] (fun j v h => by simp at h)
    simp at hl
    simp [Builtin.copy_, run_underlying Yba.underlying26, Builtin.lenOf, Builtin.firstCells, sizeOf, typeInfo, hi, storeCells, hl]

theorem wpList_copy56 {w : World} {ops : Array Oper} {rest : List Oper} {o : Oper} {a : Act} {Q : Exit → Act → World → Prop} (hgd : o.guard = none) (d s : Operand) (ho : o.op = .call { callee := .builtin .copy, args := #[d, s], argTypes := #[26, 26] })
    (g n cp b off sc : Nat) (hd : a.eval d = .slice (some ⟨g, 0, none⟩) n cp) (hs : a.eval s = .slice (some ⟨b, off, none⟩) n sc) (cur bA : Array Value) (hg : w.heap[g]? = some (.cells cur 56 (0, 0))) (hcur : cur.size = n * 34)
    (hb : arr w b = bA) (hbs : off + n * 34 ≤ bA.size) (h1 : Ones (cut bA off (n * 34)))
    (h : ∀ w', w'.heap[g]? = some (.cells (cut bA off (n * 34)) 56 (0, 0)) → Below g w w' → wpList Yba.prog ops Q rest (a.put o.dst (goInt n)) w') : wpList Yba.prog ops Q (o :: rest) a w := by
  refine wpList_plain hgd fun K hK => ?_
  have hrun := run_copy56 w o.type g n cp ⟨b, off, none⟩ sc cur (cut bA off (n * 34)).toList hg (by rw [Array.length_toList, size_cut _ _ _ hbs]) hcur (fun j v hv => by
    have hj := (List.getElem?_eq_some_iff.1 hv).1
    rw [Array.length_toList, size_cut _ _ _ hbs] at hj
    rw [Array.getElem?_toList, get_cut _ _ _ _ hbs hj, ← hb] at hv
    rw [Addr.add_lit, arr_cell _ _ _ (by rw [hb]; omega)]
    exact hv) (fun v hv => by
    obtain ⟨i, hi⟩ := Array.mem_iff_getElem?.1 (Array.mem_toList_iff.1 hv)
    exact h1 i v hi)
  unfold Oper.wp
  simp [execOp, ho, resolve, invoke, builtin, hd, hs, hrun, Result.andThen]
  refine hK _ _ (h _ ?_ ?_)
  · exact setRow_heap w g cur _ 56 _ hg
  · exact ⟨rfl, rfl, rfl, by simp, fun k hk => setRow_other w g k _ (by omega)⟩
theorem wpList_copy56_none {w : World} {ops : Array Oper} {rest : List Oper} {o : Oper} {a : Act} {Q : Exit → Act → World → Prop} (hgd : o.guard = none) (d s : Operand) (ho : o.op = .call { callee := .builtin .copy, args := #[d, s], argTypes := #[26, 26] })
    (g cp sc : Nat) (ao : Option Addr) (hd : a.eval d = .slice (some ⟨g, 0, none⟩) 0 cp) (hs : a.eval s = .slice ao 0 sc)
    (h : wpList Yba.prog ops Q rest (a.put o.dst (goInt 0)) w) : wpList Yba.prog ops Q (o :: rest) a w := by
  refine wpList_plain hgd fun K hK => ?_
  have hrun := run_copy56_none w o.type g cp ao sc
  unfold Oper.wp
  simp [execOp, ho, resolve, invoke, builtin, hd, hs, hrun, Result.andThen]
  exact hK _ _ h
end Go.Proofs.Ybulkduwi
