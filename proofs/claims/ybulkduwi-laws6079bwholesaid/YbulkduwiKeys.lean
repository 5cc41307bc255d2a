import Derived.Test.YbulkduwiKey
import Derived.Maps.Own
import Derived.Maps.OwnSet
import Derived.Maps.Views
namespace Go.Proofs.Ybulkduwi
open Go.RowKit

theorem laidOut : laidOutB Yba.prog = true := by kernel_rfl
theorem wide24 : (match Yba.prog.underlying 24 with | some (.array _ _) | some (.struct _) => true | _ => false) = true := by kernel_rfl
theorem law24 : Maps.Keyed Yba.prog 24 := Maps.Keyed.of_law (deep_law_laid laidOut (m := 2) (by omega) (of_decide_eq_true (by kernel_rfl)) (by kernel_rfl) wide24)

theorem mapM_some {α β : Type} {f : α → Option β} : ∀ {l : List α}, (∀ x ∈ l, (f x).isSome = true) → (l.mapM f).isSome = true
  | [], _ => rfl
  | x :: l, h => by
    obtain ⟨y, hy⟩ := Option.isSome_iff_exists.1 (h x (by simp))
    obtain ⟨ys, hys⟩ := Option.isSome_iff_exists.1 (mapM_some (l := l) fun z hz => h z (by simp [hz]))
    rw [List.mapM_cons, hy, Option.bind_eq_bind, Option.bind_some, hys]
    rfl

/-- n cells of a row, from o on, are bytes. -/
def U8s (a : Array Value) (o n : Nat) : Prop := ∀ k, k < n → ∃ m, a[o + k]? = some (.int .u8 m) ∧ (Lit.int .u8 m).wf = true
/-- a cell is a uint64. -/
def U64 (a : Array Value) (o : Nat) : Prop := ∃ m, a[o]? = some (.int .u64 m) ∧ (Lit.int .u64 m).wf = true
def I64 (a : Array Value) (o : Nat) : Prop := ∃ m, a[o]? = some (.int .i64 m) ∧ (Lit.int .i64 m).wf = true

theorem take_one (a : Array Value) (o : Nat) (v : Value) (h : a[o]? = some v) : (a.toList.drop o).take 1 = [v] := by
  have h' : a.toList[o]? = some v := by simpa using h
  obtain ⟨hlt, hv⟩ := List.getElem?_eq_some_iff.1 h'
  rw [List.drop_eq_getElem_cons hlt, hv]
  rfl
theorem kl_int (d : Nat) (t : TypeId) (q : IntKind) (m : Int) (ht : Yba.prog.underlying t = some (.int q)) (hw : (Lit.int q m).wf = true) : (Yba.prog.keyLits (d + 1) t [.int q m]).isSome = true := by
  simp [Program.keyLits, ht, hw]
theorem cells5 : Yba.prog.cellsOf 5 = 1 := by kernel_rfl
theorem cells24 : Yba.prog.cellsOf 24 = 32 := by kernel_rfl
theorem cells22 : Yba.prog.cellsOf 22 = 1 := by kernel_rfl
theorem cells3 : Yba.prog.cellsOf 3 = 1 := by kernel_rfl
theorem kl_24 (d : Nat) (cs : List Value) (hl : cs.length = 32) (h : ∀ k, k < 32 → ∃ m, cs[k]? = some (.int .u8 m) ∧ (Lit.int .u8 m).wf = true) : (Yba.prog.keyLits (d + 2) 24 cs).isSome = true := by
  unfold Program.keyLits
  rw [Yba.underlying24]
  simp only [cells24, cells5, hl, if_true, Option.isSome_map]
  refine mapM_some fun k hk => ?_
  have hk := List.mem_range.1 hk
  obtain ⟨m, hm, hw⟩ := h k hk
  have := take_one cs.toArray k _ (by simpa using hm)
  simp only at this
  rw [Nat.mul_one, this]
  exact kl_int d 5 .u8 m Yba.underlying5 hw
theorem size_types : Yba.prog.types.size = 100 := by kernel_rfl
theorem key24 (a : Array Value) (hs : a.size = 32) (h : U8s a 0 32) : (keyOf Yba.prog 24 (.agg a)).isSome = true := by
  have e : Yba.prog.keyType 24 = true := by kernel_rfl
  have f : Value.formed Yba.prog 24 (.agg a) = true := by simp [Value.formed, Yba.underlying24, cells24, hs]
  unfold keyOf
  rw [Yba.underlying24]
  simp only [e, f, Bool.and_self, if_true, Option.isSome_map, size_types, Value.cells]
  exact kl_24 99 a.toList (by simpa using hs) (fun k hk => by obtain ⟨m, hm, hw⟩ := h k hk; exact ⟨m, by simpa using hm, hw⟩)
theorem get_karr (i k : Nat) (h : k < 32) : (karr i)[k]? = some (if k = 31 then .int .u8 1 else if k = 1 then .int .u8 ((i : Int) / 256) else if k = 0 then .int .u8 ((i : Int) % 256) else .int .u8 0) := by
  unfold karr
  rw [Array.getElem?_setIfInBounds, Array.getElem?_setIfInBounds, Array.getElem?_setIfInBounds]
  simp only [Array.size_setIfInBounds, Array.size_replicate, Array.getElem?_replicate, h, if_true]
  split
  · subst_vars; simp
  · split
    · subst_vars; simp
    · split
      · subst_vars; simp
      · rw [if_neg (by omega), if_neg (by omega), if_neg (by omega)]
theorem size_karr (i : Nat) : (karr i).size = 32 := by simp [karr]
theorem u8s_karr (i : Nat) (hi : i < 65536) : U8s (karr i) 0 32 := by
  intro k hk
  rw [Nat.zero_add, get_karr i k hk]
  split
  · exact ⟨1, rfl, by decide⟩
  · split
    · exact ⟨_, rfl, WalkArith.wf_u8 (by omega)⟩
    · split
      · exact ⟨_, rfl, WalkArith.wf_u8 (by omega)⟩
      · exact ⟨0, rfl, by decide⟩
theorem karr_inj {i j : Nat} (h : karr i = karr j) : i = j := by
  have h0 := get_karr i 0 (by omega)
  have h1 := get_karr i 1 (by omega)
  rw [h] at h0 h1
  rw [get_karr j 0 (by omega)] at h0
  rw [get_karr j 1 (by omega)] at h1
  simp at h0 h1
  omega

/-- The key of number i, as the map's laws read it. -/
theorem key_lit (i : Nat) (hi : i < 65536) : ∃ l, keyOf Yba.prog 24 (.agg (karr i)) = some l := Option.isSome_iff_exists.1 (key24 _ (size_karr i) (u8s_karr i hi))
theorem key_lits : ∃ kl : Nat → Lit, (∀ i, i < 65536 → keyOf Yba.prog 24 (.agg (karr i)) = some (kl i)) ∧ ∀ i j, i < 65536 → j < 65536 → kl i = kl j → i = j := by
  refine ⟨fun i => (keyOf Yba.prog 24 (.agg (karr i))).getD (.bool false), fun i hi => ?_, fun i j hi hj e => ?_⟩
  · obtain ⟨l, hl⟩ := key_lit i hi
    show _ = some ((keyOf Yba.prog 24 (.agg (karr i))).getD (.bool false))
    rw [hl]; rfl
  · obtain ⟨l, hl⟩ := key_lit i hi
    obtain ⟨m, hm⟩ := key_lit j hj
    simp only [hl, hm, Option.getD_some] at e
    subst e
    have := law24.inj hl hm
    exact karr_inj (by simpa using this)

/-- Whatever an element holds: it is not looked into. -/
def anyElem (_ : Value) : Option (DataW Unit × List MemPlace) := some (.nil, [])

/-- A map filled with the keys 0 .. k-1: how many it holds, and that it holds no later one. -/
def Filled (kl : Nat → Lit) (k : Nat) (D : DataW Unit) : Prop := Maps.Tidy D ∧ Maps.size D = k ∧ ∀ i, k ≤ i → i < 65536 → Maps.has D (kl i) = false
theorem filled_start (kl : Nat → Lit) : Filled kl 0 (.map []) := ⟨Maps.tidy_empty, rfl, fun _ _ _ => rfl⟩
theorem filled_step {kl : Nat → Lit} {k : Nat} {D : DataW Unit} (hk : k < 65536) (hkey : WideAt.IsKeyLit (kl k)) (hinj : ∀ i j, i < 65536 → j < 65536 → kl i = kl j → i = j) (h : Filled kl k D) : Filled kl (k + 1) (D.put (kl k) .nil) := by
  obtain ⟨h1, h2, h3⟩ := h
  refine ⟨h1.put hkey _, ?_, fun i hi hi' => ?_⟩
  · rw [Maps.size_put h1, h3 k (Nat.le_refl _) hk, h2]; rfl
  · rw [Maps.has_put_other (fun e => by have := hinj _ _ hi' hk e; omega)]
    exact h3 i (by omega) hi'
end Go.Proofs.Ybulkduwi
