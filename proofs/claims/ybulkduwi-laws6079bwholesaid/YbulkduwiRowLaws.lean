/-
  Laws on whole rows (arrays and structs of many cells), said so that no cell is looked into: for this program's walks.
-/
import Derived.Test.YbulkduwiRows
import Derived.WalkKit
import Derived.WalkSpells
import Derived.WalkLawsBesides
import Derived.Deep.MidRow
import Derived.Deep.WholeRow
import Derived.DeepKeys4
namespace Go.Proofs.Ybulkduwi
open Go.RowKit

/-- The cells of block b. -/
def arr (w : World) (b : Nat) : Array Value := match w.heap[b]? with | some (.cells c _ _) => c | _ => #[]
/-- n cells of a row, from o on. -/
def cut (a : Array Value) (o n : Nat) : Array Value := a.extract o (o + n)
/-- A row with the cells c laid over it from o on. -/
def spl (a : Array Value) (o : Nat) (c : Array Value) : Array Value := c.zipIdx.foldl (fun cs (v, j) => cs.setIfInBounds (o + j) v) a

theorem arr_cell (w : World) (b j : Nat) (h : j < (arr w b).size) : w.cell? ⟨b, j, none⟩ = (arr w b)[j]? := by
  unfold arr at h ⊢
  unfold World.cell?
  split at h <;> simp_all

theorem arr_new (w : World) (c : Array Value) (t : TypeId) (n : Nat) (h : n = w.heap.size) : arr (w.alloc (.cells c t)) n = c := by
  subst h; unfold arr; rw [heap_alloc_new]
theorem arr_old (w : World) (o : Obj) (n : Nat) (h : n < w.heap.size) : arr (w.alloc o) n = arr w n := by
  unfold arr; rw [show (w.alloc o).heap[n]? = w.heap[n]? from Below.heap_alloc w o n h]
theorem arr_drew (w : World) (n : Nat) : arr w.drew n = arr w n := by
  have h : w.drew.heap = w.heap := rfl
  unfold arr; rw [h]
theorem arr_drewN (w : World) (n m : Nat) : arr (w.drewN m) n = arr w n := by
  have h : (w.drewN m).heap = w.heap := rfl
  unfold arr; rw [h]
theorem arr_of (w : World) (b : Nat) (c : Array Value) (t : TypeId) (f : Nat × Nat) (h : w.heap[b]? = some (.cells c t f)) : arr w b = c := by simp [arr, h]

theorem size_cut (a : Array Value) (o n : Nat) (h : o + n ≤ a.size) : (cut a o n).size = n := by simp [cut]; omega
theorem get_cut (a : Array Value) (o n k : Nat) (h : o + n ≤ a.size) (hk : k < n) : (cut a o n)[k]? = a[o + k]? := by
  unfold cut
  rw [Array.getElem?_extract, if_pos (by omega)]
theorem cut_all (a : Array Value) (n : Nat) (h : a.size = n) : cut a 0 n = a := by
  subst h; simp [cut]
theorem cut_congr {a b : Array Value} {o p n : Nat} (ha : o + n ≤ a.size) (hb : p + n ≤ b.size) (h : ∀ k, k < n → a[o + k]? = b[p + k]?) : cut a o n = cut b p n := by
  apply Array.ext_getElem?
  intro k
  by_cases hk : k < n
  · rw [get_cut _ _ _ _ ha hk, get_cut _ _ _ _ hb hk]; exact h k hk
  · rw [Array.getElem?_eq_none (by rw [size_cut _ _ _ ha]; omega), Array.getElem?_eq_none (by rw [size_cut _ _ _ hb]; omega)]

theorem size_spl_list (o : Nat) : ∀ (c : List (Value × Nat)) (a : Array Value), (c.foldl (fun cs (v, j) => cs.setIfInBounds (o + j) v) a).size = a.size
  | [], _ => rfl
  | x :: c, a => by rw [List.foldl_cons, size_spl_list o c]; simp
theorem size_spl (a : Array Value) (o : Nat) (c : Array Value) : (spl a o c).size = a.size := by
  unfold spl; rw [← Array.foldl_toList]; exact size_spl_list o _ _
theorem get_spl_list (o : Nat) : ∀ (c : List Value) (s : Nat) (a : Array Value) (k : Nat), o + s + c.length ≤ a.size →
    ((c.zipIdx s).foldl (fun cs (v, j) => cs.setIfInBounds (o + j) v) a)[k]? = if o + s ≤ k ∧ k < o + s + c.length then c[k - (o + s)]? else a[k]?
  | [], s, a, k, _ => by simp; omega
  | x :: c, s, a, k, h => by
    rw [List.zipIdx_cons, List.foldl_cons, get_spl_list o c (s + 1) _ k (by simp at h ⊢; omega)]
    simp only [List.length_cons] at h ⊢
    by_cases h1 : o + (s + 1) ≤ k ∧ k < o + (s + 1) + c.length
    · rw [if_pos h1, if_pos (by omega), show k - (o + s) = (k - (o + (s + 1))) + 1 by omega, List.getElem?_cons_succ]
    · rw [if_neg h1]
      by_cases h2 : k = o + s
      · subst h2
        rw [if_pos (by omega), Nat.sub_self, Array.getElem?_setIfInBounds_self]
        simp; omega
      · rw [if_neg (by omega), Array.getElem?_setIfInBounds_ne (by omega)]
theorem get_spl (a : Array Value) (o : Nat) (c : Array Value) (k : Nat) (h : o + c.size ≤ a.size) : (spl a o c)[k]? = if o ≤ k ∧ k < o + c.size then c[k - o]? else a[k]? := by
  unfold spl
  rw [← Array.foldl_toList, Array.toList_zipIdx]
  have := get_spl_list o c.toList 0 a k (by simpa using h)
  simpa using this
theorem spl_out (a : Array Value) (o : Nat) (c : Array Value) (k : Nat) (h : o + c.size ≤ a.size) (hk : k < o ∨ o + c.size ≤ k) : (spl a o c)[k]? = a[k]? := by
  rw [get_spl _ _ _ _ h, if_neg (by omega)]
theorem spl_in (a : Array Value) (o : Nat) (c : Array Value) (k : Nat) (h : o + c.size ≤ a.size) (h1 : o ≤ k) (h2 : k < o + c.size) : (spl a o c)[k]? = c[k - o]? := by
  rw [get_spl _ _ _ _ h, if_pos ⟨h1, h2⟩]
theorem cut_spl_out (a : Array Value) (o : Nat) (c : Array Value) (p n : Nat) (h : o + c.size ≤ a.size) (hp : p + n ≤ a.size) (hk : p + n ≤ o ∨ o + c.size ≤ p) : cut (spl a o c) p n = cut a p n :=
  cut_congr (by rw [size_spl]; exact hp) hp (fun k _ => spl_out a o c (p + k) h (by omega))
theorem cut_spl_in (a : Array Value) (o : Nat) (c : Array Value) (n : Nat) (hn : c.size = n) (h : o + n ≤ a.size) : cut (spl a o c) o n = c := by
  rw [show c = cut c 0 n from (cut_all c n hn).symm]
  rw [show cut c 0 n = c from cut_all c n hn]
  apply Array.ext_getElem?
  intro k
  by_cases hk : k < n
  · rw [get_cut _ _ _ _ (by rw [size_spl]; omega) hk, spl_in _ _ _ _ (by omega) (by omega) (by omega), Nat.add_sub_cancel_left]
  · rw [Array.getElem?_eq_none (by rw [size_cut _ _ _ (by rw [size_spl]; omega)]; omega), Array.getElem?_eq_none (by omega)]

/-- Each cell is one cell. -/
def Ones (a : Array Value) : Prop := ∀ (i : Nat) (v : Value), a[i]? = some v → v.oneCell' = true
theorem Ones.all {a : Array Value} (h : Ones a) : a.all (·.oneCell') = true :=
  Array.all_eq_true_iff_forall_mem.2 (fun v hv => by obtain ⟨i, hi⟩ := Array.mem_iff_getElem?.1 hv; exact h i v hi)
theorem Ones.spl {a c : Array Value} {o : Nat} (ha : Ones a) (hc : Ones c) (h : o + c.size ≤ a.size) : Ones (spl a o c) := by
  intro i v hv
  rw [get_spl _ _ _ _ h] at hv
  split at hv
  · exact hc _ _ hv
  · exact ha _ _ hv
theorem Ones.cut {a : Array Value} {o n : Nat} (ha : Ones a) (h : o + n ≤ a.size) : Ones (cut a o n) := by
  intro i v hv
  by_cases hi : i < n
  · rw [get_cut _ _ _ _ h hi] at hv; exact ha _ _ hv
  · rw [Array.getElem?_eq_none (by rw [size_cut _ _ _ h]; omega)] at hv; cases hv
theorem Ones.one {v : Value} (h : v.oneCell' = true) : Ones #[v] := by
  intro i u hu
  match i, hu with
  | 0, hu => simp at hu; subst hu; exact h
theorem Ones.of_all {a : Array Value} (h : a.all (·.oneCell') = true) : Ones a := fun i v hv => by
  have := Array.all_eq_true_iff_forall_mem.1 h v (Array.mem_of_getElem? hv)
  exact this

section
variable {P : Program}
/-- A variable of n cells, read whole out of whatever block: no cell is looked into. -/
theorem load_row (ty : TypeId) (n : Nat) (d : TypeDesc) (hu : P.underlying ty = some d) (hd : d.isRow = true) (hi : (P.info? ty).map (·.size) = some n)
    (W : World) (b o : Nat) (h : o + n ≤ (arr W b).size) : (Instr.loadAt ty (.pointer (some ⟨b, o, none⟩))).run P W = .ok (.agg (cut (arr W b) o n)) W := by
  have := run_loadAt_mid (P := P) W b o ty (cut (arr W b) o n).toList d (fun j v hv => by
    have hj := (List.getElem?_eq_some_iff.1 hv).1
    rw [Array.length_toList, size_cut _ _ _ h] at hj
    rw [arr_cell _ _ _ (by omega)]
    rw [Array.getElem?_toList, get_cut _ _ _ _ h hj] at hv
    exact hv) hu hd (by rw [hi, Array.length_toList, size_cut _ _ _ h])
  simpa only [Array.toArray_toList] using this

/-- Block b is a row of n cells, none of them frozen. -/
def rowOk (w : World) (b n : Nat) : Prop := ∃ c t, w.heap[b]? = some (.cells c t (0, 0)) ∧ c.size = n
theorem rowOk_new (w : World) (c : Array Value) (t : TypeId) (m n : Nat) (hm : m = w.heap.size) : rowOk (w.alloc (.cells c t)) m n = (c.size = n) := by
  subst hm
  apply propext
  unfold rowOk
  rw [heap_alloc_new]
  constructor
  · rintro ⟨c', t', h, rfl⟩; cases h; rfl
  · intro h; exact ⟨c, t, rfl, h⟩
theorem rowOk_old (w : World) (o : Obj) (m n : Nat) (hm : m < w.heap.size) : rowOk (w.alloc o) m n = rowOk w m n := by
  unfold rowOk; rw [Below.heap_alloc w o m hm]
theorem rowOk_drew (w : World) (m n : Nat) : rowOk w.drew m n = rowOk w m n := by
  have h : w.drew.heap = w.heap := rfl
  unfold rowOk; rw [h]
theorem rowOk_drewN (w : World) (k m n : Nat) : rowOk (w.drewN k) m n = rowOk w m n := by
  have h : (w.drewN k).heap = w.heap := rfl
  unfold rowOk; rw [h]

/-- A variable that is a whole block, written whole. -/
theorem store_row (ty : TypeId) (n : Nat) (hi : (P.info? ty).map (·.size) = some n) (W : World) (b : Nat) (c : Array Value) (h : rowOk W b n) (hc : c.size = n) (h1 : Ones c) :
    (Instr.storeAt ty (.pointer (some ⟨b, 0, none⟩)) (.agg c)).run P W = .ok () (W.setRow b c) := by
  obtain ⟨old, t, hb, hs⟩ := h
  simp only [Instr.storeAt, Instr.sureAddr, Sem.run_bind, Sem.run_pure, Result.andThen]
  exact run_storeVar_row W b t ty old c hb (by rw [hi, hc]) (by omega) h1.all

theorem setRow_new (w : World) (c c' : Array Value) (t : TypeId) (n : Nat) (h : n = w.heap.size) : (w.alloc (.cells c t)).setRow n c' = w.alloc (.cells c' t) := by
  subst h; exact World.setRow_alloc_new w c c' t
theorem setRow_old (w : World) (o : Obj) (n : Nat) (c : Array Value) (h : n < w.heap.size) : (w.alloc o).setRow n c = (w.setRow n c).alloc o := by
  simp only [World.setRow, World.alloc]
  congr 1
  apply Array.ext_getElem?
  intro i
  rw [Array.getElem?_modify, Array.getElem?_push, Array.getElem?_push, Array.getElem?_modify, Array.size_modify]
  by_cases h1 : n = i
  · subst h1
    simp [Nat.ne_of_lt h]
  · simp [h1]
theorem setRow_drew (w : World) (n : Nat) (c : Array Value) : w.drew.setRow n c = (w.setRow n c).drew := by
  unfold World.setRow; rfl
theorem alloc_drewN (w : World) (k : Nat) (o : Obj) : (w.drewN k).alloc o = (w.alloc o).drewN k := by
  unfold World.alloc; rfl
theorem setCell_drewN (w : World) (k : Nat) (a : Addr) (v : Value) : (w.drewN k).setCell a v = (w.setCell a v).drewN k := by
  unfold World.setCell; rfl
theorem setRow_drewN (w : World) (k n : Nat) (c : Array Value) : (w.drewN k).setRow n c = (w.setRow n c).drewN k := by
  unfold World.setRow; rfl

/-- A struct's literal: its parts laid over the zero value, one behind the other. -/
theorem build_run {t : TypeId} {fs : Array Field} {z out : Array Value} {pl : Array (Nat × Nat)} {parts : Array (Nat × Value)} (hz : ∀ W, (zeroValue t).run P W = .ok (.agg z) W) (hu : P.underlying t = some (.struct fs))
    (hp : ∀ W, (fs.mapM fun f => do pure (f.offset, ← sizeOf f.type) : Sem (Array (Nat × Nat))).run P W = .ok pl W) (hf : Instr.fill (pl[·]?) z parts.toList = some out) (W : World) :
    (Instr.build t parts).run P W = .ok (.agg out) W := by
  simp only [Instr.build, Sem.run_bind, hz, Result.andThen_ok, run_underlying hu, Value.cells]
  rw [hp W]
  simp only [Result.andThen_ok, hf, Sem.run_pure]
theorem fill_step {place : Nat → Option (Nat × Nat)} {z : Array Value} {i off n : Nat} {v : Value} {rest : List (Nat × Value)} (hpl : place i = some (off, n)) (hv : v.cells.size = n) (hle : off + n ≤ z.size) :
    Instr.fill place z ((i, v) :: rest) = Instr.fill place (spl z off v.cells) rest := by
  rw [Instr.fill, hpl]
  simp only [hv]
  rw [if_neg (by simp; omega)]
  rfl

/-- '!=' between a key-like row and itself. -/
theorem neq_self (W : World) {t : TypeId} {m : Nat} (hm : m ≤ 10000) (hk : P.keyTypeAt m t = true) (hwide : (match P.underlying t with | some (.array _ _) | some (.struct _) => true | _ => false) = true) {a : Array Value} (h : (keyOf P t (.agg a)).isSome = true) :
    (binOp .neq t (.agg a) (.agg a)).run P W = .ok (.bool false) W := by
  obtain ⟨l, hl⟩ := Option.isSome_iff_exists.1 h
  obtain ⟨r, hr, hiff⟩ := run_equal_deep W hm hk hwide hl hl
  have : r = true := hiff.2 rfl
  subst this
  simp [binOp, hr]
end
end Go.Proofs.Ybulkduwi
