/-
  'len' of a map, said of the block it leads to: no law is typed ahead of the walk for each world.
-/
import Derived.Test.YbulkduwiSmall
import Derived.Maps.OwnSet
namespace Go.Proofs.Ybulkduwi
open Go.RowKit

/-- How many entries a map holds. -/
def mlen (w : World) : Option Nat → Nat
  | none => 0
  | some b => match w.heap[b]? with | some (.map es _) => es.size | _ => 0
/-- A map's value: nil, or it leads to a map. -/
def mOk (w : World) : Option Nat → Prop
  | none => True
  | some b => ∃ es c, w.heap[b]? = some (.map es c)

theorem run_len (t k e ty : TypeId) (ht : Yba.prog.underlying t = some (.map k e)) (W : World) (m : Option Nat) (h : mOk W m) : (Builtin.len_ #[t] ty #[.map m]).run Yba.prog W = .ok (.int .i64 (mlen W m)) W := by
  cases m with
  | none => simp [Builtin.len_, run_underlying ht, mlen, goInt]
  | some b =>
    obtain ⟨es, c, hb⟩ := h
    have hg := MapKept.run_getObj_map (P := Yba.prog) hb
    simp [Builtin.len_, run_underlying ht, hg, mlen, hb, goInt]
theorem run_len29 (ty : TypeId) (W : World) (m : Option Nat) (h : mOk W m) : (Builtin.len_ #[29] ty #[.map m]).run Yba.prog W = .ok (.int .i64 (mlen W m)) W := run_len 29 24 36 ty Yba.underlying29 W m h
theorem run_len38 (ty : TypeId) (W : World) (m : Option Nat) (h : mOk W m) : (Builtin.len_ #[38] ty #[.map m]).run Yba.prog W = .ok (.int .i64 (mlen W m)) W := run_len 38 24 4 ty Yba.underlying38 W m h

theorem heap_at_of_same {w w' : World} {b : Nat} (h : w'.heap[b]? = w.heap[b]?) : mlen w' (some b) = mlen w (some b) ∧ (mOk w' (some b) ↔ mOk w (some b)) := by
  simp [mlen, mOk, h]
theorem mOk_alloc (w : World) (o : Obj) (m : Option Nat) (h : mOk w m) : mOk (w.alloc o) m := by
  cases m with
  | none => trivial
  | some b => obtain ⟨es, c, hb⟩ := h; exact ⟨es, c, (Below.heap_alloc w o b (Array.getElem?_eq_some_iff.1 hb).1).trans hb⟩
theorem mlen_alloc (w : World) (o : Obj) (m : Option Nat) (h : mOk w m) : mlen (w.alloc o) m = mlen w m := by
  cases m with
  | none => rfl
  | some b => obtain ⟨es, c, hb⟩ := h; simp only [mlen, Below.heap_alloc w o b (Array.getElem?_eq_some_iff.1 hb).1]
theorem mOk_drew (w : World) (m : Option Nat) : mOk w.drew m = mOk w m := by cases m <;> rfl
theorem mlen_drew (w : World) (m : Option Nat) : mlen w.drew m = mlen w m := by cases m <;> rfl
theorem mOk_drewN (w : World) (n : Nat) (m : Option Nat) : mOk (w.drewN n) m = mOk w m := by cases m <;> rfl
theorem mlen_drewN (w : World) (n : Nat) (m : Option Nat) : mlen (w.drewN n) m = mlen w m := by cases m <;> rfl
theorem m_below {B : Nat} {w w' : World} (h : Below B w w') {m : Option Nat} (hm : mOk w m) (hB : ∀ b, m = some b → b < B) : mOk w' m ∧ mlen w' m = mlen w m := by
  cases m with
  | none => exact ⟨trivial, rfl⟩
  | some b =>
    have e := h.block b (hB b rfl)
    exact ⟨(heap_at_of_same e).2.2 hm, (heap_at_of_same e).1⟩
theorem m_owns {w : World} {b n : Nat} {D : DataW Unit} {R : Value → Option (DataW Unit × List MemPlace)} (h : w.ownsMap Yba.prog 24 R b n D) : mOk w (some b) ∧ mlen w (some b) = Maps.size D := by
  obtain ⟨es, c, hb, _, _, rfl⟩ := h
  refine ⟨⟨es, c, hb⟩, ?_⟩
  simp [mlen, hb, Maps.size, length_sorted]
end Go.Proofs.Ybulkduwi
