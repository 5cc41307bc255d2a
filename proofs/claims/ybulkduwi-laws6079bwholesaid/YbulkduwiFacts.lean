/-
  This program's types: their zero values behind names, their literals, whole loads and stores.
-/
import Derived.Test.YbulkduwiRowLaws
namespace Go.Proofs.Ybulkduwi
open Go.RowKit

/-! The operations on whole rows behind names of our own, so that the walk does not open them cell by cell. -/
def rowLoad (t : TypeId) (v : Value) : Sem Value := Instr.loadAt t v
def rowStore (t : TypeId) (p v : Value) : Sem Unit := Instr.storeAt t p v
def rowBuild (t : TypeId) (ps : Array (Nat × Value)) : Sem Value := Instr.build t ps
section
variable (ρ : Operand → Value) (dst : Option Tmp) (x y : Operand) (ps : Array (Nat × Operand)) (ty : TypeId) (pos : String) (after : Array Edge) (guard : Option (Nat × Bool))
theorem exec_load24 : execOp ρ { dst, op := .load 24 x, type := ty, pos, after, guard } = (do pure (.value (← rowLoad 24 (ρ x)))) := rfl
theorem exec_store24 : execOp ρ { dst, op := .store 24 x y, type := ty, pos, after, guard } = (do rowStore 24 (ρ x) (ρ y); pure .skip) := rfl
theorem exec_load53 : execOp ρ { dst, op := .load 53 x, type := ty, pos, after, guard } = (do pure (.value (← rowLoad 53 (ρ x)))) := rfl
theorem exec_store53 : execOp ρ { dst, op := .store 53 x y, type := ty, pos, after, guard } = (do rowStore 53 (ρ x) (ρ y); pure .skip) := rfl
theorem exec_load56 : execOp ρ { dst, op := .load 56 x, type := ty, pos, after, guard } = (do pure (.value (← rowLoad 56 (ρ x)))) := rfl
theorem exec_store56 : execOp ρ { dst, op := .store 56 x y, type := ty, pos, after, guard } = (do rowStore 56 (ρ x) (ρ y); pure .skip) := rfl
theorem exec_load58 : execOp ρ { dst, op := .load 58 x, type := ty, pos, after, guard } = (do pure (.value (← rowLoad 58 (ρ x)))) := rfl
theorem exec_store58 : execOp ρ { dst, op := .store 58 x y, type := ty, pos, after, guard } = (do rowStore 58 (ρ x) (ρ y); pure .skip) := rfl
theorem exec_build36 : execOp ρ { dst, op := .build 36 ps, type := ty, pos, after, guard } = (do pure (.value (← rowBuild 36 (ps.map fun (i, x) => (i, ρ x))))) := rfl
theorem exec_build44 : execOp ρ { dst, op := .build 44 ps, type := ty, pos, after, guard } = (do pure (.value (← rowBuild 44 (ps.map fun (i, x) => (i, ρ x))))) := rfl
theorem exec_build49 : execOp ρ { dst, op := .build 49 ps, type := ty, pos, after, guard } = (do pure (.value (← rowBuild 49 (ps.map fun (i, x) => (i, ρ x))))) := rfl
theorem exec_build53 : execOp ρ { dst, op := .build 53 ps, type := ty, pos, after, guard } = (do pure (.value (← rowBuild 53 (ps.map fun (i, x) => (i, ρ x))))) := rfl
theorem exec_build56 : execOp ρ { dst, op := .build 56 ps, type := ty, pos, after, guard } = (do pure (.value (← rowBuild 56 (ps.map fun (i, x) => (i, ρ x))))) := rfl
theorem exec_build58 : execOp ρ { dst, op := .build 58 ps, type := ty, pos, after, guard } = (do pure (.value (← rowBuild 58 (ps.map fun (i, x) => (i, ρ x))))) := rfl
end
theorem run_load24 (W : World) (b o : Nat) (h : o + 32 ≤ (arr W b).size) : (rowLoad 24 (.pointer (some ⟨b, o, none⟩))).run Yba.prog W = .ok (.agg (cut (arr W b) o 32)) W :=
  load_row 24 32 _ Yba.underlying24 rfl (by kernel_rfl) W b o h
theorem run_store24 (W : World) (b : Nat) (c : Array Value) (h : rowOk W b 32) (hc : c.size = 32) (h1 : Ones c) : (rowStore 24 (.pointer (some ⟨b, 0, none⟩)) (.agg c)).run Yba.prog W = .ok () (W.setRow b c) :=
  store_row 24 32 (by kernel_rfl) W b c h hc h1
theorem run_load53 (W : World) (b o : Nat) (h : o + 37 ≤ (arr W b).size) : (rowLoad 53 (.pointer (some ⟨b, o, none⟩))).run Yba.prog W = .ok (.agg (cut (arr W b) o 37)) W :=
  load_row 53 37 _ Yba.underlying53 rfl (by kernel_rfl) W b o h
theorem run_store53 (W : World) (b : Nat) (c : Array Value) (h : rowOk W b 37) (hc : c.size = 37) (h1 : Ones c) : (rowStore 53 (.pointer (some ⟨b, 0, none⟩)) (.agg c)).run Yba.prog W = .ok () (W.setRow b c) :=
  store_row 53 37 (by kernel_rfl) W b c h hc h1
theorem run_load56 (W : World) (b o : Nat) (h : o + 34 ≤ (arr W b).size) : (rowLoad 56 (.pointer (some ⟨b, o, none⟩))).run Yba.prog W = .ok (.agg (cut (arr W b) o 34)) W :=
  load_row 56 34 _ Yba.underlying56 rfl (by kernel_rfl) W b o h
theorem run_store56 (W : World) (b : Nat) (c : Array Value) (h : rowOk W b 34) (hc : c.size = 34) (h1 : Ones c) : (rowStore 56 (.pointer (some ⟨b, 0, none⟩)) (.agg c)).run Yba.prog W = .ok () (W.setRow b c) :=
  store_row 56 34 (by kernel_rfl) W b c h hc h1
theorem run_load58 (W : World) (b o : Nat) (h : o + 67 ≤ (arr W b).size) : (rowLoad 58 (.pointer (some ⟨b, o, none⟩))).run Yba.prog W = .ok (.agg (cut (arr W b) o 67)) W :=
  load_row 58 67 _ Yba.underlying58 rfl (by kernel_rfl) W b o h
theorem run_store58 (W : World) (b : Nat) (c : Array Value) (h : rowOk W b 67) (hc : c.size = 67) (h1 : Ones c) : (rowStore 58 (.pointer (some ⟨b, 0, none⟩)) (.agg c)).run Yba.prog W = .ok () (W.setRow b c) :=
  store_row 58 67 (by kernel_rfl) W b c h hc h1

/-- A type's zero value as an array behind a name. -/
def Zero (t : TypeId) (n : Nat) (z : Array Value) : Prop := z.size = n ∧ (∀ w, (zeroValue t).run Yba.prog w = .ok (.agg z) w) ∧ Ones z
theorem zero24 : ∃ z, Zero 24 32 z ∧ z = (Array.replicate 32 (Value.int .u8 0)) := ⟨_, ⟨by kernel_rfl, fun w => by kernel_rfl, Ones.of_all (by kernel_rfl)⟩, rfl⟩
theorem zero53 : ∃ z, Zero 53 37 z ∧ z[3]? = some (.pointer none) ∧ z[4]? = some (.pointer none) := by
  refine ⟨match (Yba.prog.info? 53).bind (·.zero) with | some (.agg cs) => cs | _ => #[], ⟨?_, fun w => ?_, Ones.of_all ?_⟩, ?_, ?_⟩
  all_goals kernel_rfl
theorem zero56 : ∃ z, Zero 56 34 z := by
  refine ⟨match (Yba.prog.info? 56).bind (·.zero) with | some (.agg cs) => cs | _ => #[], ?_, fun w => ?_, Ones.of_all ?_⟩
  all_goals kernel_rfl
theorem zero58 : ∃ z, Zero 58 67 z := by
  refine ⟨match (Yba.prog.info? 58).bind (·.zero) with | some (.agg cs) => cs | _ => #[], ?_, fun w => ?_, Ones.of_all ?_⟩
  all_goals kernel_rfl
theorem zero49 : ∃ z, Zero 49 108 z := by
  refine ⟨match (Yba.prog.info? 49).bind (·.zero) with | some (.agg cs) => cs | _ => #[], ?_, fun w => ?_, Ones.of_all ?_⟩
  all_goals kernel_rfl
theorem zero44 : ∃ z, Zero 44 489 z := by
  refine ⟨match (Yba.prog.info? 44).bind (·.zero) with | some (.agg cs) => cs | _ => #[], ?_, fun w => ?_, Ones.of_all ?_⟩
  all_goals kernel_rfl
theorem zero36 : ∃ z, Zero 36 259 z := by
  refine ⟨match (Yba.prog.info? 36).bind (·.zero) with | some (.agg cs) => cs | _ => #[], ?_, fun w => ?_, Ones.of_all ?_⟩
  all_goals kernel_rfl
end Go.Proofs.Ybulkduwi
