/-
  State.Get.
-/
import Derived.Test.YbulkduzaState
import Derived.Maps.OwnSet
namespace Go.Proofs.Ybulkduza
open Go.RowKit

/-- A pointer to a block's head, as datum: the block's number. -/
def ptrElem : Value → Option (DataW Unit × List MemPlace)
  | .pointer (some ⟨P, 0, none⟩) => some (.lit (.int .u64 P), [])
  | .pointer none => some (.nil, [])
  | _ => none
theorem ptrElem_some {v : Value} {P : Nat} {ps : List MemPlace} (h : ptrElem v = some (.lit (.int .u64 P), ps)) : v = .pointer (some ⟨P, 0, none⟩) := by
  unfold ptrElem at h
  split at h
  · simp at h; obtain ⟨h1, _⟩ := h; rw [show _ = P from Int.ofNat.inj h1]
  · simp at h
  · simp at h
theorem zero36 (w : World) : (zeroValue 36).run Yba.prog w = .ok (.pointer none) w := by kernel_rfl
theorem keyed9 : Maps.Keyed Yba.prog 9 := Maps.string_keyed Yba.underlying9

set_option maxRecDepth 100000 in
set_option maxHeartbeats 1000000 in
theorem get_some (S M n P : Nat) (D : DataW Unit) (kl : Lit) (key : ByteArray) (w : World) (hS : w.cell? ⟨S, 0, none⟩ = some (.map (some M))) (hown : w.ownsMap Yba.prog 9 ptrElem M n D) (hkey : keyOf Yba.prog 9 (.string key) = some kl)
    (hh : Maps.has D kl = true) (hP : D.atKey kl .nil = .lit (.int .u64 P)) :
    Calls Yba.prog 9 #[.pointer (some ⟨S, 0, none⟩), .string key] w fun e w' => e = .returned (.pointer (some ⟨P, 0, none⟩)) ∧ w' = w := by
  go_enter Yba.func9, Yba.ntmps9
  go_wp2_with (at_lookup; refine wpList_lookup_own_ok _ rfl _ _ 76 rfl 9 36 keyed9 Yba.underlying76 ptrElem (zero36 _) .nil [] rfl M n D rfl hown _ _ rfl hkey ?_; intro v ps hv; rw [hP] at hv; obtain rfl := ptrElem_some hv; rw [hh])
  go_ret
  exact ⟨rfl, rfl⟩
set_option maxRecDepth 100000 in
set_option maxHeartbeats 1000000 in
theorem get_none (S M n : Nat) (D : DataW Unit) (kl : Lit) (key : ByteArray) (w : World) (hS : w.cell? ⟨S, 0, none⟩ = some (.map (some M))) (hown : w.ownsMap Yba.prog 9 ptrElem M n D) (hkey : keyOf Yba.prog 9 (.string key) = some kl)
    (hh : Maps.has D kl = false) :
    Calls Yba.prog 9 #[.pointer (some ⟨S, 0, none⟩), .string key] w fun e w' => e = .returned (.pointer (some ⟨w.heap.size, 0, none⟩)) ∧ w' = w.alloc (.cells #[.bool false, .slice none 0 0] 83) := by
  go_enter Yba.func9, Yba.ntmps9
  go_wp2_with (at_lookup; refine wpList_lookup_own_ok _ rfl _ _ 76 rfl 9 36 keyed9 Yba.underlying76 ptrElem (zero36 _) .nil [] rfl M n D rfl hown _ _ rfl hkey ?_; intro v ps hv; rw [hh])
  go_ret
  exact ⟨rfl, rfl⟩
end Go.Proofs.Ybulkduza
