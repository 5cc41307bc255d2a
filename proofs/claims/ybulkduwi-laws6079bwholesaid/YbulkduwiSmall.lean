import Derived.Test.YbulkduwiBuilds
import Derived.Deep.QuietTactic
import Derived.BigQuiet
namespace Go.Proofs.Ybulkduwi
open Go.RowKit

set_option maxHeartbeats 400000 in
theorem newest_none (S : Nat) (aa : Option Addr) (cp : Nat) (w : World) (h : w.cell? ⟨S, 104, none⟩ = some (.slice aa 0 cp)) :
    Calls Yba.prog 6 #[.pointer (some ⟨S, 0, none⟩)] w fun e w' => e = .returned (.pointer none) ∧ w' = w := by
  go_enter Yba.func6, Yba.ntmps6
  go_wp2
  go_ret
  exact ⟨rfl, rfl⟩

set_option maxHeartbeats 400000 in
theorem newest_some (S A n cp : Nat) (w : World) (h0 : 0 < n) (h1 : n ≤ 1048576) (h : w.cell? ⟨S, 104, none⟩ = some (.slice (some ⟨A, 0, none⟩) n cp)) :
    Calls Yba.prog 6 #[.pointer (some ⟨S, 0, none⟩)] w fun e w' => e = .returned (.pointer (some ⟨A, (n - 1) * 34, none⟩)) ∧ ∃ k, w' = w.drewN k := by
  have hb : ((n : Int) == 0) = false := by simp; omega
  have e1 : ((n : Int) - 1).toNat = n - 1 := by omega
  go_enter Yba.func6, Yba.ntmps6
  go_wp2
  go_quiet (fail)
  go_wp2
  go_ret
  exact ⟨rfl, _, rfl⟩

set_option maxHeartbeats 400000 in
theorem upc_nil (S : Nat) (w : World) (h : w.cell? ⟨S, 106, none⟩ = some (.pointer none)) :
    Calls Yba.prog 7 #[.pointer (some ⟨S, 0, none⟩)] w fun e w' => e = .returned (.pointer none) ∧ ∃ k, w' = w.drewN k := by
  go_enter Yba.func7, Yba.ntmps7
  go_wp2
  go_quiet (fail)
  go_wp2
  go_ret
  exact ⟨rfl, _, rfl⟩

set_option maxHeartbeats 400000 in
theorem upc_yes (S E : Nat) (ep pe : Int) (w : World) (h : w.cell? ⟨S, 106, none⟩ = some (.pointer (some ⟨E, 0, none⟩))) (hE : w.cell? ⟨E, 390, none⟩ = some (.int .u64 pe)) (he : w.cell? ⟨S, 98, none⟩ = some (.int .u64 ep))
    (hu : (pe != IntKind.u64.wrap (ep + 1)) = false) :
    Calls Yba.prog 7 #[.pointer (some ⟨S, 0, none⟩)] w fun e w' => e = .returned (.pointer (some ⟨E, 0, none⟩)) ∧ ∃ k, w' = w.drewN k := by
  go_enter Yba.func7, Yba.ntmps7
  go_wp2
  go_quiet (fail)
  go_wp2
  go_ret
  exact ⟨rfl, _, rfl⟩

set_option maxHeartbeats 400000 in
theorem upc_no (S E : Nat) (ep pe : Int) (w : World) (h : w.cell? ⟨S, 106, none⟩ = some (.pointer (some ⟨E, 0, none⟩))) (hE : w.cell? ⟨E, 390, none⟩ = some (.int .u64 pe)) (he : w.cell? ⟨S, 98, none⟩ = some (.int .u64 ep))
    (hu : (pe != IntKind.u64.wrap (ep + 1)) = true) :
    Calls Yba.prog 7 #[.pointer (some ⟨S, 0, none⟩)] w fun e w' => e = .returned (.pointer none) ∧ ∃ k, w' = w.drewN k := by
  go_enter Yba.func7, Yba.ntmps7
  go_wp2
  go_quiet (fail)
  go_wp2
  go_ret
  exact ⟨rfl, _, rfl⟩
end Go.Proofs.Ybulkduwi
