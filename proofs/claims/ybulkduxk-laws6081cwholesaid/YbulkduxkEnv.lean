import Derived.Test.YbulkduxkWith
namespace Go.Proofs.Ybulkduxk
open Go.RowKit

/-- What 'environmentForm' has gathered behind k rounds: a key and a value a variable. -/
def mem (nm vl : Nat → ByteArray) : Nat → List Value
  | 0 => []
  | k + 1 => mem nm vl k ++ [.string (nm k), .iface 9 (.string (vl k))]

set_option maxHeartbeats 400000 in
theorem env_some (b off len cap : Nat) (nm vl : Nat → ByteArray) (w : World) (hlen : len ≤ 1048576)
    (hc : ∀ i, i < len → w.cell? ⟨b, off + i * 2, none⟩ = some (.string (nm i)) ∧ w.cell? ⟨b, off + i * 2 + 1, none⟩ = some (.string (vl i))) :
    Calls Yba.prog 5 #[.slice (some ⟨b, off, none⟩) len cap] w fun e w' => ∃ v', e = .returned v' ∧ w'.ownsRow w.heap.size 30 2 v' len (mem nm vl len) ∧ Below w.heap.size w w' := by
  go_enter Yba.func5, Yba.ntmps5
  go_wp2
  go_loopw [3, 8] (fun v i wr => ∃ k : Nat, k ≤ len ∧ i = .int .i64 k ∧ wr.ownsRow w.heap.size 30 2 v k (mem nm vl k) ∧ Below w.heap.size w wr) (fun _ i _ => len - (intOf i).toNat)
  case atStart => exact ⟨0, Nat.zero_le _, rfl, World.ownsRow_nil _ _ _ _, Below.refl _ _⟩
  case round =>
    obtain ⟨k, hk, rfl, hown, hnx⟩ := hrel
    by_cases hlt : k < len
    · have hb := World.block_lt_of_cell? w _ (hc k hlt).1
      have c1 : wr.cell? ⟨b, off + k * 2, none⟩ = some (.string (nm k)) := (hnx.cell (by exact hb)).trans (hc k hlt).1
      have c2 : wr.cell? ⟨b, off + k * 2 + 1, none⟩ = some (.string (vl k)) := (hnx.cell (by exact hb)).trans (hc k hlt).2
      clear hb hc
      go_wp2_with (go_at_call 6; refine (with_own w.heap.size k (mem nm vl k) _ _ _ _ (hown.alloc _) (by have := hnx.size; simp; omega) (by omega)).mono ?_; rintro e w1 ⟨v1, rfl, hown1, hgrow1⟩)
      go_roundw
      case rel => exact ⟨k + 1, by omega, by go_num, hown1, (hnx.alloc hnx.size _).grown hgrow1 (by have := hnx.size; simp; omega) (fun j hj => (hown.lt j hj).1)⟩
      case measure => simp [intOf]; omega
    · obtain rfl : k = len := by omega
      go_wp2
      go_ret
      exact ⟨_, rfl, hown, hnx⟩
end Go.Proofs.Ybulkduxk
