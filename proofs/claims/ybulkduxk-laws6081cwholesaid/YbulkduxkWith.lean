import Derived.Test.YbulkduxkRows
import Derived.WalkKit
import Derived.WalkSpells
import Derived.WalkLawsBesides
namespace Go.Proofs.Ybulkduxk
open Go.RowKit

theorem Yba.info30 : (Yba.prog.info? 30).map (fun i => (i.zero, i.size, i.bytes)) = some (some (.agg #[.string ByteArray.empty, .nilIface]), 2, 32) := by kernel_rfl
theorem Yba.info28 : (Yba.prog.info? 28).map (fun i => (i.zero, i.size, i.bytes)) = some (some (.agg #[.string ByteArray.empty, .string ByteArray.empty]), 2, 32) := by kernel_rfl

theorem cells_two_new (w : World) (x y : Value) (t : TypeId) : ∀ (j : Nat) (u : Value), [x, y][j]? = some u → (w.alloc (.cells #[x, y] t)).cell? ((⟨w.heap.size, 0, none⟩ : Addr).add j) = some u := by
  intro j u hj
  match j, hj with
  | 0, hj => simp at hj; subst hj; simp [Addr.add]
  | 1, hj => simp at hj; subst hj; simp [Addr.add]

set_option maxHeartbeats 400000 in
theorem with_own (B n : Nat) (xs : List Value) (o : Value) (k s : ByteArray) (w : World) (hown : w.ownsRow B 30 2 o n xs) (hB : B ≤ w.heap.size) (hn : n ≤ 1048576) :
    Calls Yba.prog 6 #[o, .string k, .iface 9 (.string s)] w fun e w' => ∃ v', e = .returned v' ∧ w'.ownsRow B 30 2 v' (n + 1) (xs ++ [.string k, .iface 9 (.string s)]) ∧ w.grownBy w' o.ownBlock := by
  obtain ⟨i0, hi, hz0, hz1, hz2⟩ := info_parts Yba.info30
  go_enter Yba.func6, Yba.ntmps6
  go_wp2_with (at_builtin; refine wpList_append_own _ rfl _ _ 25 rfl B 30 i0 (.agg #[.string ByteArray.empty, .nilIface]) 2 32 Yba.underlying25 hi hz0 hz1 hz2 rfl (by decide) _ _ _ rfl (hown.alloc _) ⟨w.heap.size, 0, none⟩ 1 1 [.string k, .iface 9 (.string s)] rfl rfl (cells_two_new _ _ _ _) (by simp [Value.oneCell']) (by unfold maxLen; omega) (by omega) (by simp; omega) ?_; intro v' w1 hown1 hgrow1 _)
  go_ret
  exact ⟨_, rfl, hown1, (World.grownBy_alloc _ _ _).trans hgrow1⟩
end Go.Proofs.Ybulkduxk
