import Derived.Test.YbulkduxyGroup
namespace Go.Proofs.Ybulkduxy
open Go.RowKit

set_option maxRecDepth 100000 in
set_option maxHeartbeats 1000000 in
theorem law_none (a1 a2 a3 : Bool) (w : World) :
    Calls Yba.prog 3 #[.bool false, .bool a1, .bool a2, .bool a3] w fun e w' => e = .returned (.bool true) ∧ Below w.heap.size w w' := by
  obtain ⟨z, zs, hz, z0, z1, -, z3, -⟩ := zGroup
  have e66 := q66
  have e26 := q26
  go_enter Yba.func3, Yba.ntmps3
  go_wp2_with fail
  refine (parentDone_nil w.heap.size _ (by simp [zs, z0])).mono ?_
  rintro e w1 ⟨rfl, rfl⟩
  go_wp2_with (go_at_call 6; refine (boolLoad w.heap.size 3 0 _ (by simp [zs, z3])).mono ?_; rintro e w1 ⟨rfl, rfl⟩)
  go_ret
  exact ⟨rfl, (Below.refl _ _).alloc (Nat.le_refl _) _⟩

set_option maxRecDepth 100000 in
set_option maxHeartbeats 1000000 in
theorem law_noch (a2 a3 : Bool) (w : World) :
    Calls Yba.prog 3 #[.bool true, .bool false, .bool a2, .bool a3] w fun e w' => e = .returned (.bool true) ∧ Below w.heap.size w w' := by
  obtain ⟨z, zs, hz, z0, z1, -, z3, -⟩ := zGroup
  have hne : ¬ z = #[] := fun e => by simp [e] at zs
  have e66 := q66
  have e66' := n66
  have e69' := n69
  have e26 := q26
  have e70 := q70
  have hta := ta70
  have hw1 : wrap64 1 = 1 := by unfold wrap64; omega
  go_enter Yba.func3, Yba.ntmps3
  go_wp2_with fail
  refine (parentDone_some (w.heap.size + 1) w.heap.size none 0 _ ?c1 ?c2 ?c3 ?c4).mono ?_
  case c1 => go_simp
  case c2 => go_simp
  case c3 => go_simp
  case c4 => go_simp
  rintro e w1 ⟨rfl, rfl⟩
  go_wp2_with (go_at_call 6; refine (boolLoad (w.heap.size + 1) 3 0 _ (by simp [zs, z3])).mono ?_; rintro e w1 ⟨rfl, rfl⟩)
  go_ret
  exact ⟨rfl, ((Below.refl _ _).alloc (Nat.le_refl _) _).alloc (by simp) _⟩

set_option maxRecDepth 100000 in
set_option maxHeartbeats 1000000 in
theorem law_open (a3 : Bool) (w : World) :
    Calls Yba.prog 3 #[.bool true, .bool true, .bool false, .bool a3] w fun e w' => e = .returned (.bool true) ∧ Below w.heap.size w w' := by
  obtain ⟨z, zs, hz, z0, z1, -, z3, -⟩ := zGroup
  have hne : ¬ z = #[] := fun e => by simp [e] at zs
  have e66 := q66
  have e66' := n66
  have e69' := n69
  have e26 := q26
  have e70 := q70
  have hta := ta70
  have hmk := make69
  have hw1 : wrap64 1 = 1 := by unfold wrap64; omega
  go_enter Yba.func3, Yba.ntmps3
  go_wp2_with fail
  refine (parentDone_some (w.heap.size + 1 + 1) (w.heap.size + 1) (some w.heap.size) 0 _ ?c1 ?c2 ?c3 ?c4).mono ?_
  case c1 => go_simp
  case c2 => go_simp
  case c3 => go_simp
  case c4 => go_simp
  rintro e w1 ⟨rfl, rfl⟩
  go_wp2_with (go_at_call 6; refine (boolLoad (w.heap.size + 1 + 1) 3 0 _ (by go_simp)).mono ?_; rintro e w1 ⟨rfl, rfl⟩)
  go_ret
  exact ⟨rfl, (((Below.refl _ _).alloc (Nat.le_refl _) _).alloc (by simp) _).alloc (by simp; omega) _⟩

set_option maxRecDepth 100000 in
set_option maxHeartbeats 1000000 in
theorem law_closed (a3 : Bool) (w : World) :
    Calls Yba.prog 3 #[.bool true, .bool true, .bool true, .bool a3] w fun e w' => e = .returned (.bool true) ∧ Below w.heap.size w w' := by
  obtain ⟨z, zs, hz, z0, z1, -, z3, -⟩ := zGroup
  have hne : ¬ z = #[] := fun e => by simp [e] at zs
  have e66 := q66
  have e66' := n66
  have e69' := n69
  have e26 := q26
  have e70 := q70
  have hta := ta70
  have hmk := make69
  have hcl := close_new
  have hw1 : wrap64 1 = 1 := by unfold wrap64; omega
  go_enter Yba.func3, Yba.ntmps3
  go_wp2_with fail
  refine (parentDone_some (w.heap.size + 1 + 1) (w.heap.size + 1) (some w.heap.size) 0 _ ?c1 ?c2 ?c3 ?c4).mono ?_
  case c1 => go_simp
  case c2 => go_simp
  case c3 => go_simp
  case c4 => go_simp
  rintro e w1 ⟨rfl, rfl⟩
  go_wp2_with (go_at_call 6; refine (boolLoad (w.heap.size + 1 + 1) 3 0 _ (by go_simp)).mono ?_; rintro e w1 ⟨rfl, rfl⟩)
  go_ret
  exact ⟨rfl, (((Below.refl _ _).alloc (Nat.le_refl _) _).alloc (by simp) _).alloc (by simp; omega) _⟩
end Go.Proofs.Ybulkduxy
