import Derived.Test.YbulkduwiStatus
import Derived.Deep.RegionHeld3
import Derived.Test.YbulkduwiKey
import Derived.BigRegion
import Derived.Deep.DrawnRows
import Derived.Deep.CutRange
namespace Go.Proofs.Ybulkduwi
open Go.RowKit
attribute [local go_sem ↓] exec_load24 exec_store24 exec_load53 exec_store53 exec_load56 exec_store56 exec_load58 exec_store58 exec_build53 exec_build58 Go.wp_at_zero Go.wp_at_succ
attribute [local go_sem] run_load24 run_load53 run_load56 run_load58 run_store24 run_store53 run_store56 run_store58 arr_new arr_old arr_drew arr_drewN rowOk_new rowOk_old rowOk_drew rowOk_drewN setRow_new setRow_old setRow_drew setRow_drewN alloc_drewN setCell_drewN run_len29 run_len38 mOk_drew mlen_drew mOk_drewN mlen_drewN

set_option maxRecDepth 100000 in
set_option maxHeartbeats 2000000 in
theorem status_py (S : Nat) (sA hd : Array Value) (ep pl : Int) (mm : Option Nat) (A n cp : Nat) (aA la : Array Value) (E : Nat) (pe : Int) (eA c m : Array Value) (g : Int) (am : Option Nat) (w : World)
    (hS : S < w.heap.size) (hA : arr w S = sA) (hs : sA.size = 108) (hh : cut sA 1 32 = hd) (hhs : hd.size = 32) (hh1 : Ones hd)
    (h98 : w.cell? ⟨S, 98, none⟩ = some (.int .u64 ep)) (h100 : w.cell? ⟨S, 100, none⟩ = some (.int .u64 pl)) (h101 : w.cell? ⟨S, 101, none⟩ = some (.map mm)) (hm : mOk w mm)
    (h104 : w.cell? ⟨S, 104, none⟩ = some (.slice (some ⟨A, 0, none⟩) n cp)) (hn0 : 0 < n) (hn1 : n ≤ 1048576) (hAl : A < w.heap.size) (hAA : arr w A = aA) (hAs : (n - 1) * 34 + 34 ≤ aA.size) (hla : cut aA ((n - 1) * 34) 34 = la) (hla1 : Ones la) (hlas : la.size = 34)
    (h106 : w.cell? ⟨S, 106, none⟩ = some (.pointer (some ⟨E, 0, none⟩))) (hEl : E < w.heap.size) (hE : w.cell? ⟨E, 390, none⟩ = some (.int .u64 pe)) (hu : (pe != IntKind.u64.wrap (ep + 1)) = false)
    (hEA : arr w E = eA) (hEs : eA.size = 489) (hEg : w.cell? ⟨E, 389, none⟩ = some (.int .u64 g)) (hEc : cut eA 391 32 = c) (hEm : cut eA 99 32 = m) (hcs : c.size = 32) (hms : m.size = 32) (hc1 : Ones c) (hm1' : Ones m) (h107 : w.cell? ⟨S, 107, none⟩ = some (.map am)) (ha : mOk w am) :
    Calls Yba.prog 5 #[.pointer (some ⟨S, 0, none⟩)] w fun e w' => ∃ stF, e = .returned (.agg stF) ∧ stF.size = 37 ∧ Ones stF ∧ stF[0]? = some (.int .u64 ep) ∧ stF[1]? = some (.int .i64 (mlen w mm)) ∧ stF[2]? = some (.int .u64 pl) ∧ cut stF 5 32 = hd ∧
      (∃ C, stF[3]? = some (.pointer (some ⟨C, 0, none⟩)) ∧ w.heap.size ≤ C ∧ w'.heap[C]? = some (.cells la 56 (0, 0))) ∧ (∃ F pA, stF[4]? = some (.pointer (some ⟨F, 0, none⟩)) ∧ w.heap.size ≤ F ∧ w'.heap[F]? = some (.cells pA 58 (0, 0)) ∧ ∀ W, (rowBuild 58 #[(0, .int .u64 g), (1, .int .u64 pe), (2, .agg c), (3, .agg m), (4, .int .i64 (mlen w am))]).run Yba.prog W = .ok (.agg pA) W) ∧ Below w.heap.size w w' := by
  obtain ⟨z, ⟨zs, hz, z1⟩, -, -⟩ := zero53
  obtain ⟨st, b1, b2, b3, b4, b5, b6, b7, b8, b9⟩ := B53 ep (mlen w mm) pl hd hhs hh1
  obtain ⟨y, ys, hy, y1⟩ := zero56
  obtain ⟨pA, p1, p2, p3⟩ := B58 g pe c m (mlen w am) hcs hms hc1 hm1'
  have ha1 := fun o => mOk_alloc w o am ha
  have ha2 := fun o o' => mOk_alloc (w.alloc o) o' am (ha1 o)
  have ha3 := fun o o' o'' => mOk_alloc ((w.alloc o).alloc o') o'' am (ha2 o o')
  have ha4 := fun o o' o'' o4 => mOk_alloc (((w.alloc o).alloc o').alloc o'') o4 am (ha3 o o' o'')
  have hk1 := fun o => mlen_alloc w o am ha
  have hk2 := fun o o' => (mlen_alloc (w.alloc o) o' am (ha1 o)).trans (hk1 o)
  have hk3 := fun o o' o'' => (mlen_alloc ((w.alloc o).alloc o') o'' am (ha2 o o')).trans (hk2 o o')
  have hk4 := fun o o' o'' o4 => (mlen_alloc (((w.alloc o).alloc o').alloc o'') o4 am (ha3 o o' o'')).trans (hk3 o o' o'')
  have hS1 : S < w.heap.size + 1 := by omega
  have hS2 : S < w.heap.size + 1 + 1 := by omega
  have hS3 : S < w.heap.size + 1 + 1 + 1 := by omega
  have hS4 : S < w.heap.size + 1 + 1 + 1 + 1 := by omega
  have hAl1 : A < w.heap.size + 1 := by omega
  have hAl2 : A < w.heap.size + 1 + 1 := by omega
  have hAl3 : A < w.heap.size + 1 + 1 + 1 := by omega
  have hAl4 : A < w.heap.size + 1 + 1 + 1 + 1 := by omega
  have hEl1 : E < w.heap.size + 1 := by omega
  have hEl2 : E < w.heap.size + 1 + 1 := by omega
  have hEl3 : E < w.heap.size + 1 + 1 + 1 := by omega
  have hEl4 : E < w.heap.size + 1 + 1 + 1 + 1 := by omega
  have hw2 : w.heap.size < w.heap.size + 1 + 1 := by omega
  have hw3 : w.heap.size < w.heap.size + 1 + 1 + 1 := by omega
  have hw4 : w.heap.size + 1 < w.heap.size + 1 + 1 + 1 := by omega
  have hm1 := fun o => mOk_alloc w o mm hm
  have hm2 := fun o o' => mOk_alloc (w.alloc o) o' mm (hm1 o)
  have hl1 := fun o => mlen_alloc w o mm hm
  have hl2 := fun o o' => (mlen_alloc (w.alloc o) o' mm (hm1 o)).trans (hl1 o)
  have fs : ((st.setIfInBounds 3 (.pointer (some ⟨w.heap.size + 1 + 1, 0, none⟩))).setIfInBounds 4 (.pointer (some ⟨w.heap.size + 1 + 1 + 1, 0, none⟩))).size = 37 := by simp [b2]
  have f1 : Ones ((st.setIfInBounds 3 (.pointer (some ⟨w.heap.size + 1 + 1, 0, none⟩))).setIfInBounds 4 (.pointer (some ⟨w.heap.size + 1 + 1 + 1, 0, none⟩))) := ((b3.set 3 (.pointer (some ⟨w.heap.size + 1 + 1, 0, none⟩)) rfl).set 4 (.pointer (some ⟨w.heap.size + 1 + 1 + 1, 0, none⟩)) rfl)
  have hca := cut_all ((st.setIfInBounds 3 (.pointer (some ⟨w.heap.size + 1 + 1, 0, none⟩))).setIfInBounds 4 (.pointer (some ⟨w.heap.size + 1 + 1 + 1, 0, none⟩))) 37 fs
  have hbn : ((n : Int) == 0) = false := by simp; omega
  have R : Hid (((st.setIfInBounds 3 (.pointer (some ⟨w.heap.size + 1 + 1, 0, none⟩))).setIfInBounds 4 (.pointer (some ⟨w.heap.size + 1 + 1 + 1, 0, none⟩))).size = 37 ∧ Ones ((st.setIfInBounds 3 (.pointer (some ⟨w.heap.size + 1 + 1, 0, none⟩))).setIfInBounds 4 (.pointer (some ⟨w.heap.size + 1 + 1 + 1, 0, none⟩))) ∧ ((st.setIfInBounds 3 (.pointer (some ⟨w.heap.size + 1 + 1, 0, none⟩))).setIfInBounds 4 (.pointer (some ⟨w.heap.size + 1 + 1 + 1, 0, none⟩)))[0]? = some (.int .u64 ep) ∧ ((st.setIfInBounds 3 (.pointer (some ⟨w.heap.size + 1 + 1, 0, none⟩))).setIfInBounds 4 (.pointer (some ⟨w.heap.size + 1 + 1 + 1, 0, none⟩)))[1]? = some (.int .i64 (mlen w mm)) ∧ ((st.setIfInBounds 3 (.pointer (some ⟨w.heap.size + 1 + 1, 0, none⟩))).setIfInBounds 4 (.pointer (some ⟨w.heap.size + 1 + 1 + 1, 0, none⟩)))[2]? = some (.int .u64 pl) ∧ cut ((st.setIfInBounds 3 (.pointer (some ⟨w.heap.size + 1 + 1, 0, none⟩))).setIfInBounds 4 (.pointer (some ⟨w.heap.size + 1 + 1 + 1, 0, none⟩))) 5 32 = hd) :=
    ⟨fs, f1, by rw [set_get _ _ _ _ (by omega), set_get _ _ _ _ (by omega)]; exact b4, by rw [set_get _ _ _ _ (by omega), set_get _ _ _ _ (by omega)]; exact b5, by rw [set_get _ _ _ _ (by omega), set_get _ _ _ _ (by omega)]; exact b6, (cut_congr (by omega) (by omega) (fun k hk => by (repeat rw [set_get _ _ _ _ (by omega)]))).trans b9⟩
  have R3 : Hid (((st.setIfInBounds 3 (.pointer (some ⟨w.heap.size + 1 + 1, 0, none⟩))).setIfInBounds 4 (.pointer (some ⟨w.heap.size + 1 + 1 + 1, 0, none⟩)))[3]? = some (.pointer (some ⟨w.heap.size + 1 + 1, 0, none⟩))) := by show _ = _; rw [set_get _ _ _ _ (by omega), set_same _ _ _ (by omega)]
  have R4 : Hid (((st.setIfInBounds 3 (.pointer (some ⟨w.heap.size + 1 + 1, 0, none⟩))).setIfInBounds 4 (.pointer (some ⟨w.heap.size + 1 + 1 + 1, 0, none⟩)))[4]? = some (.pointer (some ⟨w.heap.size + 1 + 1 + 1, 0, none⟩))) := by show _ = _; rw [set_same _ _ _ (by first | omega | (simp; omega))]
  go_enter Yba.func5, Yba.ntmps5
  go_upto_region 1 with fail
  go_region
  clear b1 b4 b5 b6 b9 hm1 hm2 hl1 hl2 h100 h101 hA hs hh
  go_wp2_with (go_at_call 6; refine (newest_some S A n cp _ hn0 hn1 (by go_simp)).mono ?_; rintro e w1 ⟨rfl, k0, rfl⟩)
  go_wp2_with (go_at_call 7; refine (upc_yes S E ep pe _ (by go_simp) (by go_simp) (by go_simp) hu).mono ?_; rintro e w1 ⟨rfl, k, rfl⟩)
  refine wp_region_held_drew (S := fun w' => w'.cell? ⟨E, 389, none⟩ = some (.int .u64 g) ∧ w'.cell? ⟨E, 390, none⟩ = some (.int .u64 pe) ∧ w'.cell? ⟨S, 107, none⟩ = some (.map am) ∧ arr w' E = eA ∧ mOk w' am ∧ mlen w' am = mlen w am) (by kernel_rfl) ?_ (fun hHeld => ?_)
  · refine ⟨?_, ?_, ?_, ?_, ?_, ?_⟩ <;> go_simp
  refine wpAnyH_take (i := 0) (oi := { dst := some 37, op := .move (.tmp 6), type := 39, pos := _, after := _, guard := _ }) (v := .pointer (some ⟨E, 0, none⟩)) rfl (by kernel_rfl) (by kernel_rfl) (by kernel_rfl) (fun _ _ _ h => h) (Or.inl ⟨by rfl, fun wS hSw => ?_⟩) (by assumption) ?_
  · clear hHeld; dsimp only at hSw; go_simp
  simp only [Act.put, List.setIfInBounds_toArray, List.set_cons_zero, List.set_cons_succ]
  refine wpAnyH_take (i := 1) (oi := { dst := some 38, op := .nilCheck (.tmp 37), type := 0, pos := _, after := _, guard := _ }) (v := .pointer (some ⟨E, 0, none⟩)) rfl (by kernel_rfl) (by kernel_rfl) (by kernel_rfl) (fun _ _ _ h => h) (Or.inl ⟨by rfl, fun wS hSw => ?_⟩) (by assumption) ?_
  · clear hHeld; dsimp only at hSw; go_simp
  simp only [Act.put, List.setIfInBounds_toArray, List.set_cons_zero, List.set_cons_succ]
  refine wpAnyH_take (i := 2) (oi := { dst := some 39, op := .fieldAddr 44 (.tmp 38) 10, type := 0, pos := _, after := _, guard := _ }) (v := .pointer (some ⟨E, 389, none⟩)) rfl (by kernel_rfl) (by kernel_rfl) (by kernel_rfl) (fun _ _ _ h => h) (Or.inl ⟨by rfl, fun wS hSw => ?_⟩) (by assumption) ?_
  · clear hHeld; dsimp only at hSw; go_simp
  simp only [Act.put, List.setIfInBounds_toArray, List.set_cons_zero, List.set_cons_succ]
  refine wpAnyH_take (i := 3) (oi := { dst := some 40, op := .load 22 (.tmp 39), type := 22, pos := _, after := _, guard := _ }) (v := .int .u64 g) rfl (by kernel_rfl) (by kernel_rfl) (by kernel_rfl) (fun _ _ _ h => h) (Or.inl ⟨by rfl, fun wS hSw => ?_⟩) (by assumption) ?_
  · clear hHeld; dsimp only at hSw; go_simp
  simp only [Act.put, List.setIfInBounds_toArray, List.set_cons_zero, List.set_cons_succ]
  refine wpAnyH_take (i := 4) (oi := { dst := some 41, op := .move (.tmp 6), type := 39, pos := _, after := _, guard := _ }) (v := .pointer (some ⟨E, 0, none⟩)) rfl (by kernel_rfl) (by kernel_rfl) (by kernel_rfl) (fun _ _ _ h => h) (Or.inl ⟨by rfl, fun wS hSw => ?_⟩) (by assumption) ?_
  · clear hHeld; dsimp only at hSw; go_simp
  simp only [Act.put, List.setIfInBounds_toArray, List.set_cons_zero, List.set_cons_succ]
  refine wpAnyH_take (i := 5) (oi := { dst := some 42, op := .nilCheck (.tmp 41), type := 0, pos := _, after := _, guard := _ }) (v := .pointer (some ⟨E, 0, none⟩)) rfl (by kernel_rfl) (by kernel_rfl) (by kernel_rfl) (fun _ _ _ h => h) (Or.inl ⟨by rfl, fun wS hSw => ?_⟩) (by assumption) ?_
  · clear hHeld; dsimp only at hSw; go_simp
  simp only [Act.put, List.setIfInBounds_toArray, List.set_cons_zero, List.set_cons_succ]
  refine wpAnyH_take (i := 6) (oi := { dst := some 43, op := .fieldAddr 44 (.tmp 42) 11, type := 0, pos := _, after := _, guard := _ }) (v := .pointer (some ⟨E, 390, none⟩)) rfl (by kernel_rfl) (by kernel_rfl) (by kernel_rfl) (fun _ _ _ h => h) (Or.inl ⟨by rfl, fun wS hSw => ?_⟩) (by assumption) ?_
  · clear hHeld; dsimp only at hSw; go_simp
  simp only [Act.put, List.setIfInBounds_toArray, List.set_cons_zero, List.set_cons_succ]
  refine wpAnyH_take (i := 7) (oi := { dst := some 44, op := .load 22 (.tmp 43), type := 22, pos := _, after := _, guard := _ }) (v := .int .u64 pe) rfl (by kernel_rfl) (by kernel_rfl) (by kernel_rfl) (fun _ _ _ h => h) (Or.inl ⟨by rfl, fun wS hSw => ?_⟩) (by assumption) ?_
  · clear hHeld; dsimp only at hSw; go_simp
  simp only [Act.put, List.setIfInBounds_toArray, List.set_cons_zero, List.set_cons_succ]
  refine wpAnyH_take (i := 8) (oi := { dst := some 45, op := .move (.tmp 6), type := 39, pos := _, after := _, guard := _ }) (v := .pointer (some ⟨E, 0, none⟩)) rfl (by kernel_rfl) (by kernel_rfl) (by kernel_rfl) (fun _ _ _ h => h) (Or.inl ⟨by rfl, fun wS hSw => ?_⟩) (by assumption) ?_
  · clear hHeld; dsimp only at hSw; go_simp
  simp only [Act.put, List.setIfInBounds_toArray, List.set_cons_zero, List.set_cons_succ]
  refine wpAnyH_take (i := 9) (oi := { dst := some 46, op := .nilCheck (.tmp 45), type := 0, pos := _, after := _, guard := _ }) (v := .pointer (some ⟨E, 0, none⟩)) rfl (by kernel_rfl) (by kernel_rfl) (by kernel_rfl) (fun _ _ _ h => h) (Or.inl ⟨by rfl, fun wS hSw => ?_⟩) (by assumption) ?_
  · clear hHeld; dsimp only at hSw; go_simp
  simp only [Act.put, List.setIfInBounds_toArray, List.set_cons_zero, List.set_cons_succ]
  refine wpAnyH_take (i := 10) (oi := { dst := some 47, op := .fieldAddr 44 (.tmp 46) 12, type := 0, pos := _, after := _, guard := _ }) (v := .pointer (some ⟨E, 391, none⟩)) rfl (by kernel_rfl) (by kernel_rfl) (by kernel_rfl) (fun _ _ _ h => h) (Or.inl ⟨by rfl, fun wS hSw => ?_⟩) (by assumption) ?_
  · clear hHeld; dsimp only at hSw; go_simp
  simp only [Act.put, List.setIfInBounds_toArray, List.set_cons_zero, List.set_cons_succ]
  refine wpAnyH_take (i := 11) (oi := { dst := some 48, op := .load 24 (.tmp 47), type := 24, pos := _, after := _, guard := _ }) (v := .agg c) rfl (by kernel_rfl) (by kernel_rfl) (by kernel_rfl) (fun _ _ _ h => h) (Or.inl ⟨by rfl, fun wS hSw => ?_⟩) (by assumption) ?_
  · clear hHeld; dsimp only at hSw; go_simp
  simp only [Act.put, List.setIfInBounds_toArray, List.set_cons_zero, List.set_cons_succ]
  refine wpAnyH_take (i := 12) (oi := { dst := some 49, op := .move (.tmp 6), type := 39, pos := _, after := _, guard := _ }) (v := .pointer (some ⟨E, 0, none⟩)) rfl (by kernel_rfl) (by kernel_rfl) (by kernel_rfl) (fun _ _ _ h => h) (Or.inl ⟨by rfl, fun wS hSw => ?_⟩) (by assumption) ?_
  · clear hHeld; dsimp only at hSw; go_simp
  simp only [Act.put, List.setIfInBounds_toArray, List.set_cons_zero, List.set_cons_succ]
  refine wpAnyH_take (i := 13) (oi := { dst := some 50, op := .nilCheck (.tmp 49), type := 0, pos := _, after := _, guard := _ }) (v := .pointer (some ⟨E, 0, none⟩)) rfl (by kernel_rfl) (by kernel_rfl) (by kernel_rfl) (fun _ _ _ h => h) (Or.inl ⟨by rfl, fun wS hSw => ?_⟩) (by assumption) ?_
  · clear hHeld; dsimp only at hSw; go_simp
  simp only [Act.put, List.setIfInBounds_toArray, List.set_cons_zero, List.set_cons_succ]
  refine wpAnyH_take (i := 14) (oi := { dst := some 51, op := .fieldAddr 44 (.tmp 50) 6, type := 0, pos := _, after := _, guard := _ }) (v := .pointer (some ⟨E, 99, none⟩)) rfl (by kernel_rfl) (by kernel_rfl) (by kernel_rfl) (fun _ _ _ h => h) (Or.inl ⟨by rfl, fun wS hSw => ?_⟩) (by assumption) ?_
  · clear hHeld; dsimp only at hSw; go_simp
  simp only [Act.put, List.setIfInBounds_toArray, List.set_cons_zero, List.set_cons_succ]
  refine wpAnyH_take (i := 15) (oi := { dst := some 52, op := .load 24 (.tmp 51), type := 24, pos := _, after := _, guard := _ }) (v := .agg m) rfl (by kernel_rfl) (by kernel_rfl) (by kernel_rfl) (fun _ _ _ h => h) (Or.inl ⟨by rfl, fun wS hSw => ?_⟩) (by assumption) ?_
  · clear hHeld; dsimp only at hSw; go_simp
  simp only [Act.put, List.setIfInBounds_toArray, List.set_cons_zero, List.set_cons_succ]
  refine wpAnyH_take (i := 16) (oi := { dst := some 53, op := .move (.tmp 0), type := 45, pos := _, after := _, guard := _ }) (v := .pointer (some ⟨S, 0, none⟩)) rfl (by kernel_rfl) (by kernel_rfl) (by kernel_rfl) (fun _ _ _ h => h) (Or.inl ⟨by rfl, fun wS hSw => ?_⟩) (by assumption) ?_
  · clear hHeld; dsimp only at hSw; go_simp
  simp only [Act.put, List.setIfInBounds_toArray, List.set_cons_zero, List.set_cons_succ]
  refine wpAnyH_take (i := 17) (oi := { dst := some 54, op := .nilCheck (.tmp 53), type := 0, pos := _, after := _, guard := _ }) (v := .pointer (some ⟨S, 0, none⟩)) rfl (by kernel_rfl) (by kernel_rfl) (by kernel_rfl) (fun _ _ _ h => h) (Or.inl ⟨by rfl, fun wS hSw => ?_⟩) (by assumption) ?_
  · clear hHeld; dsimp only at hSw; go_simp
  simp only [Act.put, List.setIfInBounds_toArray, List.set_cons_zero, List.set_cons_succ]
  refine wpAnyH_take (i := 18) (oi := { dst := some 55, op := .fieldAddr 49 (.tmp 54) 14, type := 0, pos := _, after := _, guard := _ }) (v := .pointer (some ⟨S, 107, none⟩)) rfl (by kernel_rfl) (by kernel_rfl) (by kernel_rfl) (fun _ _ _ h => h) (Or.inl ⟨by rfl, fun wS hSw => ?_⟩) (by assumption) ?_
  · clear hHeld; dsimp only at hSw; go_simp
  simp only [Act.put, List.setIfInBounds_toArray, List.set_cons_zero, List.set_cons_succ]
  refine wpAnyH_take (i := 19) (oi := { dst := some 56, op := .load 38 (.tmp 55), type := 38, pos := _, after := _, guard := _ }) (v := .map am) rfl (by kernel_rfl) (by kernel_rfl) (by kernel_rfl) (fun _ _ _ h => h) (Or.inl ⟨by rfl, fun wS hSw => ?_⟩) (by assumption) ?_
  · clear hHeld; dsimp only at hSw; go_simp
  simp only [Act.put, List.setIfInBounds_toArray, List.set_cons_zero, List.set_cons_succ]
  refine wpAnyH_take (i := 20) (oi := { dst := some 57, op := .call { callee := .builtin .len, args := #[.tmp 56], argTypes := #[38] }, type := 3, pos := _, after := _, guard := _ }) (v := .int .i64 (mlen w am)) rfl (by kernel_rfl) (by kernel_rfl) (by kernel_rfl) (fun _ _ _ h => h) (Or.inl ⟨by rfl, fun wS hSw => ?_⟩) (by assumption) ?_
  · clear hHeld; dsimp only at hSw; go_simp
  simp only [Act.put, List.setIfInBounds_toArray, List.set_cons_zero, List.set_cons_succ]
  refine wpAnyH_take (i := 21) (oi := { dst := some 58, op := .build 58 #[(0, .tmp 40), (1, .tmp 44), (2, .tmp 48), (3, .tmp 52), (4, .tmp 57)], type := 58, pos := _, after := _, guard := _ }) (v := .agg pA) rfl (by kernel_rfl) (by kernel_rfl) (by kernel_rfl) (fun _ _ _ h => h) (Or.inl ⟨by rfl, fun wS hSw => ?_⟩) (by assumption) ?_
  · clear hHeld; dsimp only at hSw; go_simp
  simp only [Act.put, List.setIfInBounds_toArray, List.set_cons_zero, List.set_cons_succ]
  refine wpAnyH_ready (rs := [22]) (by kernel_rfl) (by simp) ?_
  refine AllReadyH.cons (o := { dst := some 59, op := .box 58 (.tmp 58), type := _, pos := _, after := _, guard := _ }) rfl (fun K hK => ?_) AllReadyH.nil
  go_simp
  refine hK.out _ _ ?_ (fun hHeld2 => ?_)
  · refine ⟨?_, ?_, ?_, ?_, ?_, ?_⟩ <;> go_simp
  clear hK K hHeld
  try simp only [Act.put, List.setIfInBounds_toArray, List.set_cons_zero, List.set_cons_succ]
  refine wpAnyH_take (i := 23) (oi := { dst := some 60, op := .fieldAddr 53 (.tmp 3) 4, type := 0, pos := _, after := _, guard := _ }) (v := .pointer (some ⟨w.heap.size + 1, 4, none⟩)) rfl (by kernel_rfl) (by kernel_rfl) (by kernel_rfl) (fun _ _ _ h => h) (Or.inl ⟨by rfl, fun wS hSw => ?_⟩) (by assumption) ?_
  · clear hHeld2; dsimp only at hSw; go_simp
  simp only [Act.put, List.setIfInBounds_toArray, List.set_cons_zero, List.set_cons_succ]
  refine wpAnyH_ready (rs := [24]) (by kernel_rfl) (by simp) ?_
  refine AllReadyH.cons (o := { dst := none, op := .store 51 (.tmp 60) (.tmp 59), type := _, pos := _, after := _, guard := _ }) rfl (fun K hK => ?_) AllReadyH.nil
  go_simp
  refine hK.out _ _ ?_ (fun hHeld3 => ?_)
  · refine ⟨?_, ?_, ?_, ?_, ?_, ?_⟩ <;> go_simp
  clear hK K hHeld2 hHeld3
  refine wpAnyH_done (by kernel_rfl) ?_ _
  go_wp2
  refine bodyPost_ret (results_cell_row rfl _ _ w.heap.size 53 ((st.setIfInBounds 3 (.pointer (some ⟨w.heap.size + 1 + 1, 0, none⟩))).setIfInBounds 4 (.pointer (some ⟨w.heap.size + 1 + 1 + 1, 0, none⟩))) (0, 0) _ rfl ?h0 Yba.underlying53 rfl (by rw [fs]; kernel_rfl)) rfl ⟨_, rfl, R.out.1, R.out.2.1, R.out.2.2.1, R.out.2.2.2.1, R.out.2.2.2.2.1, R.out.2.2.2.2.2, ⟨_, R3.out, by omega, ?h2⟩, ⟨_, pA, R4.out, by omega, ?h3, p1⟩, below_drewN (((((Below.refl _ _).alloc (by exact Nat.le_refl _) _).alloc (by simp) _).alloc (by simp; omega) _).alloc (by simp; omega) _) _⟩
  case h0 => exact (at4_0 w _ _ _ _)
  case h2 => exact (at4_2 w _ _ _ _)
  case h3 => exact (at4_3 w _ _ _ _)

end Go.Proofs.Ybulkduwi
