import Derived.Test.YbulkduwiStatus
import Derived.Deep.RegionHeld3
import Derived.Test.YbulkduwiKey
import Derived.BigRegion
import Derived.Deep.DrawnRows
import Derived.Deep.CutRange
namespace Go.Proofs.Ybulkduwi
open Go.RowKit
attribute [local go_sem ↓] exec_load24 exec_store24 exec_load53 exec_store53 exec_load56 exec_store56 exec_load58 exec_store58 exec_build53 exec_build58 Go.wp_at_zero Go.wp_at_succ
attribute [local go_sem] run_load24 run_load53 run_load56 run_load58 run_store24 run_store53 run_store56 run_store58 arr_new arr_old arr_drew arr_drewN rowOk_new rowOk_old rowOk_drew rowOk_drewN setRow_new setRow_old setRow_drew setRow_drewN alloc_drewN setCell_drewN run_len29 run_len38 mOk_drew mlen_drew mOk_drewN mlen_drewN

set_option maxRecDepth 100000 in
set_option maxHeartbeats 2000000 in
theorem status_pn (S : Nat) (sA hd : Array Value) (ep pl : Int) (mm : Option Nat) (A n cp : Nat) (aA la : Array Value) (w : World)
    (hS : S < w.heap.size) (hA : arr w S = sA) (hs : sA.size = 108) (hh : cut sA 1 32 = hd) (hhs : hd.size = 32) (hh1 : Ones hd)
    (h98 : w.cell? ⟨S, 98, none⟩ = some (.int .u64 ep)) (h100 : w.cell? ⟨S, 100, none⟩ = some (.int .u64 pl)) (h101 : w.cell? ⟨S, 101, none⟩ = some (.map mm)) (hm : mOk w mm)
    (h104 : w.cell? ⟨S, 104, none⟩ = some (.slice (some ⟨A, 0, none⟩) n cp)) (hn0 : 0 < n) (hn1 : n ≤ 1048576) (hAl : A < w.heap.size) (hAA : arr w A = aA) (hAs : (n - 1) * 34 + 34 ≤ aA.size) (hla : cut aA ((n - 1) * 34) 34 = la) (hla1 : Ones la) (hlas : la.size = 34) (h106 : w.cell? ⟨S, 106, none⟩ = some (.pointer none)) :
    Calls Yba.prog 5 #[.pointer (some ⟨S, 0, none⟩)] w fun e w' => ∃ stF, e = .returned (.agg stF) ∧ stF.size = 37 ∧ Ones stF ∧ stF[0]? = some (.int .u64 ep) ∧ stF[1]? = some (.int .i64 (mlen w mm)) ∧ stF[2]? = some (.int .u64 pl) ∧ cut stF 5 32 = hd ∧
      (∃ C, stF[3]? = some (.pointer (some ⟨C, 0, none⟩)) ∧ w.heap.size ≤ C ∧ w'.heap[C]? = some (.cells la 56 (0, 0))) ∧ stF[4]? = some (.pointer none) ∧ Below w.heap.size w w' := by
  obtain ⟨z, ⟨zs, hz, z1⟩, -, -⟩ := zero53
  obtain ⟨st, b1, b2, b3, b4, b5, b6, b7, b8, b9⟩ := B53 ep (mlen w mm) pl hd hhs hh1
  obtain ⟨y, ys, hy, y1⟩ := zero56
  have hS1 : S < w.heap.size + 1 := by omega
  have hS2 : S < w.heap.size + 1 + 1 := by omega
  have hS3 : S < w.heap.size + 1 + 1 + 1 := by omega
  have hS4 : S < w.heap.size + 1 + 1 + 1 + 1 := by omega
  have hAl1 : A < w.heap.size + 1 := by omega
  have hAl2 : A < w.heap.size + 1 + 1 := by omega
  have hAl3 : A < w.heap.size + 1 + 1 + 1 := by omega
  have hAl4 : A < w.heap.size + 1 + 1 + 1 + 1 := by omega
  have hw2 : w.heap.size < w.heap.size + 1 + 1 := by omega
  have hw3 : w.heap.size < w.heap.size + 1 + 1 + 1 := by omega
  have hw4 : w.heap.size + 1 < w.heap.size + 1 + 1 + 1 := by omega
  have hm1 := fun o => mOk_alloc w o mm hm
  have hm2 := fun o o' => mOk_alloc (w.alloc o) o' mm (hm1 o)
  have hl1 := fun o => mlen_alloc w o mm hm
  have hl2 := fun o o' => (mlen_alloc (w.alloc o) o' mm (hm1 o)).trans (hl1 o)
  have fs : (st.setIfInBounds 3 (.pointer (some ⟨w.heap.size + 1 + 1, 0, none⟩))).size = 37 := by simp [b2]
  have f1 : Ones (st.setIfInBounds 3 (.pointer (some ⟨w.heap.size + 1 + 1, 0, none⟩))) := (b3.set 3 (.pointer (some ⟨w.heap.size + 1 + 1, 0, none⟩)) rfl)
  have hca := cut_all (st.setIfInBounds 3 (.pointer (some ⟨w.heap.size + 1 + 1, 0, none⟩))) 37 fs
  have hbn : ((n : Int) == 0) = false := by simp; omega
  have R : Hid ((st.setIfInBounds 3 (.pointer (some ⟨w.heap.size + 1 + 1, 0, none⟩))).size = 37 ∧ Ones (st.setIfInBounds 3 (.pointer (some ⟨w.heap.size + 1 + 1, 0, none⟩))) ∧ (st.setIfInBounds 3 (.pointer (some ⟨w.heap.size + 1 + 1, 0, none⟩)))[0]? = some (.int .u64 ep) ∧ (st.setIfInBounds 3 (.pointer (some ⟨w.heap.size + 1 + 1, 0, none⟩)))[1]? = some (.int .i64 (mlen w mm)) ∧ (st.setIfInBounds 3 (.pointer (some ⟨w.heap.size + 1 + 1, 0, none⟩)))[2]? = some (.int .u64 pl) ∧ cut (st.setIfInBounds 3 (.pointer (some ⟨w.heap.size + 1 + 1, 0, none⟩))) 5 32 = hd) :=
    ⟨fs, f1, by rw [set_get _ _ _ _ (by omega)]; exact b4, by rw [set_get _ _ _ _ (by omega)]; exact b5, by rw [set_get _ _ _ _ (by omega)]; exact b6, (cut_congr (by omega) (by omega) (fun k hk => by (repeat rw [set_get _ _ _ _ (by omega)]))).trans b9⟩
  have R3 : Hid ((st.setIfInBounds 3 (.pointer (some ⟨w.heap.size + 1 + 1, 0, none⟩)))[3]? = some (.pointer (some ⟨w.heap.size + 1 + 1, 0, none⟩))) := by show _ = _; rw [set_same _ _ _ (by omega)]
  have R4 : Hid ((st.setIfInBounds 3 (.pointer (some ⟨w.heap.size + 1 + 1, 0, none⟩)))[4]? = some (.pointer none)) := by show _ = _; rw [set_get _ _ _ _ (by omega)]; exact b8
  go_enter Yba.func5, Yba.ntmps5
  go_upto_region 1 with fail
  go_region
  clear b1 b4 b5 b6 b9 hm1 hm2 hl1 hl2 h100 h101 hA hs hh
  go_wp2_with (go_at_call 6; refine (newest_some S A n cp _ hn0 hn1 (by go_simp)).mono ?_; rintro e w1 ⟨rfl, k0, rfl⟩)
  go_wp2_with (go_at_call 7; refine (upc_nil S _ (by go_simp)).mono ?_; rintro e w1 ⟨rfl, k, rfl⟩)
  refine bodyPost_ret (results_cell_row rfl _ _ w.heap.size 53 (st.setIfInBounds 3 (.pointer (some ⟨w.heap.size + 1 + 1, 0, none⟩))) (0, 0) _ rfl ?h0 Yba.underlying53 rfl (by rw [fs]; kernel_rfl)) rfl ⟨_, rfl, R.out.1, R.out.2.1, R.out.2.2.1, R.out.2.2.2.1, R.out.2.2.2.2.1, R.out.2.2.2.2.2, ⟨_, R3.out, by omega, ?h2⟩, R4.out, below_drewN ((((Below.refl _ _).alloc (by exact Nat.le_refl _) _).alloc (by simp) _).alloc (by simp; omega) _) _⟩
  case h0 => exact (at3_0 w _ _ _)
  case h2 => exact (at3_2 w _ _ _)

end Go.Proofs.Ybulkduwi
