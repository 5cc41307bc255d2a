import Derived.Test.YbulkduzaStOld
namespace Go.Proofs.Ybulkduza
open Go.RowKit
set_option maxRecDepth 100000 in
set_option maxHeartbeats 1000000 in
theorem stAdd_gone (S M n P Y : Nat) (D : DataW Unit) (kl : Lit) (key : ByteArray) (x y : Int) (w : World) (hS : w.cell? ⟨S, 0, none⟩ = some (.map (some M))) (hown : w.ownsMap Yba.prog 9 ptrElem M n D) (hkey : keyOf Yba.prog 9 (.string key) = some kl)
    (hh : Maps.has D kl = true) (hP : D.atKey kl .nil = .lit (.int .u64 P)) (hXi : BigIs w P x) (hYi : BigIs w Y y) (hy : y ≠ 0) (hxy : x + y = 0) :
    Calls Yba.prog 5 #[.pointer (some ⟨S, 0, none⟩), .string key, .pointer (some ⟨Y, 0, none⟩)] w fun e w' => e = .returned (.tuple #[]) ∧ ∃ w2, But w.heap.size (w.alloc (.cells #[.bool false, .slice none 0 0] 83)) w2 ∧ w'.ownsMap Yba.prog 9 ptrElem M n (D.del kl) ∧ w2.mapTurned w' M := by
  have hY := hYi.1
  have hyb : -4611686018427387904 < x + y ∧ x + y < 4611686018427387904 := by omega
  have hs := signOf Y y w hY
  rw [if_neg hy] at hs
  have hne : ((if y < 0 then (-1 : Int) else 1) == 0) = false := by split <;> rfl
  have lS := World.block_lt_of_cell? w _ hS
  have lM : M < w.heap.size := by obtain ⟨es, c, hb, _⟩ := hown; exact (Array.getElem?_eq_some_iff.1 hb).1
  have hS1 := cell_old w (.cells #[.bool false, .slice none 0 0] 83) _ hS
  have hown1 : (w.alloc (.cells #[.bool false, .slice none 0 0] 83)).ownsMap Yba.prog 9 ptrElem M n D := own_same hown (Below.heap_alloc _ _ _ lM)
  have zz : (w.alloc (.cells #[.bool false, .slice none 0 0] 83)).heap[w.heap.size]? = some (.cells #[.bool false, .slice none 0 0] 83 (0, 0)) := heap_alloc_new _ _
  have z0 : (w.alloc (.cells #[.bool false, .slice none 0 0] 83)).cell? ⟨w.heap.size, 0, none⟩ = some (.bool false) := cell_new _ _ _ _ _ _ rfl rfl
  have z1 : (w.alloc (.cells #[.bool false, .slice none 0 0] 83)).cell? ⟨w.heap.size, 1, none⟩ = some (.slice none 0 0) := cell_new _ _ _ _ _ _ rfl rfl
  have f0 : (w.alloc (.cells #[.bool false, .slice none 0 0] 83)).frozen? ⟨w.heap.size, 0, none⟩ = false := by unfold World.frozen?; simp only [zz]; rfl
  have f1 : (w.alloc (.cells #[.bool false, .slice none 0 0] 83)).frozen? ⟨w.heap.size, 1, none⟩ = false := by unfold World.frozen?; simp only [zz]; rfl
  have hA := intAdd w.heap.size P Y x y _ z0 z1 f0 f1 (hXi.1.alloc _) (hY.alloc _) hy hyb
  have hg := get_some S M n P D kl key _ hS1 hown1 hkey hh hP
  have fS : ∀ k, k < w.heap.size → (w.alloc (.cells #[.bool false, .slice none 0 0] 83)).heap[k]? = w.heap[k]? := fun k hk => Below.heap_alloc _ _ _ hk
  have sW : w.heap.size ≤ (w.alloc (.cells #[.bool false, .slice none 0 0] 83)).heap.size := by simp
  obtain ⟨W, hW⟩ : ∃ W, w.alloc (.cells #[.bool false, .slice none 0 0] 83) = W := ⟨_, rfl⟩
  rw [hW] at hg hA z0 z1 zz fS sW ⊢
  clear f0 f1 hS1 hown1 hY hYi hXi
  go_enter Yba.func5, Yba.ntmps5
  go_upto_region 2 with (first
    | (go_at_call 12; refine hs.mono ?_; rintro e w1 ⟨rfl, hw⟩; obtain rfl := hw.symm)
    | (go_at_call 9; refine hg.mono ?_; rintro e w1 ⟨rfl, hw⟩; obtain rfl := hw.symm)
    | (go_at_call 13; refine hA.mono ?_; rintro e w2 ⟨rfl, had⟩))
  have hbut := had.but
  have his := had.is zz hyb
  have hbig := his.1
  have hs2 := signOf w.heap.size (x + y) w2 hbig
  rw [if_pos hxy] at hs2
  have hS2 : w2.cell? ⟨S, 0, none⟩ = some (.map (some M)) := (World.cell?_of_block (w := w) ((hbut.2.1 S (Nat.lt_of_lt_of_le lS sW) (Nat.ne_of_lt lS)).trans (fS S lS))).trans hS
  have hown2 : w2.ownsMap Yba.prog 9 ptrElem M n D := own_same hown ((hbut.2.1 M (Nat.lt_of_lt_of_le lM sW) (Nat.ne_of_lt lM)).trans (fS M lM))
  clear hA hg hs z0 z1 zz had hown hS fS
  go_wp2_with (first
    | (go_at_call 12; refine hs2.mono ?_; rintro e w3 ⟨rfl, hw⟩; obtain rfl := hw.symm)
    | (at_delete; refine wpList_delete_own _ rfl _ _ 76 9 rfl 36 keyed9 Yba.underlying76 ptrElem M n D rfl hown2 _ _ rfl hkey ?_; intro w4 hown4 hgr4))
  all_goals
    exact bodyPost_ret (results_none rfl _ _ _) rfl ⟨rfl, w2, hbut, hown4, hgr4⟩
end Go.Proofs.Ybulkduza
