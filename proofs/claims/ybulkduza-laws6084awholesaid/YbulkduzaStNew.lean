import Derived.Test.YbulkduzaStAdd
import Derived.Test.YbulkduzaIs
namespace Go.Proofs.Ybulkduza
open Go.RowKit
theorem own_same {w w' : World} {b n : Nat} {D : DataW Unit} (h : w.ownsMap Yba.prog 9 ptrElem b n D) (hb : w'.heap[b]? = w.heap[b]?) : w'.ownsMap Yba.prog 9 ptrElem b n D := by
  obtain ⟨es, clock, hbk, r⟩ := h
  exact ⟨es, clock, hb.trans hbk, r⟩
set_option maxRecDepth 100000 in
set_option maxHeartbeats 1000000 in
theorem stAdd_new (S M n Y : Nat) (D : DataW Unit) (kl : Lit) (key : ByteArray) (y : Int) (w : World) (hS : w.cell? ⟨S, 0, none⟩ = some (.map (some M))) (hown : w.ownsMap Yba.prog 9 ptrElem M n D) (hn : n < maxLen) (hkey : keyOf Yba.prog 9 (.string key) = some kl)
    (hh : Maps.has D kl = false) (hYi : BigIs w Y y) (hy : y ≠ 0) (hyb : -4611686018427387904 < y ∧ y < 4611686018427387904) :
    Calls Yba.prog 5 #[.pointer (some ⟨S, 0, none⟩), .string key, .pointer (some ⟨Y, 0, none⟩)] w fun e w' => e = .returned (.tuple #[]) ∧ ∃ w2, But w.heap.size ((w.alloc (.cells #[.bool false, .slice none 0 0] 83)).alloc (.cells #[.bool false, .slice none 0 0] 83)) w2 ∧ BigIs w2 w.heap.size y ∧ w'.ownsMap Yba.prog 9 ptrElem M (n + 1) (D.put kl (.lit (.int .u64 w.heap.size))) ∧ w2.grownBy w' (some M) := by
  have hY := hYi.1
  have hs := signOf Y y w hY
  rw [if_neg hy] at hs
  have hne : ((if y < 0 then (-1 : Int) else 1) == 0) = false := by split <;> rfl
  have lS := World.block_lt_of_cell? w _ hS
  have lM : M < w.heap.size := by obtain ⟨es, c, hb, _⟩ := hown; exact (Array.getElem?_eq_some_iff.1 hb).1
  have hS1 := cell_old w (.cells #[.bool false, .slice none 0 0] 83) _ hS
  have hown1 : (w.alloc (.cells #[.bool false, .slice none 0 0] 83)).ownsMap Yba.prog 9 ptrElem M n D := own_same hown (Below.heap_alloc _ _ _ lM)
  have z0 : ((w.alloc (.cells #[.bool false, .slice none 0 0] 83)).alloc (.cells #[.bool false, .slice none 0 0] 83)).cell? ⟨w.heap.size, 0, none⟩ = some (.bool false) := cell_old _ _ _ (cell_new _ _ _ _ _ _ rfl rfl)
  have z1 : ((w.alloc (.cells #[.bool false, .slice none 0 0] 83)).alloc (.cells #[.bool false, .slice none 0 0] 83)).cell? ⟨w.heap.size, 1, none⟩ = some (.slice none 0 0) := cell_old _ _ _ (cell_new _ _ _ _ _ _ rfl rfl)
  have zz : ((w.alloc (.cells #[.bool false, .slice none 0 0] 83)).alloc (.cells #[.bool false, .slice none 0 0] 83)).heap[w.heap.size]? = some (.cells #[.bool false, .slice none 0 0] 83 (0, 0)) := (Below.heap_alloc _ _ _ (by simp)).trans (heap_alloc_new _ _)
  have f0 : ((w.alloc (.cells #[.bool false, .slice none 0 0] 83)).alloc (.cells #[.bool false, .slice none 0 0] 83)).frozen? ⟨w.heap.size, 0, none⟩ = false := by unfold World.frozen?; simp only [zz]; rfl
  have f1 : ((w.alloc (.cells #[.bool false, .slice none 0 0] 83)).alloc (.cells #[.bool false, .slice none 0 0] 83)).frozen? ⟨w.heap.size, 1, none⟩ = false := by unfold World.frozen?; simp only [zz]; rfl
  have hX : BigAt ((w.alloc (.cells #[.bool false, .slice none 0 0] 83)).alloc (.cells #[.bool false, .slice none 0 0] 83)) (w.heap.size + 1) 0 := .inl ⟨rfl, cell_new _ _ _ _ _ _ (by simp) rfl, _, _, cell_new _ _ _ _ _ _ (by simp) rfl⟩
  have hA := intAdd w.heap.size (w.heap.size + 1) Y 0 y _ z0 z1 f0 f1 hX ((hY.alloc _).alloc _) hy (by rw [Int.zero_add]; exact hyb)
  rw [Int.zero_add] at hA
  obtain ⟨W, hW⟩ : ∃ W, W = (w.alloc (.cells #[.bool false, .slice none 0 0] 83)).alloc (.cells #[.bool false, .slice none 0 0] 83) := ⟨_, rfl⟩
  have hg := get_none S M n D kl key _ hS1 hown1 hkey hh
  rw [← hW] at hg hA z0 z1 zz ⊢
  have fS : ∀ k, k < w.heap.size → W.heap[k]? = w.heap[k]? := fun k hk => by rw [hW]; exact (Below.heap_alloc _ _ _ (by simp; omega)).trans (Below.heap_alloc _ _ _ hk)
  have sW : w.heap.size ≤ W.heap.size := by rw [hW]; simp; omega
  have e1 : (w.alloc (.cells #[.bool false, .slice none 0 0] 83)).heap.size = w.heap.size + 1 := by simp
  rw [e1] at hg
  clear f0 f1 hX hW hS1 hown1 hY hYi
  go_enter Yba.func5, Yba.ntmps5
  go_upto_region 2 with (first
    | (go_at_call 12; refine hs.mono ?_; rintro e w1 ⟨rfl, hw⟩; obtain rfl := hw.symm)
    | (go_at_call 9; refine hg.mono ?_; rintro e w1 ⟨rfl, hw⟩; obtain rfl := hw.symm)
    | (go_at_call 13; refine hA.mono ?_; rintro e w2 ⟨rfl, had⟩))
  have hbut := had.but
  have his := had.is zz hyb
  have hbig := his.1
  have hs2 := signOf w.heap.size y w2 hbig
  rw [if_neg hy] at hs2
  have hS2 : w2.cell? ⟨S, 0, none⟩ = some (.map (some M)) := (World.cell?_of_block (w := w) ((hbut.2.1 S (Nat.lt_of_lt_of_le lS sW) (Nat.ne_of_lt lS)).trans (fS S lS))).trans hS
  have hown2 : w2.ownsMap Yba.prog 9 ptrElem M n D := own_same hown ((hbut.2.1 M (Nat.lt_of_lt_of_le lM sW) (Nat.ne_of_lt lM)).trans (fS M lM))
  clear hA hg hs z0 z1 zz had hown hS fS
  go_wp2_with (first
    | (go_at_call 12; refine hs2.mono ?_; rintro e w3 ⟨rfl, hw⟩; obtain rfl := hw.symm)
    | (at_mapUpdate; refine wpList_mapUpdate_own _ rfl _ _ _ 76 rfl 9 36 keyed9 Yba.underlying76 ptrElem M n D rfl hown2 hn _ _ _ rfl rfl hkey (.lit (.int .u64 w.heap.size)) [] rfl ?_; intro w4 hown4 hgr4))
  all_goals
    go_end0
    exact ⟨rfl, w2, hbut, his, hown4, hgr4⟩
end Go.Proofs.Ybulkduza
