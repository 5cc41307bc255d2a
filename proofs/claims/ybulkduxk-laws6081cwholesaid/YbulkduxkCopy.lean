import Derived.Test.YbulkduxkWith
namespace Go.Proofs.Ybulkduxk
open Go.RowKit

/-- The first k pairs of cells are the first k variables. -/
def Bef (nm vl : Nat → ByteArray) (k : Nat) (xs : List Value) : Prop := ∀ i, i < k → xs[i * 2]? = some (.string (nm i)) ∧ xs[i * 2 + 1]? = some (.string (vl i))

theorem Bef.step {nm vl : Nat → ByteArray} {k : Nat} {xs : List Value} (h : Bef nm vl k xs) (hl : k * 2 + 1 < xs.length) :
    Bef nm vl (k + 1) ((xs.set (k * 2) (.string (nm k))).set (k * 2 + 1) (.string (vl k))) := by
  intro i hi
  by_cases e : i = k
  · subst e
    constructor
    · rw [List.getElem?_set_ne (by omega), List.getElem?_set_self (by omega)]
    · rw [List.getElem?_set_self (by simp; omega)]
  · have := h i (by omega)
    constructor
    · rw [List.getElem?_set_ne (by omega), List.getElem?_set_ne (by omega)]; exact this.1
    · rw [List.getElem?_set_ne (by omega), List.getElem?_set_ne (by omega)]; exact this.2

set_option maxHeartbeats 400000 in
theorem copy_some (b off len cap : Nat) (nm vl : Nat → ByteArray) (w : World) (hlen : len ≤ 1048576)
    (hc : ∀ i, i < len → w.cell? ⟨b, off + i * 2, none⟩ = some (.string (nm i)) ∧ w.cell? ⟨b, off + i * 2 + 1, none⟩ = some (.string (vl i))) :
    Calls Yba.prog 4 #[.slice (some ⟨b, off, none⟩) len cap] w fun e w' => e = .returned (.slice (some ⟨w.heap.size, 0, none⟩) len len) ∧
      (∃ xs, w'.ownsRow w.heap.size 28 2 (.slice (some ⟨w.heap.size, 0, none⟩) len len) len xs ∧ Bef nm vl len xs) ∧ Below w.heap.size w w' := by
  obtain ⟨i0, hi, hz0, hz1, hz2⟩ := info_parts Yba.info28
  have q22 : ∀ (w : World) (a : Option Addr) (n c n' c' : Nat), (binOp .eql 22 (.slice a n c) (.slice none n' c')).run Yba.prog w = .ok (.bool a.isNone) w := fun w a n c n' c' => Lib.run_eql_slice_nil w _ _ a n c n' c' Yba.underlying22
  go_enter Yba.func4, Yba.ntmps4
  go_wp2_with (at_make; refine wpList_make_full _ rfl _ _ 22 rfl w.heap.size 28 i0 (.agg #[.string ByteArray.empty, .string ByteArray.empty]) 2 Yba.underlying22 hi hz0 hz1 _ _ _ _ len rfl rfl rfl rfl (by rw [hz2]; omega) (by unfold maxLen; omega) (Nat.le_refl _) ?_; intro w0 hown0 hgrow0)
  have hbe0 : Below w.heap.size w w0 := (Below.refl _ _).grown hgrow0 (Nat.le_refl _) (fun _ h => by cases h)
  clear hgrow0
  go_loopw [4] (fun i wr => ∃ k : Nat, k ≤ len ∧ i = .int .i64 k ∧ (∃ xs, wr.ownsRow w.heap.size 28 2 (.slice (some ⟨w.heap.size, 0, none⟩) len len) len xs ∧ Bef nm vl k xs) ∧ Below w.heap.size w wr) (fun i _ => len - (intOf i).toNat)
  case atStart => exact ⟨0, Nat.zero_le _, rfl, ⟨_, hown0, fun i hi => absurd hi (by omega)⟩, hbe0⟩
  case round =>
    obtain ⟨k, hk, rfl, ⟨xs, hown, hbef⟩, hnx⟩ := hrel
    clear hown0 hbe0
    by_cases hlt : k < len
    · have hb := World.block_lt_of_cell? w _ (hc k hlt).1
      have c1 : wr.cell? ⟨b, off + k * 2, none⟩ = some (.string (nm k)) := (hnx.cell (by exact hb)).trans (hc k hlt).1
      have c2 : wr.cell? ⟨b, off + k * 2 + 1, none⟩ = some (.string (vl k)) := (hnx.cell (by exact hb)).trans (hc k hlt).2
      have hxl := hown.1
      have f1 := hown.frozenAt (k * 2)
      have f2 := hown.frozenAt (k * 2 + 1)
      obtain ⟨o1, d1⟩ : ∃ v, wr.cell? ⟨w.heap.size, k * 2, none⟩ = some v := by rw [hown.cellAt _ (by omega)]; exact ⟨_, List.getElem?_eq_getElem (by omega)⟩
      obtain ⟨o2, d2⟩ : ∃ v, wr.cell? ⟨w.heap.size, k * 2 + 1, none⟩ = some v := by rw [hown.cellAt _ (by omega)]; exact ⟨_, List.getElem?_eq_getElem (by omega)⟩
      have S1 := hown.stored (k * 2) (.string (nm k))
      have S2 := S1.1.stored (k * 2 + 1) (.string (vl k))
      have hB := hnx.size
      have R := (hnx.setCell (p := ⟨w.heap.size, k * 2, none⟩) (Nat.le_refl _) (.string (nm k))).setCell (p := ⟨w.heap.size, k * 2 + 1, none⟩) (Nat.le_refl _) (.string (vl k))
      have hst := hbef.step (by rw [hxl]; omega)
      clear hb hc hown hbef S1
      have S3 := S2.1
      clear S2
      go_wp2
      go_roundw
      case rel => exact ⟨k + 1, by omega, by go_num, ⟨_, S3, hst⟩, R⟩
      case measure => simp [intOf]; omega
    · obtain rfl : k = len := by omega
      go_wp2
      go_ret
      exact ⟨rfl, ⟨xs, hown, hbef⟩, hnx⟩
end Go.Proofs.Ybulkduxk
