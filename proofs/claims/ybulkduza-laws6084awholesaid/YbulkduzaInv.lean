/-
  What the law's loops keep.
-/
import Derived.Test.YbulkduzaCl
namespace Go.Proofs.Ybulkduza
open Go.RowKit Go.Maps Go.Sort Go.Shelf

/-- The States' pointers. -/
def sl (SS : Nat → Nat) (j : Nat) : List Value := (List.range j).map fun i => .pointer (some ⟨SS i, 0, none⟩)

/-- j States are made. -/
structure L1 (w : World) (j : Nat) (wr : World) (sv : Value) (SS MM : Nat → Nat) : Prop where
  md : wr.heap[w.heap.size + 1]? = some (.cells #[sv, .slice none 0 0] 29 (0, 0))
  row : wr.ownsRow (w.heap.size + 2) 30 1 sv j (sl SS j)
  per : wr.heap[w.heap.size]? = some (.cells (Array.replicate 32 (.int .i64 0)) 24 (0, 0))
  sts : ∀ i, i < j → StateAt wr (SS i) (MM i) 0 (fun _ => 0)
  inj : ∀ i k, i < j → k < j → i ≠ k → MM i ≠ MM k
  lo : ∀ i, i < j → w.heap.size + 2 ≤ MM i
  fr : Below w.heap.size w wr

theorem sl_congr {SS SS' : Nat → Nat} : ∀ {j : Nat}, (∀ i, i < j → SS i = SS' i) → sl SS j = sl SS' j := fun {j} h => by
  unfold sl
  exact List.map_congr_left fun i hi => by rw [h i (List.mem_range.1 hi)]

theorem L1.step {w wr w3 : World} {j : Nat} {sv v3 : Value} {SS MM : Nat → Nat} (h : L1 w j wr sv SS MM) (ho : w3.ownsRow (w.heap.size + 2) 30 1 v3 (j + 1) (sl SS j ++ [.pointer (some ⟨wr.heap.size + 1, 0, none⟩)]))
    (hg : (((wr.alloc (.map #[] 0)).alloc (.cells #[.map (some wr.heap.size)] 78)).alloc (.cells #[.pointer (some ⟨wr.heap.size + 1, 0, none⟩)] 30)).grownBy w3 sv.ownBlock) :
    L1 w (j + 1) (w3.setCell ⟨w.heap.size + 1, 0, none⟩ v3) v3 (fun i => if i = j then wr.heap.size + 1 else SS i) (fun i => if i = j then wr.heap.size else MM i) := by
  have lm : w.heap.size + 1 < wr.heap.size := (Array.getElem?_eq_some_iff.1 h.md).1
  have fW : ∀ k, k < wr.heap.size → (((wr.alloc (.map #[] 0)).alloc (.cells #[.map (some wr.heap.size)] 78)).alloc (.cells #[.pointer (some ⟨wr.heap.size + 1, 0, none⟩)] 30)).heap[k]? = wr.heap[k]? := fun k hk =>
    ((Below.heap_alloc _ _ _ (by simp; omega)).trans (Below.heap_alloc _ _ _ (by simp; omega))).trans (Below.heap_alloc _ _ _ hk)
  have hnew : StateAt (((wr.alloc (.map #[] 0)).alloc (.cells #[.map (some wr.heap.size)] 78)).alloc (.cells #[.pointer (some ⟨wr.heap.size + 1, 0, none⟩)] 30)) (wr.heap.size + 1) wr.heap.size 0 (fun _ => 0) :=
    (StateAt.new wr).keep (.alloc _ _) (Below.heap_alloc _ _ _ (by simp)) (Below.heap_alloc _ _ _ (by simp; omega))
  have sW : (((wr.alloc (.map #[] 0)).alloc (.cells #[.map (some wr.heap.size)] 78)).alloc (.cells #[.pointer (some ⟨wr.heap.size + 1, 0, none⟩)] 30)).heap.size = wr.heap.size + 3 := by simp
  have tW : (((wr.alloc (.map #[] 0)).alloc (.cells #[.map (some wr.heap.size)] 78)).alloc (.cells #[.pointer (some ⟨wr.heap.size + 1, 0, none⟩)] 30)).os = wr.os ∧ (((wr.alloc (.map #[] 0)).alloc (.cells #[.map (some wr.heap.size)] 78)).alloc (.cells #[.pointer (some ⟨wr.heap.size + 1, 0, none⟩)] 30)).tape = wr.tape ∧ (((wr.alloc (.map #[] 0)).alloc (.cells #[.map (some wr.heap.size)] 78)).alloc (.cells #[.pointer (some ⟨wr.heap.size + 1, 0, none⟩)] 30)).output = wr.output := ⟨rfl, rfl, rfl⟩
  obtain ⟨W, hW⟩ : ∃ W, (((wr.alloc (.map #[] 0)).alloc (.cells #[.map (some wr.heap.size)] 78)).alloc (.cells #[.pointer (some ⟨wr.heap.size + 1, 0, none⟩)] 30)) = W := ⟨_, rfl⟩
  rw [hW] at fW hnew hg sW tW
  clear hW
  have e3 : ∀ k o, W.heap[k]? = some o → some k ≠ sv.ownBlock → w3.heap[k]? = some o := fun k o hk hne => (hg.block k (Array.getElem?_eq_some_iff.1 hk).1 hne).trans hk
  have nty : ∀ k o, wr.heap[k]? = some o → (∀ c, o ≠ .cells c 30 (0, 0)) → some k ≠ sv.ownBlock := fun k o hk ho => by
    rcases h.row.2 with ⟨rfl, _⟩ | ⟨g, cap, cur, rfl, _, hg, _⟩
    · simp [Value.ownBlock]
    · simp only [Value.ownBlock, ne_eq, Option.some.injEq]
      rintro rfl
      rw [hg] at hk
      cases hk
      exact ho _ rfl
  have nhi : ∀ k, wr.heap.size ≤ k → some k ≠ sv.ownBlock := fun k hk => own_ne' h.row hk
  have md3 : w3.heap[w.heap.size + 1]? = some (.cells #[sv, .slice none 0 0] 29 (0, 0)) := e3 _ _ ((fW _ lm).trans h.md) (nty _ _ h.md (fun c e => by cases e))
  have hm4 := heap_setCell_same w3 (w.heap.size + 1) 0 _ 29 v3 md3
  have f4 : ∀ k, k ≠ w.heap.size + 1 → (w3.setCell ⟨w.heap.size + 1, 0, none⟩ v3).heap[k]? = w3.heap[k]? := fun k hk => Below.heap_setCell _ _ _ _ hk
  have sz4 : (w3.setCell ⟨w.heap.size + 1, 0, none⟩ v3).heap.size = w3.heap.size := by simp
  have tp4 : (w3.setCell ⟨w.heap.size + 1, 0, none⟩ v3).os = w3.os ∧ (w3.setCell ⟨w.heap.size + 1, 0, none⟩ v3).tape = w3.tape ∧ (w3.setCell ⟨w.heap.size + 1, 0, none⟩ v3).output = w3.output := ⟨rfl, rfl, rfl⟩
  obtain ⟨W4, hW4⟩ : ∃ W4, w3.setCell ⟨w.heap.size + 1, 0, none⟩ v3 = W4 := ⟨_, rfl⟩
  rw [hW4] at hm4 f4 sz4 tp4 ⊢
  clear hW4
  have k1 : KeepsInts wr W := .of_size fW
  have k2 : KeepsInts W w3 := .of_grown hg fun z hz c t hc => by
    rcases h.row.2 with ⟨rfl, _⟩ | ⟨g, cap, cur, rfl, _, hgg, _⟩
    · simp [Value.ownBlock] at hz
    · simp only [Value.ownBlock, Option.some.injEq] at hz
      subst hz
      rw [fW _ (Array.getElem?_eq_some_iff.1 hgg).1, hgg] at hc
      cases hc
      exact ⟨by decide, by decide⟩
  have k3 : KeepsInts w3 W4 := .of_block fun k c t hk ht => f4 k fun e => by
    subst e
    rw [md3] at hk
    cases hk
    rcases ht with h | h <;> cases h
  have hold : ∀ i, i < j → StateAt W4 (SS i) (MM i) 0 (fun _ => 0) := fun i hi => by
    have hs := h.sts i hi
    obtain ⟨es, c, hmp⟩ := hs.map
    have nS : SS i ≠ w.heap.size + 1 := fun e => by have := hs.1; rw [e, h.md] at this; cases this
    have nM : MM i ≠ w.heap.size + 1 := fun e => by rw [e, h.md] at hmp; cases hmp
    exact hs.keep ((k1.trans k2).trans k3) ((f4 _ nS).trans ((e3 _ _ ((fW _ hs.ltS).trans hs.1) (nty _ _ hs.1 (fun c e => by cases e))).trans hs.1.symm)) ((f4 _ nM).trans ((e3 _ _ ((fW _ hs.ltM).trans hmp) (nty _ _ hmp (fun c e => by cases e))).trans hmp.symm))
  have hnew4 : StateAt W4 (wr.heap.size + 1) wr.heap.size 0 (fun _ => 0) := by
    obtain ⟨es, c, hmp⟩ := hnew.map
    exact hnew.keep (k2.trans k3) ((f4 _ (by omega)).trans ((e3 _ _ hnew.1 (nhi _ (by omega))).trans hnew.1.symm)) ((f4 _ (by omega)).trans ((e3 _ _ hmp (nhi _ (by omega))).trans hmp.symm))
  refine ⟨hm4, ?_, (f4 _ (by omega)).trans (e3 _ _ ((fW _ (by omega)).trans h.per) (nty _ _ h.per (fun c e => by cases e))), ?_, ?_, ?_, ?_⟩
  · have e : sl (fun i => if i = j then wr.heap.size + 1 else SS i) (j + 1) = sl SS j ++ [.pointer (some ⟨wr.heap.size + 1, 0, none⟩)] := by
      unfold sl
      rw [List.range_succ, List.map_append]
      congr 1
      · exact List.map_congr_left fun i hi => by dsimp only; rw [if_neg (by have := List.mem_range.1 hi; omega)]
      · simp
    rw [e]
    rcases ho with ⟨hl, hr⟩
    exact ⟨hl, hr.imp id fun ⟨g, cap, cur, r1, r2, r3, r4⟩ => ⟨g, cap, cur, r1, r2, (f4 g (by omega)).trans r3, r4⟩⟩
  · intro i hi
    by_cases hij : i = j
    · simp only [if_pos hij]; exact hnew4
    · simp only [if_neg hij]; exact hold i (by omega)
  · intro i k hi hk hne
    by_cases hij : i = j
    · simp only [if_pos hij, if_neg (show k ≠ j by omega)]
      have := (h.sts k (by omega)).ltM
      omega
    · by_cases hkj : k = j
      · simp only [if_pos hkj, if_neg hij]
        have := (h.sts i (by omega)).ltM
        omega
      · simp only [if_neg hkj, if_neg hij]
        exact h.inj i k (by omega) (by omega) hne
  · intro i hi
    by_cases hij : i = j
    · simp only [if_pos hij]; omega
    · simp only [if_neg hij]; exact h.lo i (by omega)
  · refine ⟨?_, ?_, ?_, ?_, fun k hk => ?_⟩
    · rw [tp4.1, hg.os, tW.1, h.fr.os]
    · rw [tp4.2.1, hg.tape, tW.2.1, h.fr.tape]
    · rw [tp4.2.2, hg.output, tW.2.2, h.fr.output]
    · have := hg.size; have := h.fr.size; omega
    · refine ((f4 k (by omega)).trans ((hg.block k (by omega) ?_).trans (fW k (by omega)))).trans (h.fr.block k hk)
      exact own_ne h.row (by omega)

/-- The entries so far are added. -/
structure L2 (w : World) (sb sc : Nat) (SS MM : Nat → Nat) (N : Nat) (P : Nat → Nat → Int) (wr : World) : Prop where
  md : wr.heap[w.heap.size + 1]? = some (.cells #[.slice (some ⟨sb, 0, none⟩) 8 sc, .slice none 0 0] 29 (0, 0))
  stt : ∃ c, wr.heap[sb]? = some (.cells c 30 (0, 0)) ∧ ∀ i, i < 8 → c[i]? = some (.pointer (some ⟨SS i, 0, none⟩))
  per : ∃ c, wr.heap[w.heap.size]? = some (.cells c 24 (0, 0)) ∧ c.size = 32 ∧ ∀ s, s < 8 → ∀ k, k < 4 → c[s * 4 + k]? = some (.int .i64 (P s k))
  sts : ∀ i, i < 8 → StateAt wr (SS i) (MM i) N (P i)
  inj : ∀ i k, i < 8 → k < 8 → i ≠ k → MM i ≠ MM k
  lo : ∀ i, i < 8 → w.heap.size + 2 ≤ MM i
  fr : Below w.heap.size w wr

theorem L1.done {w wr : World} {sv : Value} {SS MM : Nat → Nat} (h : L1 w 8 wr sv SS MM) : ∃ sb sc, L2 w sb sc SS MM 0 (fun _ _ => 0) wr := by
  have hr := h.row
  obtain ⟨hl, hr⟩ := hr
  rcases hr with ⟨_, h0⟩ | ⟨g, cap, cur, rfl, hb, hg, hn, hm, hs, ht⟩
  · omega
  · refine ⟨g, cap, h.md, ⟨cur, hg, fun i hi => ?_⟩, ⟨_, h.per, by simp, fun s hs k hk => ?_⟩, h.sts, h.inj, h.lo, h.fr⟩
    · have e : (cur.toList.take (8 * 1))[i]? = (sl SS 8)[i]? := by rw [ht]
      rw [List.getElem?_take_of_lt (by omega)] at e
      rw [← Array.getElem?_toList, e]
      unfold sl
      rw [List.getElem?_map, List.getElem?_range hi]
      rfl
    · rw [Array.getElem?_replicate, if_pos (by omega)]

theorem L2.bel {w wr W1 : World} {sb sc N : Nat} {SS MM : Nat → Nat} {P : Nat → Nat → Int} (h : L2 w sb sc SS MM N P wr) (hb : Below wr.heap.size wr W1) : L2 w sb sc SS MM N P W1 := by
  have k : KeepsInts wr W1 := .of_below hb
  have e : ∀ k o, wr.heap[k]? = some o → W1.heap[k]? = some o := fun k o hk => (hb.block k (Array.getElem?_eq_some_iff.1 hk).1).trans hk
  obtain ⟨c, hc, hc'⟩ := h.stt
  obtain ⟨d, hd, hd'⟩ := h.per
  exact ⟨e _ _ h.md, ⟨c, e _ _ hc, hc'⟩, ⟨d, e _ _ hd, hd'⟩, fun i hi => (h.sts i hi).keep k (hb.block _ (h.sts i hi).ltS) (hb.block _ (h.sts i hi).ltM), h.inj, h.lo, h.fr.trans (hb.mono h.fr.size)⟩

theorem L2.step {w W1 W2 : World} {sb sc N s k : Nat} {SS MM : Nat → Nat} {P : Nat → Nat → Int} {z : Int} (h : L2 w sb sc SS MM N P W1) (hs : s < 8) (hk : k < 4) (hb : But (MM s) W1 W2) (hS : StateAt W2 (SS s) (MM s) (N + 1) (upd (P s) k (P s k + z))) :
    L2 w sb sc SS MM (N + 1) (fun s' => if s' = s then upd (P s) k (P s k + z) else P s') (W2.setCell ⟨w.heap.size, s * 4 + k, none⟩ (.int .i64 (P s k + z))) := by
  obtain ⟨es, cc, hmp⟩ := (h.sts s hs).map
  have e2 : ∀ (k : Nat) (o : Obj), W1.heap[k]? = some o → (∀ es c, o ≠ Obj.map es c) → W2.heap[k]? = some o := fun k o hk ho => (hb.2.1 k (Array.getElem?_eq_some_iff.1 hk).1 (fun e => by subst e; rw [hmp] at hk; cases hk; exact ho _ _ rfl)).trans hk
  have k1 : KeepsInts W1 W2 := hb.ints hmp
  obtain ⟨c, hc, hc'⟩ := h.stt
  obtain ⟨d, hd, hd1, hd2⟩ := h.per
  have hd0 : W2.heap[w.heap.size]? = some (.cells d 24 (0, 0)) := e2 _ _ hd (fun es c e => by cases e)
  have hd4 := heap_setCell_same W2 w.heap.size (s * 4 + k) d 24 (.int .i64 (P s k + z)) hd0
  have f4 : ∀ j, j ≠ w.heap.size → (W2.setCell ⟨w.heap.size, s * 4 + k, none⟩ (.int .i64 (P s k + z))).heap[j]? = W2.heap[j]? := fun j hj => Below.heap_setCell _ _ _ _ hj
  have sz4 : (W2.setCell ⟨w.heap.size, s * 4 + k, none⟩ (.int .i64 (P s k + z))).heap.size = W2.heap.size := by simp
  have tp4 : (W2.setCell ⟨w.heap.size, s * 4 + k, none⟩ (.int .i64 (P s k + z))).os = W2.os ∧ (W2.setCell ⟨w.heap.size, s * 4 + k, none⟩ (.int .i64 (P s k + z))).tape = W2.tape ∧ (W2.setCell ⟨w.heap.size, s * 4 + k, none⟩ (.int .i64 (P s k + z))).output = W2.output := ⟨rfl, rfl, rfl⟩
  have k2 : KeepsInts W2 (W2.setCell ⟨w.heap.size, s * 4 + k, none⟩ (.int .i64 (P s k + z))) := KeepsInts.setCell _ hd0 ⟨by decide, by decide⟩
  obtain ⟨W4, hW4⟩ : ∃ W4, W2.setCell ⟨w.heap.size, s * 4 + k, none⟩ (.int .i64 (P s k + z)) = W4 := ⟨_, rfl⟩
  rw [hW4] at hd4 f4 sz4 tp4 k2 ⊢
  clear hW4
  have lw : w.heap.size < W1.heap.size := (Array.getElem?_eq_some_iff.1 hd).1
  refine ⟨(f4 _ (by omega)).trans (e2 _ _ h.md (fun es c e => by cases e)), ⟨c, (f4 _ (fun e => by rw [e, hd] at hc; cases hc)).trans (e2 _ _ hc (fun es c e => by cases e)), hc'⟩, ⟨_, hd4, by simpa using hd1, fun s' hs' k' hk' => ?_⟩, fun i hi => ?_, h.inj, h.lo, ?_⟩
  · by_cases hsk : s' = s ∧ k' = k
    · obtain ⟨rfl, rfl⟩ := hsk
      rw [Array.getElem?_setIfInBounds_self_of_lt (by omega), if_pos rfl]
      unfold upd
      rw [if_pos rfl]
    · rw [Array.getElem?_setIfInBounds_ne (by omega), hd2 s' hs' k' hk']
      by_cases hss : s' = s
      · rw [if_pos hss]
        unfold upd
        rw [if_neg (by omega), hss]
      · rw [if_neg hss]
  · by_cases his : i = s
    · subst his
      simp only [if_true]
      exact hS.keep k2 (f4 _ (fun e => by have := hS.1; rw [e, hd0] at this; cases this)) (f4 _ (by have := h.lo i hi; omega))
    · simp only [if_neg his]
      have hi' := h.sts i hi
      obtain ⟨es', c', hmp'⟩ := hi'.map
      have hMi : W2.heap[MM i]? = W1.heap[MM i]? := hb.2.1 _ hi'.ltM (h.inj i s hi hs his)
      have hSi := e2 _ _ hi'.1 (fun es c e => by cases e)
      exact (hi'.keep (k1.trans k2) ((f4 _ (fun e => by rw [e, hd0] at hSi; cases hSi)).trans (hSi.trans hi'.1.symm)) ((f4 _ (by have := h.lo i hi; omega)).trans hMi)).mono (by omega)
  · refine ⟨?_, ?_, ?_, ?_, fun j hj => ?_⟩
    · rw [tp4.1, hb.2.2.1, h.fr.os]
    · rw [tp4.2.1, hb.2.2.2.1, h.fr.tape]
    · rw [tp4.2.2, hb.2.2.2.2, h.fr.output]
    · have := hb.1; have := h.fr.size; omega
    · exact ((f4 j (by omega)).trans (hb.2.1 j (by omega) (by have := h.lo s hs; omega))).trans (h.fr.block j hj)
end Go.Proofs.Ybulkduza
