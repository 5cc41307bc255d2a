/-
  What stands behind cluster.state.
-/
import Derived.Test.YbulkduzaInv
namespace Go.Proofs.Ybulkduza
open Go.RowKit Go.Maps Go.Sort Go.Shelf

/-- Behind cluster.state. -/
structure L3 (w : World) (n sb sc : Nat) (SS MM : Nat → Nat) (N : Nat) (P : Nat → Nat → Int) (A MA : Nat) (ao : Option Addr) (co : Nat) (wr : World) : Prop where
  md : wr.heap[w.heap.size + 1]? = some (.cells #[.slice (some ⟨sb, 0, none⟩) 8 sc, .slice ao n co] 29 (0, 0))
  ask : ∀ i, i < n → ∃ g d, ao = some ⟨g, 0, none⟩ ∧ wr.heap[g]? = some (.cells d 69 (0, 0)) ∧ d[i * 2]? = some (.int .i64 i) ∧ d[i * 2 + 1]? = some (.int .i64 0)
  stt : ∃ c, wr.heap[sb]? = some (.cells c 30 (0, 0)) ∧ ∀ i, i < 8 → c[i]? = some (.pointer (some ⟨SS i, 0, none⟩))
  per : ∃ c, wr.heap[w.heap.size]? = some (.cells c 24 (0, 0)) ∧ c.size = 32 ∧ ∀ s, s < 8 → ∀ k, k < 4 → c[s * 4 + k]? = some (.int .i64 (P s k))
  sts : ∀ i, i < 8 → StateAt wr (SS i) (MM i) N (P i)
  all : StateAt wr A MA 64 (sumTo P n)
  fr : Below w.heap.size w wr

theorem L3.bel {w wr W1 : World} {n sb sc N A MA co : Nat} {ao : Option Addr} {SS MM : Nat → Nat} {P : Nat → Nat → Int} (h : L3 w n sb sc SS MM N P A MA ao co wr) (hb : Below wr.heap.size wr W1) : L3 w n sb sc SS MM N P A MA ao co W1 := by
  have k : KeepsInts wr W1 := .of_below hb
  have e : ∀ k o, wr.heap[k]? = some o → W1.heap[k]? = some o := fun k o hk => (hb.block k (Array.getElem?_eq_some_iff.1 hk).1).trans hk
  obtain ⟨c, hc, hc'⟩ := h.stt
  obtain ⟨d, hd, hd'⟩ := h.per
  refine ⟨e _ _ h.md, fun i hi => ?_, ⟨c, e _ _ hc, hc'⟩, ⟨d, e _ _ hd, hd'⟩, fun i hi => (h.sts i hi).keep k (hb.block _ (h.sts i hi).ltS) (hb.block _ (h.sts i hi).ltM), h.all.keep k (hb.block _ h.all.ltS) (hb.block _ h.all.ltM), h.fr.trans (hb.mono h.fr.size)⟩
  obtain ⟨g, d, h1, h2, h3⟩ := h.ask i hi
  exact ⟨g, d, h1, e _ _ h2, h3⟩

theorem ids_length : ∀ n, (ids n).length = n * 2
  | 0 => rfl
  | n + 1 => by simp only [ids, List.length_append, ids_length n, List.length_cons, List.length_nil]; omega
theorem ids_get : ∀ n i, i < n → (ids n)[i * 2]? = some (.int .i64 i) ∧ (ids n)[i * 2 + 1]? = some (.int .i64 0)
  | 0, i, h => by omega
  | n + 1, i, h => by
    simp only [ids]
    by_cases hi : i < n
    · have h1 := ids_get n i hi
      have hl := ids_length n
      rw [List.getElem?_append_left (by omega), List.getElem?_append_left (by omega)]
      exact h1
    · obtain rfl : i = n := by omega
      have hl := ids_length i
      rw [List.getElem?_append_right (by omega), List.getElem?_append_right (by omega), hl]
      simp

theorem L3.of {w wC w8 : World} {n sb sc N A MA : Nat} {av : Value} {SS MM : Nat → Nat} {P : Nat → Nat → Int} (h : L2 w sb sc SS MM N P wC) (hA : StateAt w8 A MA 64 (sumTo P n)) (hm : w8.heap[w.heap.size + 1]? = some (.cells #[.slice (some ⟨sb, 0, none⟩) 8 sc, av] 29 (0, 0)))
    (hr : w8.ownsRow wC.heap.size 69 2 av n (ids n)) (hb : But (w.heap.size + 1) wC w8) : ∃ ao co, av = .slice ao n co ∧ L3 w n sb sc SS MM N P A MA ao co w8 := by
  have e : ∀ k o, wC.heap[k]? = some o → k ≠ w.heap.size + 1 → w8.heap[k]? = some o := fun k o hk hne => (hb.2.1 k (Array.getElem?_eq_some_iff.1 hk).1 hne).trans hk
  have k : KeepsInts wC w8 := .of_but hb fun c t hc => by rw [h.md] at hc; cases hc; exact ⟨by decide, by decide⟩
  obtain ⟨c, hc, hc'⟩ := h.stt
  obtain ⟨d, hd, hd'⟩ := h.per
  have n1 : sb ≠ w.heap.size + 1 := fun e => by rw [e, h.md] at hc; cases hc
  obtain ⟨ao, co, rfl, hask⟩ : ∃ ao co, av = .slice ao n co ∧ ∀ i, i < n → ∃ g d, ao = some ⟨g, 0, none⟩ ∧ w8.heap[g]? = some (.cells d 69 (0, 0)) ∧ d[i * 2]? = some (.int .i64 i) ∧ d[i * 2 + 1]? = some (.int .i64 0) := by
    rcases hr.2 with ⟨rfl, rfl⟩ | ⟨g, cap, cur, rfl, _, hg, hnc, _, hcs, ht⟩
    · exact ⟨none, 0, rfl, fun i hi => by omega⟩
    · refine ⟨_, _, rfl, fun i hi => ⟨g, cur, rfl, hg, ?_⟩⟩
      have h1 := ids_get n i hi
      rw [← ht, List.getElem?_take_of_lt (by omega), List.getElem?_take_of_lt (by omega), Array.getElem?_toList, Array.getElem?_toList] at h1
      exact h1
  refine ⟨ao, co, rfl, hm, hask, ⟨c, e _ _ hc n1, hc'⟩, ⟨d, e _ _ hd (by omega), hd'⟩, fun i hi => ?_, hA, ?_⟩
  · have hs := h.sts i hi
    obtain ⟨es, cc, hmp⟩ := hs.map
    have nS : SS i ≠ w.heap.size + 1 := fun e => by have := hs.1; rw [e, h.md] at this; cases this
    have nM : MM i ≠ w.heap.size + 1 := fun e => by rw [e, h.md] at hmp; cases hmp
    exact hs.keep k ((e _ _ hs.1 nS).trans hs.1.symm) ((e _ _ hmp nM).trans hmp.symm)
  · refine ⟨hb.2.2.1.trans h.fr.os, hb.2.2.2.1.trans h.fr.tape, hb.2.2.2.2.trans h.fr.output, Nat.le_trans h.fr.size hb.1, fun j hj => (hb.2.1 j (Nat.lt_of_lt_of_le hj h.fr.size) (by omega)).trans (h.fr.block j hj)⟩

/-- How many keys hold another number than 0. -/
def nz (f : Nat → Int) : Nat → Nat
  | 0 => 0
  | m + 1 => nz f m + (if f m = 0 then 0 else 1)
theorem nz_length (f : Nat → Int) : ∀ (m : Nat) (l : List Nat), l.Nodup → (∀ k ∈ l, k < m) → (∀ k, k < m → (k ∈ l ↔ f k ≠ 0)) → l.length = nz f m
  | 0, l, _, h, _ => by
    cases l with
    | nil => rfl
    | cons a l => have := h a (by simp); omega
  | m + 1, l, hn, h, hf => by
    simp only [nz]
    by_cases hm : f m = 0
    · rw [if_pos hm]
      have hml : m ∉ l := fun e => (hf m (by omega)).1 e hm
      exact nz_length f m l hn (fun k hk => by
        have h1 := h k hk
        have : k ≠ m := fun e => hml (e ▸ hk)
        omega) (fun k hk => hf k (by omega))
    · rw [if_neg hm]
      have hml : m ∈ l := (hf m (by omega)).2 hm
      have h1 := nz_length f m (l.erase m) (hn.erase m) (fun k hk => by
        have h2 := (hn.mem_erase_iff).1 hk
        have := h k h2.2
        omega) (fun k hk => by
        rw [hn.mem_erase_iff]
        have := hf k (by omega)
        exact ⟨fun e => this.1 e.2, fun e => ⟨by omega, this.2 e⟩⟩)
      rw [List.length_erase_of_mem hml] at h1
      have : 0 < l.length := List.length_pos_of_mem hml
      omega

/-- Cmp of two Ints that are equal. -/
theorem cmpIs (X Y : Nat) (x y : Int) (w : World) (hX : BigIs w X x) (hY : BigIs w Y y) (hne : X ≠ Y) (hxy : x = y) :
    Calls Yba.prog 10 #[.pointer (some ⟨X, 0, none⟩), .pointer (some ⟨Y, 0, none⟩)] w fun e w' => e = .returned (.int .i64 0) ∧ Below w.heap.size w w' := by
  obtain ⟨cx, hcx⟩ := hX.2.1
  obtain ⟨cy, hcy⟩ := hY.2.1
  refine (cmpOf X Y x y w hX.1 hY.1 (eql_other hne hcx hcy)).mono ?_
  rintro e w' ⟨r, rfl, hr, k, rfl⟩
  rw [hr.2 hxy]
  exact ⟨rfl, rfl, rfl, rfl, Nat.le_refl _, fun _ _ => rfl⟩
end Go.Proofs.Ybulkduza
