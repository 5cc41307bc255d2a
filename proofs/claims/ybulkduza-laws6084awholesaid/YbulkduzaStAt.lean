/-
  A State holds f; one contract of New, Get and Add over it.
-/
import Derived.Test.YbulkduzaStGone
namespace Go.Proofs.Ybulkduza
open Go.RowKit

def keyL (k : Nat) : List UInt8 := if k = 0 then [97] else if k = 1 then [98] else if k = 2 then [99] else [100]
def Kl (k : Nat) : Lit := .string (keyL k)
theorem keyL_inj {j k : Nat} (hj : j < 4) (hk : k < 4) (h : keyL j = keyL k) : j = k := by
  obtain rfl | rfl | rfl | rfl : j = 0 ∨ j = 1 ∨ j = 2 ∨ j = 3 := by omega
  all_goals
    obtain rfl | rfl | rfl | rfl : k = 0 ∨ k = 1 ∨ k = 2 ∨ k = 3 := by omega
    all_goals first | rfl | (exfalso; revert h; decide)
theorem Kl_ne {j k : Nat} (hj : j < 4) (hk : k < 4) (h : j ≠ k) : Kl j ≠ Kl k := fun e => h (keyL_inj hj hk (by cases e' : Kl j; all_goals (unfold Kl at e; exact Lit.string.inj e)))
theorem keyOf_Kl (k : Nat) : keyOf Yba.prog 9 (.string (keyOf4 k)) = some (Kl k) := by
  unfold keyOf4 Kl keyL
  split
  · kernel_rfl
  · split
    · kernel_rfl
    · split
      · kernel_rfl
      · kernel_rfl
theorem Kl_key (k : Nat) : WideAt.IsKeyLit (Kl k) := by
  unfold Kl; trivial

/-- The map's datum D holds f. -/
def Holds4 (w : World) (D : DataW Unit) (f : Nat → Int) : Prop :=
  (∀ k, k < 4 → (f k = 0 ∧ Maps.has D (Kl k) = false) ∨ (f k ≠ 0 ∧ Maps.has D (Kl k) = true ∧ ∃ P : Nat, (∀ z, D.atKey (Kl k) z = .lit (.int .u64 P)) ∧ BigIs w P (f k))) ∧
  (∀ x, Maps.has D (.string x) = true → ∃ k, k < 4 ∧ x = keyL k)

/-- The State in block S, its map in block M, holds f. -/
def StateAt (w : World) (S M N : Nat) (f : Nat → Int) : Prop :=
  w.heap[S]? = some (.cells #[.map (some M)] 78 (0, 0)) ∧ ∃ D, w.ownsMap Yba.prog 9 ptrElem M N D ∧ Holds4 w D f

def upd (f : Nat → Int) (k : Nat) (v : Int) : Nat → Int := fun j => if j = k then v else f j
theorem upd_same (f : Nat → Int) (k : Nat) : upd f k (f k) = f := by
  funext j; unfold upd; split <;> simp_all

theorem Holds4.keep {w w' : World} {D : DataW Unit} {f : Nat → Int} (h : Holds4 w D f) (hk : KeepsInts w w') : Holds4 w' D f :=
  ⟨fun k hk4 => (h.1 k hk4).imp id fun ⟨h1, h2, P, h3, h4⟩ => ⟨h1, h2, P, h3, h4.keep hk⟩, h.2⟩
theorem StateAt.keep {w w' : World} {S M N : Nat} {f : Nat → Int} (h : StateAt w S M N f) (hk : KeepsInts w w') (hS : w'.heap[S]? = w.heap[S]?) (hM : w'.heap[M]? = w.heap[M]?) : StateAt w' S M N f := by
  obtain ⟨h1, D, h2, h3⟩ := h
  exact ⟨hS.trans h1, D, own_same h2 hM, h3.keep hk⟩
theorem StateAt.mono {w : World} {S M N N' : Nat} {f : Nat → Int} (h : StateAt w S M N f) (hn : N ≤ N') : StateAt w S M N' f := by
  obtain ⟨h1, D, h2, h3⟩ := h
  exact ⟨h1, D, h2.mono hn, h3⟩
theorem StateAt.map {w : World} {S M N : Nat} {f : Nat → Int} (h : StateAt w S M N f) : ∃ es c, w.heap[M]? = some (.map es c) := by
  obtain ⟨_, D, ⟨es, c, hb, _⟩, _⟩ := h
  exact ⟨es, c, hb⟩
theorem StateAt.ltM {w : World} {S M N : Nat} {f : Nat → Int} (h : StateAt w S M N f) : M < w.heap.size := by
  obtain ⟨_, D, hown, _⟩ := h
  exact hown.lt
theorem StateAt.ltS {w : World} {S M N : Nat} {f : Nat → Int} (h : StateAt w S M N f) : S < w.heap.size := (Array.getElem?_eq_some_iff.1 h.1).1
theorem StateAt.cell {w : World} {S M N : Nat} {f : Nat → Int} (h : StateAt w S M N f) : w.cell? ⟨S, 0, none⟩ = some (.map (some M)) := by
  unfold World.cell?; simp only [h.1]; rfl
/-- What writes one map leaves all Ints. -/
theorem But.ints {w w' : World} {M : Nat} (h : But M w w') {es : Array _} {c : _} (hm : w.heap[M]? = some (.map es c)) : KeepsInts w w' := .of_but h fun c' t hc => by rw [hm] at hc; cases hc

/-- A new State. -/
theorem StateAt.new (w : World) : StateAt ((w.alloc (.map #[] 0)).alloc (.cells #[.map (some w.heap.size)] 78)) (w.heap.size + 1) w.heap.size 0 (fun _ => 0) := by
  refine ⟨?_, .map [], own_same (World.ownsMap_made w _ _ _) (Below.heap_alloc _ _ _ (by simp)), fun k _ => .inl ⟨rfl, rfl⟩, fun x hx => by cases hx⟩
  have := heap_alloc_new (w.alloc (.map #[] 0)) (.cells #[.map (some w.heap.size)] 78)
  rwa [World.size_alloc] at this

/-- A key is put. -/
theorem StateAt.put {w W w2 w' : World} {S M N Z k : Nat} {f : Nat → Int} {v : Int} {D : DataW Unit} (hS : w.heap[S]? = some (.cells #[.map (some M)] 78 (0, 0))) (hown : w.ownsMap Yba.prog 9 ptrElem M N D) (hf : Holds4 w D f) (hk : k < 4) (hv : v ≠ 0)
    (hW : ∀ j, j < w.heap.size → W.heap[j]? = w.heap[j]?) (sW : w.heap.size ≤ W.heap.size) (tW : W.os = w.os ∧ W.tape = w.tape ∧ W.output = w.output) (hb : But w.heap.size W w2) (hZ : BigIs w2 Z v) (ho : w'.ownsMap Yba.prog 9 ptrElem M (N + 1) (D.put (Kl k) (.lit (.int .u64 Z)))) (hg : w2.grownBy w' (some M)) :
    But M w w' ∧ StateAt w' S M (N + 1) (upd f k v) := by
  have lM := hown.lt
  have lS : S < w.heap.size := (Array.getElem?_eq_some_iff.1 hS).1
  have s2 : ∀ j, j < w.heap.size → w2.heap[j]? = w.heap[j]? := fun j hj => (hb.2.1 j (by omega) (by omega)).trans (hW j hj)
  have s2' : w.heap.size ≤ w2.heap.size := Nat.le_trans sW hb.1
  have hMm : ∃ es c, w.heap[M]? = some (.map es c) := by obtain ⟨es, c, h, _⟩ := hown; exact ⟨es, c, h⟩
  obtain ⟨es, c, hMm⟩ := hMm
  have hM2 : w2.heap[M]? = some (.map es c) := (s2 M lM).trans hMm
  have k1 : KeepsInts w w2 := .of_size s2
  have k2 : KeepsInts w2 w' := .of_grown hg fun z hz c' t hc => by cases hz; rw [hM2] at hc; cases hc
  have e : ∀ j, j < w.heap.size → j ≠ M → w'.heap[j]? = w.heap[j]? := fun j hj hne => (hg.block j (by omega) (by simpa using hne)).trans (s2 j hj)
  have hne : S ≠ M := by rintro rfl; rw [hMm] at hS; cases hS
  refine ⟨⟨Nat.le_trans s2' hg.size, e, by rw [hg.os, hb.2.2.1, tW.1], by rw [hg.tape, hb.2.2.2.1, tW.2.1], by rw [hg.output, hb.2.2.2.2, tW.2.2]⟩, (e S lS hne).trans hS, _, ho, ?_, ?_⟩
  · intro j hj
    by_cases hjk : j = k
    · subst hjk
      refine .inr ⟨by unfold upd; rw [if_pos rfl]; exact hv, Maps.has_put_same hown.isMap (Kl_key _) _, Z, fun z => Maps.atKey_put_same hown.isMap (Kl_key _) _ z, ?_⟩
      unfold upd; rw [if_pos rfl]
      exact hZ.keep k2
    · have hn := Kl_ne hj hk hjk
      rw [show upd f k v j = f j by unfold upd; rw [if_neg hjk]]
      rcases hf.1 j hj with ⟨h1, h2⟩ | ⟨h1, h2, P, h3, h4⟩
      · exact .inl ⟨h1, (Maps.has_put_other hn _).trans h2⟩
      · exact .inr ⟨h1, (Maps.has_put_other hn _).trans h2, P, fun z => (Maps.atKey_put_other hn _ z).trans (h3 z), h4.keep (k1.trans k2)⟩
  · intro x hx
    by_cases hxk : x = keyL k
    · exact ⟨k, hk, hxk⟩
    · rw [Maps.has_put_other (show Lit.string x ≠ Kl k from fun e => hxk (Lit.string.inj e))] at hx
      exact hf.2 x hx
/-- A key is struck. -/
theorem StateAt.del {w W w2 w' : World} {S M N k : Nat} {f : Nat → Int} {D : DataW Unit} (hS : w.heap[S]? = some (.cells #[.map (some M)] 78 (0, 0))) (hown : w.ownsMap Yba.prog 9 ptrElem M N D) (hf : Holds4 w D f) (hk : k < 4)
    (hW : ∀ j, j < w.heap.size → W.heap[j]? = w.heap[j]?) (sW : w.heap.size ≤ W.heap.size) (tW : W.os = w.os ∧ W.tape = w.tape ∧ W.output = w.output) (hb : But w.heap.size W w2) (ho : w'.ownsMap Yba.prog 9 ptrElem M N (D.del (Kl k))) (hg : w2.grownBy w' (some M)) :
    But M w w' ∧ StateAt w' S M N (upd f k 0) := by
  have lM := hown.lt
  have lS : S < w.heap.size := (Array.getElem?_eq_some_iff.1 hS).1
  have s2 : ∀ j, j < w.heap.size → w2.heap[j]? = w.heap[j]? := fun j hj => (hb.2.1 j (by omega) (by omega)).trans (hW j hj)
  have s2' : w.heap.size ≤ w2.heap.size := Nat.le_trans sW hb.1
  have hMm : ∃ es c, w.heap[M]? = some (.map es c) := by obtain ⟨es, c, h, _⟩ := hown; exact ⟨es, c, h⟩
  obtain ⟨es, c, hMm⟩ := hMm
  have hM2 : w2.heap[M]? = some (.map es c) := (s2 M lM).trans hMm
  have k1 : KeepsInts w w2 := .of_size s2
  have k2 : KeepsInts w2 w' := .of_grown hg fun z hz c' t hc => by cases hz; rw [hM2] at hc; cases hc
  have e : ∀ j, j < w.heap.size → j ≠ M → w'.heap[j]? = w.heap[j]? := fun j hj hne => (hg.block j (by omega) (by simpa using hne)).trans (s2 j hj)
  have hne : S ≠ M := by rintro rfl; rw [hMm] at hS; cases hS
  refine ⟨⟨Nat.le_trans s2' hg.size, e, by rw [hg.os, hb.2.2.1, tW.1], by rw [hg.tape, hb.2.2.2.1, tW.2.1], by rw [hg.output, hb.2.2.2.2, tW.2.2]⟩, (e S lS hne).trans hS, _, ho, ?_, ?_⟩
  · intro j hj
    by_cases hjk : j = k
    · subst hjk
      exact .inl ⟨by unfold upd; rw [if_pos rfl], Maps.has_del_same⟩
    · have hn := Kl_ne hj hk hjk
      rw [show upd f k 0 j = f j by unfold upd; rw [if_neg hjk]]
      rcases hf.1 j hj with ⟨h1, h2⟩ | ⟨h1, h2, P, h3, h4⟩
      · exact .inl ⟨h1, (Maps.has_del_other hn).trans h2⟩
      · exact .inr ⟨h1, (Maps.has_del_other hn).trans h2, P, fun z => (Maps.atKey_del_other hn z).trans (h3 z), h4.keep (k1.trans k2)⟩
  · intro x hx
    by_cases hxk : x = keyL k
    · exact ⟨k, hk, hxk⟩
    · rw [Maps.has_del_other (show Lit.string x ≠ Kl k from fun e => hxk (Lit.string.inj e))] at hx
      exact hf.2 x hx

/-- State.Add. -/
theorem stAdd (S M N Y k : Nat) (f : Nat → Int) (y : Int) (w : World) (h : StateAt w S M N f) (hN : N < maxLen) (hk : k < 4) (hY : BigIs w Y y) (hb : -4611686018427387904 < f k + y ∧ f k + y < 4611686018427387904) :
    Calls Yba.prog 5 #[.pointer (some ⟨S, 0, none⟩), .string (keyOf4 k), .pointer (some ⟨Y, 0, none⟩)] w fun e w' => e = .returned (.tuple #[]) ∧ But M w w' ∧ StateAt w' S M (N + 1) (upd f k (f k + y)) := by
  have hc := h.cell
  by_cases hy : y = 0
  · subst hy
    refine (stAdd_zero S Y (keyOf4 k) w hY.1).mono ?_
    rintro e w' ⟨rfl, rfl⟩
    rw [Int.add_zero, upd_same]
    exact ⟨rfl, ⟨Nat.le_refl _, fun _ _ _ => rfl, rfl, rfl, rfl⟩, h.mono (by omega)⟩
  obtain ⟨hS, D, hown, hf⟩ := h
  rcases hf.1 k hk with ⟨h1, h2⟩ | ⟨h1, h2, P, h3, h4⟩
  · rw [h1, Int.zero_add] at hb ⊢
    refine (stAdd_new S M N Y D (Kl k) (keyOf4 k) y w hc hown hN (keyOf_Kl k) h2 hY hy hb).mono ?_
    rintro e w' ⟨rfl, w2, a1, a2, a3, a4⟩
    exact ⟨rfl, StateAt.put hS hown hf hk hy (fun j hj => (Below.heap_alloc _ _ _ (by simp; omega)).trans (Below.heap_alloc _ _ _ hj)) (by simp; omega) ⟨rfl, rfl, rfl⟩ a1 a2 a3 a4⟩
  · by_cases hs : f k + y = 0
    · refine (stAdd_gone S M N P Y D (Kl k) (keyOf4 k) (f k) y w hc hown (keyOf_Kl k) h2 (h3 _) h4 hY hy hs).mono ?_
      rintro e w' ⟨rfl, w2, a1, a3, a4⟩
      rw [hs]
      have := StateAt.del hS hown hf hk (fun j hj => Below.heap_alloc _ _ _ hj) (by simp) ⟨rfl, rfl, rfl⟩ a1 a3 a4.grown
      exact ⟨rfl, this.1, this.2.mono (by omega)⟩
    · refine (stAdd_old S M N P Y D (Kl k) (keyOf4 k) (f k) y w hc hown hN (keyOf_Kl k) h2 (h3 _) h4 hY hy hs hb).mono ?_
      rintro e w' ⟨rfl, w2, a1, a2, a3, a4⟩
      exact ⟨rfl, StateAt.put hS hown hf hk hs (fun j hj => Below.heap_alloc _ _ _ hj) (by simp) ⟨rfl, rfl, rfl⟩ a1 a2 a3 a4⟩

/-- State.Get: an Int that holds f k. -/
theorem stGet (S M N k : Nat) (f : Nat → Int) (w : World) (h : StateAt w S M N f) (hk : k < 4) :
    Calls Yba.prog 9 #[.pointer (some ⟨S, 0, none⟩), .string (keyOf4 k)] w fun e w' => ∃ P, e = .returned (.pointer (some ⟨P, 0, none⟩)) ∧ BigIs w' P (f k) ∧ Below w.heap.size w w' := by
  have hc := h.cell
  obtain ⟨hS, D, hown, hf⟩ := h
  rcases hf.1 k hk with ⟨h1, h2⟩ | ⟨h1, h2, P, h3, h4⟩
  · refine (get_none S M N D (Kl k) (keyOf4 k) w hc hown (keyOf_Kl k) h2).mono ?_
    rintro e w' ⟨rfl, rfl⟩
    have c1 : (w.alloc (.cells #[.bool false, .slice none 0 0] 83)).cell? ⟨w.heap.size, 1, none⟩ = some (.slice none 0 0) := cell_new _ _ _ _ _ _ rfl rfl
    rw [h1]
    exact ⟨_, rfl, ⟨.inl ⟨rfl, cell_new _ _ _ _ _ _ rfl rfl, _, _, c1⟩, ⟨_, heap_alloc_new _ _⟩, fun b o l c hc => by rw [c1] at hc; cases hc⟩, (Below.refl _ _).alloc (Nat.le_refl _) _⟩
  · refine (get_some S M N P D (Kl k) (keyOf4 k) w hc hown (keyOf_Kl k) h2 (h3 _)).mono ?_
    rintro e w' ⟨rfl, rfl⟩
    exact ⟨P, rfl, h4, Below.refl _ _⟩
end Go.Proofs.Ybulkduza
