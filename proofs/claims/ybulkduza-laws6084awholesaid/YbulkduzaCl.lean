/-
  cluster.state.
-/
import Derived.Test.YbulkduzaAll
import Derived.Test.YbulkduzaAsk
import Derived.Handy
namespace Go.Proofs.Ybulkduza
open Go.RowKit Go.Maps Go.Sort Go.Shelf
attribute [local go_sem] Oper.semAt_some

/-- A function's contract from its body, where the body holds a range over a function. -/
theorem calls_of_wp_marks {f : FuncId} {fn : Func} {c : Code} {args : Array Value} {w : World} {R : Ending → World → Prop} (n : Nat)
    (hf : Yba.prog.funcs[f]? = some fn) (hb : fn.body = some c)
    (h : c.wp Yba.prog (bodyPostM Fence.wide n Yba.prog fn R) { tmps := args ++ Array.replicate (fn.ntmps - args.size) undef, defers := [] } w) : Calls Yba.prog f args w R :=
  (callsIn_wide (n := n)).1 (callsIn_of_wp_marks hf hb trivial (wpIn_wide.2 h) rfl)

def sumTo (F : Nat → Nat → Int) : Nat → Nat → Int
  | 0, _ => 0
  | s + 1, k => sumTo F s k + F s k
theorem sumTo_bound (F : Nat → Nat → Int) (k : Nat) (b : Int) : ∀ s, (∀ i, i < s → -b ≤ F i k ∧ F i k ≤ b) → -(s * b) ≤ sumTo F s k ∧ sumTo F s k ≤ s * b
  | 0, _ => by simp [sumTo]
  | s + 1, h => by
    have h1 := sumTo_bound F k b s fun i hi => h i (by omega)
    have h2 := h s (by omega)
    have e : ((s + 1 : Nat) : Int) * b = s * b + b := by rw [Int.natCast_add, Int.add_mul]; simp
    simp only [sumTo]
    rw [e]
    omega
def ids : Nat → List Value
  | 0 => []
  | s + 1 => ids s ++ [.int .i64 s, .int .i64 0]

/-- The marks that the loops over functions have left: no deferred call in any. -/
def Marks (B : Nat) (w : World) : List Deferred → Prop
  | [] => True
  | d :: ds => (∃ D, B ≤ D ∧ d = { target := .collected D, args := #[] } ∧ w.heap[D]? = some (Obj.deferred (some [])) ∧ ∀ d' ∈ ds, d'.target ≠ .collected D) ∧ Marks B w ds
theorem Marks.keep {B : Nat} {w w' : World} (h : ∀ D : Nat, w.heap[D]? = some (Obj.deferred (some [])) → w'.heap[D]? = some (Obj.deferred (some []))) : ∀ {ds : List Deferred}, Marks B w ds → Marks B w' ds
  | [], _ => trivial
  | _ :: _, ⟨⟨D, hB, h1, h2, h3⟩, h4⟩ => ⟨⟨D, hB, h1, h D h2, h3⟩, Marks.keep h h4⟩
theorem Marks.lt {B : Nat} {w : World} : ∀ {ds : List Deferred}, Marks B w ds → ∀ d' ∈ ds, ∀ D, d'.target = .collected D → D < w.heap.size
  | d :: ds, ⟨⟨D, _, h1, h2, _⟩, h4⟩, d', hd, D', hD => by
    rcases List.mem_cons.1 hd with rfl | hd
    · subst h1; cases hD; exact (Array.getElem?_eq_some_iff.1 h2).1
    · exact Marks.lt h4 d' hd D' hD
theorem Marks.putObj {B : Nat} {w : World} {D : Nat} {o : Obj} : ∀ {ds : List Deferred}, Marks B w ds → (∀ d' ∈ ds, d'.target ≠ .collected D) → Marks B (w.putObj D o) ds
  | [], _, _ => trivial
  | d :: ds, ⟨⟨D', hB, h1, h2, h3⟩, h4⟩, h => ⟨⟨D', hB, h1, (World.putObj_heap_other (fun e => h d (by simp) (by rw [h1, e]))).trans h2, h3⟩, Marks.putObj h4 fun d' hd => h d' (List.mem_cons_of_mem _ hd)⟩
/-- All but blocks of deferred calls beyond B lies as it lay. -/
def Shut (B : Nat) (w w' : World) : Prop := w'.heap.size = w.heap.size ∧ (∀ k : Nat, (k < B ∨ ∀ x, w.heap[k]? ≠ some (Obj.deferred x)) → w'.heap[k]? = w.heap[k]?) ∧ w'.os = w.os ∧ w'.tape = w.tape ∧ w'.output = w.output
theorem leaves_marks {B n : Nat} {fn : Func} {tmps : Array Value} {R : Ending → World → Prop} : ∀ (ds : List Deferred) (w : World), Marks B w ds → (∀ w', Shut B w w' → LeavesInM Fence.wide n Yba.prog fn tmps R [] .returning w') → LeavesInM Fence.wide n Yba.prog fn tmps R ds .returning w
  | [], w, _, h => h w ⟨rfl, fun _ _ => rfl, rfl, rfl, rfl⟩
  | d :: ds, w, ⟨⟨D, hB, h1, h2, h3⟩, h4⟩, h => by
    subst h1
    refine ⟨by simp, .inl ⟨D, _, rfl, run_takeDeferred h2, leaves_marks ds _ (h4.putObj h3) fun w' hs => h w' ?_⟩⟩
    have hD : ∀ k : Nat, (k < B ∨ ∀ x, w.heap[k]? ≠ some (Obj.deferred x)) → k ≠ D := fun k hk e => by
      rcases hk with hk | hk
      · omega
      · exact hk _ (e ▸ h2)
    refine ⟨hs.1.trans (by simp [World.putObj]), fun k hk => ?_, hs.2.2⟩
    have e1 : (w.putObj D (.deferred none)).heap[k]? = w.heap[k]? := World.putObj_heap_other (hD k hk)
    exact (hs.2.1 k (hk.imp id fun hk x hx => hk x (e1.symm.trans hx))).trans e1

/-- What committedState leaves. -/
theorem asked_keep {wr w1 : World} {mb sb sc base n : Nat} {av : Value} {xs : List Value} (hmd : wr.heap[mb]? = some (.cells #[.slice (some ⟨sb, 0, none⟩) 8 sc, av] 29 (0, 0))) (hrow : wr.ownsRow base 69 2 av n xs)
    (hf : ∀ k, k < wr.heap.size → k ≠ mb → some k ≠ av.ownBlock → w1.heap[k]? = wr.heap[k]?) {k : Nat} {o : Obj} (hk : wr.heap[k]? = some o) (h29 : ∀ c, o ≠ .cells c 29 (0, 0)) (h69 : ∀ c, o ≠ .cells c 69 (0, 0)) : w1.heap[k]? = some o := by
  refine (hf k (Array.getElem?_eq_some_iff.1 hk).1 ?_ ?_).trans hk
  · rintro rfl
    rw [hmd] at hk
    cases hk
    exact h29 _ rfl
  · rcases hrow.2 with ⟨rfl, _⟩ | ⟨g, cap, cur, rfl, _, hg, _⟩
    · simp [Value.ownBlock]
    · simp only [Value.ownBlock, ne_eq, Option.some.injEq]
      rintro rfl
      rw [hg] at hk
      cases hk
      exact h69 _ rfl

/-- What has come of a shard's State. -/
def got {D : DataW Unit} (f : Nat → Int) : List (Ent D) → Nat → Int
  | [], _ => 0
  | x :: xs, k => (if x.1.1 = k then f k else 0) + got f xs k
theorem got_snoc {D : DataW Unit} (f : Nat → Int) (x : Ent D) (k : Nat) : ∀ pre : List (Ent D), got f (pre ++ [x]) k = got f pre k + (if x.1.1 = k then f k else 0)
  | [] => by simp [got]
  | y :: pre => by simp only [List.cons_append, got, got_snoc f x k pre]; omega
theorem got_bound {D : DataW Unit} (f : Nat → Int) (k : Nat) (b : Int) (hb : -b ≤ f k ∧ f k ≤ b) (h0 : 0 ≤ b) : ∀ pre : List (Ent D), pre.length ≤ 4 → -(4 * b) ≤ got f pre k ∧ got f pre k ≤ 4 * b := by
  have key : ∀ pre : List (Ent D), -(pre.length * b) ≤ got f pre k ∧ got f pre k ≤ pre.length * b := by
    intro pre
    induction pre with
    | nil => simp [got]
    | cons x xs ih =>
      simp only [got, List.length_cons]
      have e : ((xs.length + 1 : Nat) : Int) * b = xs.length * b + b := by rw [Int.natCast_add, Int.add_mul]; simp
      rw [e]
      split <;> omega
  intro pre hl
  have h1 := key pre
  have h2 : (pre.length : Int) * b ≤ 4 * b := Int.mul_le_mul_of_nonneg_right (by omega) h0
  omega
theorem got_all {D : DataW Unit} (f : Nat → Int) (k : Nat) : ∀ xs : List (Ent D), (xs.map fun x => x.1.1).Nodup → got f xs k = if k ∈ xs.map (fun x => x.1.1) then f k else 0
  | [], _ => by simp [got]
  | x :: xs, h => by
    simp only [List.map_cons, List.nodup_cons] at h
    have ih := got_all f k xs h.2
    simp only [got, ih, List.map_cons, List.mem_cons]
    by_cases hx : x.1.1 = k
    · subst hx
      simp [h.1]
    · rw [if_neg hx, Int.zero_add]
      by_cases hm : k ∈ xs.map (fun x => x.1.1)
      · rw [if_pos hm, if_pos (.inr hm)]
      · rw [if_neg hm, if_neg (fun e => e.elim (fun e => hx e.symm) hm)]
theorem StateAt.congr {w : World} {S M N : Nat} {f g : Nat → Int} (h : StateAt w S M N f) (hfg : ∀ k, k < 4 → f k = g k) : StateAt w S M N g := by
  obtain ⟨h1, D, h2, h3, h4⟩ := h
  exact ⟨h1, D, h2, fun k hk => by rw [← hfg k hk]; exact h3 k hk, h4⟩
/-- The Int of what has come. -/
theorem Holds4.ent {w : World} {D : DataW Unit} {f : Nat → Int} (h : Holds4 w D f) (x : Ent D) : BigIs w x.1.2 (f x.1.1) := by
  rcases h.1 x.1.1 x.2.1 with ⟨_, h2⟩ | ⟨_, _, P, h3, h4⟩
  · have := x.2.2 .nil
    rw [Maps.atKey_of_not_has h2] at this
    cases this
  · have := (h3 .nil).symm.trans (x.2.2 .nil)
    simp at this
    obtain rfl : P = x.1.2 := by omega
    exact h4
theorem But.trans {M : Nat} {a b c : World} (h : But M a b) (h' : But M b c) : But M a c :=
  ⟨Nat.le_trans h.1 h'.1, fun k hk hne => (h'.2.1 k (Nat.lt_of_lt_of_le hk h.1) hne).trans (h.2.1 k hk hne), h'.2.2.1.trans h.2.2.1, h'.2.2.2.1.trans h.2.2.2.1, h'.2.2.2.2.trans h.2.2.2.2⟩

/-- Between two shards. -/
structure ClInv (w : World) (mb sb sc : Nat) (F : Nat → Nat → Int) (s : Nat) (wr : World) (av : Value) (ds : List Deferred) : Prop where
  st : StateAt wr (w.heap.size + 1) w.heap.size (8 * s) (sumTo F s)
  md : wr.heap[mb]? = some (.cells #[.slice (some ⟨sb, 0, none⟩) 8 sc, av] 29 (0, 0))
  row : wr.ownsRow w.heap.size 69 2 av s (ids s)
  fr : But mb w wr
  bx : wr.heap[w.heap.size + 2]? = some (.cells #[.pointer (some ⟨w.heap.size + 1, 0, none⟩)] 30 (0, 0))
  mks : Marks w.heap.size wr ds

set_option maxRecDepth 100000 in
set_option maxHeartbeats 2000000 in
theorem clusterState (C mb sb sc n NN : Nat) (SS MM : Nat → Nat) (F : Nat → Nat → Int) (w : World) (hn : n < 8) (hC7 : w.cell? ⟨C, 7, none⟩ = some (.int .i64 n)) (hC13 : w.cell? ⟨C, 13, none⟩ = some (.iface 25 (.pointer (some ⟨mb, 0, none⟩)))) (hCm : C ≠ mb)
    (hm : w.heap[mb]? = some (.cells #[.slice (some ⟨sb, 0, none⟩) 8 sc, .slice none 0 0] 29 (0, 0))) (hne : sb ≠ mb) (hst : ∀ i, i < 8 → w.cell? ⟨sb, i, none⟩ = some (.pointer (some ⟨SS i, 0, none⟩))) (hS : ∀ i, i < 8 → StateAt w (SS i) (MM i) NN (F i))
    (hF : ∀ i, i < 8 → ∀ k, k < 4 → -4503599627370496 ≤ F i k ∧ F i k ≤ 4503599627370496) :
    Calls Yba.prog 8 #[.pointer (some ⟨C, 0, none⟩)] w fun e w' => ∃ A MA av', e = .returned (.pointer (some ⟨A, 0, none⟩)) ∧ StateAt w' A MA 64 (sumTo F n) ∧ w'.heap[mb]? = some (.cells #[.slice (some ⟨sb, 0, none⟩) 8 sc, av'] 29 (0, 0)) ∧ w'.ownsRow w.heap.size 69 2 av' n (ids n) ∧ w.heap.size ≤ A ∧ w.heap.size ≤ MA ∧ But mb w w' := by
  have h4 := newState w
  obtain ⟨W0, hW0⟩ : ∃ W0, (((w.alloc (.map #[] 0)).alloc (.cells #[.map (some w.heap.size)] 78)).alloc (.cells #[.pointer (some ⟨w.heap.size + 1, 0, none⟩)] 30)) = W0 := ⟨_, rfl⟩
  have sz0 : W0.heap.size = w.heap.size + 3 := by rw [← hW0]; simp
  have f0 : ∀ k, k < w.heap.size → W0.heap[k]? = w.heap[k]? := fun k hk => by
    rw [← hW0]; exact ((Below.heap_alloc _ _ _ (by simp; omega)).trans (Below.heap_alloc _ _ _ (by simp; omega))).trans (Below.heap_alloc _ _ _ hk)
  have t0 : W0.os = w.os ∧ W0.tape = w.tape ∧ W0.output = w.output := by rw [← hW0]; exact ⟨rfl, rfl, rfl⟩
  have hA0 : StateAt W0 (w.heap.size + 1) w.heap.size 0 (fun _ => 0) := by
    rw [← hW0]
    exact (StateAt.new w).keep (.alloc _ _) (Below.heap_alloc _ _ _ (by simp)) (Below.heap_alloc _ _ _ (by simp; omega))
  have hB0 : W0.heap[w.heap.size + 2]? = some (.cells #[.pointer (some ⟨w.heap.size + 1, 0, none⟩)] 30 (0, 0)) := by
    rw [← hW0]
    have := heap_alloc_new ((w.alloc (.map #[] 0)).alloc (.cells #[.map (some w.heap.size)] 78)) (.cells #[.pointer (some ⟨w.heap.size + 1, 0, none⟩)] 30)
    simpa using this
  have lC : C < w.heap.size := World.block_lt_of_cell? w _ hC7
  have e7 : W0.cell? ⟨C, 7, none⟩ = some (.int .i64 n) := (World.cell?_of_block (w := w) (f0 C lC)).trans hC7
  refine calls_of_wp_marks 6 Yba.func8 rfl ?_
  simp only [Yba.ntmps8, List.size_toArray, List.length_cons, List.length_nil, Nat.reduceAdd, Nat.reduceSub, Array.replicate_succ, Array.replicate_zero, List.push_toArray, List.append_toArray, List.nil_append, List.cons_append]
  go_wp2_with (first | (go_at_call 4; refine h4.mono ?_; rintro e w1 ⟨rfl, rfl⟩))
  have lm : mb < w.heap.size := (Array.getElem?_eq_some_iff.1 hm).1
  have lsb : sb < w.heap.size := World.block_lt_of_cell? w _ (hst 0 (by omega))
  refine wp_loop_ghost_k (fun k a' wr => ∃ (s : Nat) (av : Value) (ds : List Deferred) (u4 u14 u15 u16 u17 u18 u19 u20 u21 u22 u23 u30 : Value), k + s = n ∧ ClInv w mb sb sc F s wr av ds ∧
    a' = { tmps := #[.pointer (some ⟨C, 0, none⟩), undef, .pointer none, .pointer (some ⟨w.heap.size + 1 + 1, 0, none⟩), u4, undef, undef, .pointer (some ⟨w.heap.size + 1, 0, none⟩), .pointer (some ⟨C, 0, none⟩), .pointer (some ⟨C, 0, none⟩), .pointer (some ⟨C, 7, none⟩), .pointer (some ⟨C, 7, none⟩), .int .i64 n, .int .i64 s, u14, u15, u16, u17, u18, u19, u20, u21, u22, u23, undef, undef, undef, undef, undef, undef, u30, undef], defers := ds }) n ?_ ?_
  · refine ⟨0, _, [], _, _, _, _, _, _, _, _, _, _, _, _, by omega, ⟨hA0, (f0 mb lm).trans hm, World.ownsRow_nil _ _ _ _, ⟨by omega, fun k hk _ => f0 k hk, t0⟩, hB0, trivial⟩, rfl⟩
  · rintro k a' wr ⟨s, av, ds, u4, u14, u15, u16, u17, u18, u19, u20, u21, u22, u23, u30, hks, hI, rfl⟩ J K hJ hK
    have e7' : wr.cell? ⟨C, 7, none⟩ = some (.int .i64 n) := (World.cell?_of_block (w := w) (hI.fr.2.1 C lC hCm)).trans hC7
    have e13' : wr.cell? ⟨C, 13, none⟩ = some (.iface 25 (.pointer (some ⟨mb, 0, none⟩))) := (World.cell?_of_block (w := w) (hI.fr.2.1 C lC hCm)).trans hC13
    by_cases hsn : s < n
    · have hd : decide ((s : Int) < n) = true := by simp; omega
      have hcm := committed mb sb sc s (SS s) w.heap.size av (ids s) wr (by omega) hI.md ((World.cell?_of_block (w := w) (hI.fr.2.1 sb lsb hne)).trans (hst s (by omega))) hI.row hI.fr.1 lm lsb hne
      go_wp2_with (first | (go_at_call 53; refine hcm.mono ?_; rintro e w1 ⟨rfl, hw1⟩))
      obtain ⟨av', hmd1, hrow1, hsz1, hfr1, hos1⟩ := hw1
      have lA : w.heap.size + 3 ≤ wr.heap.size := by have := (Array.getElem?_eq_some_iff.1 hI.bx).1; omega
      have k1 : KeepsInts wr w1 := .of_block fun k c t hk ht => (asked_keep hI.md hI.row hfr1 hk (fun c' e => by cases e; rcases ht with h | h <;> cases h) (fun c' e => by cases e; rcases ht with h | h <;> cases h)).trans hk.symm
      have hA1 : StateAt w1 (w.heap.size + 1) w.heap.size (8 * s) (sumTo F s) := by
        obtain ⟨es, c, hMm⟩ := hI.st.map
        exact hI.st.keep k1 ((asked_keep hI.md hI.row hfr1 hI.st.1 (fun c' e => by cases e) (fun c' e => by cases e)).trans hI.st.1.symm) ((asked_keep hI.md hI.row hfr1 hMm (fun c' e => by cases e) (fun c' e => by cases e)).trans hMm.symm)
      have hB1 : w1.heap[w.heap.size + 2]? = some (.cells #[.pointer (some ⟨w.heap.size + 1, 0, none⟩)] 30 (0, 0)) := asked_keep hI.md hI.row hfr1 hI.bx (fun c' e => by cases e) (fun c' e => by cases e)
      have hw1 : But mb w w1 := ⟨Nat.le_trans hI.fr.1 hsz1, fun k hk hkm => (hfr1 k (Nat.lt_of_lt_of_le hk hI.fr.1) hkm (own_ne hI.row hk)).trans (hI.fr.2.1 k hk hkm), hos1.1.trans hI.fr.2.2.1, hos1.2.1.trans hI.fr.2.2.2.1, hos1.2.2.trans hI.fr.2.2.2.2⟩
      have hmk1 : Marks w.heap.size w1 ds := hI.mks.keep fun D hD => asked_keep hI.md hI.row hfr1 hD (fun c' e => by cases e) (fun c' e => by cases e)
      have kw1 : KeepsInts w w1 := .of_but hw1 fun c t hc => by rw [hm] at hc; cases hc; exact ⟨by decide, by decide⟩
      have hs8 : s < 8 := by omega
      have hSm : SS s ≠ mb := by intro e; have := (hS s hs8).1; rw [e, hm] at this; cases this
      have hMm : MM s ≠ mb := by intro e; obtain ⟨es, c, h⟩ := (hS s hs8).map; rw [e, hm] at h; cases h
      have hS1 : StateAt w1 (SS s) (MM s) NN (F s) := (hS s hs8).keep kw1 (hw1.2.1 _ (hS s hs8).ltS hSm) (hw1.2.1 _ (hS s hs8).ltM hMm)
      have lMM : MM s < w.heap.size := (hS s hs8).ltM
      have h11 := all11 (SS s) (MM s) w1 hS1.cell
      clear hcm hfr1 hos1 k1 hW0 e7 e7' e13' hd h4
      go_wp2_with (first | (go_at_call 11; refine h11.mono ?_; rintro e w2' ⟨rfl, rfl⟩))
      obtain ⟨_, D0, hown1, hH1⟩ := hS1
      have b1' := heap_alloc_new w1 (.cells #[.map (some (MM s))] 76)
      obtain ⟨W2, hW2⟩ : ∃ W2, w1.alloc (.cells #[.map (some (MM s))] 76) = W2 := ⟨_, rfl⟩
      have f2 : ∀ k, k < w1.heap.size → W2.heap[k]? = w1.heap[k]? := fun k hk => by rw [← hW2]; exact Below.heap_alloc _ _ _ hk
      have sz2 : W2.heap.size = w1.heap.size + 1 := by rw [← hW2]; simp
      have t2 : W2.os = w1.os ∧ W2.tape = w1.tape ∧ W2.output = w1.output := by rw [← hW2]; exact ⟨rfl, rfl, rfl⟩
      rw [hW2] at b1' ⊢
      clear hW2 h11
      have hbm : W2.cell? ⟨w1.heap.size, 0, none⟩ = some (.map (some (MM s))) := by unfold World.cell?; simp only [b1']; rfl
      have k2 : KeepsInts w1 W2 := .of_size f2
      have hA2 : StateAt W2 (w.heap.size + 1) w.heap.size (8 * s) (sumTo F s) := hA1.keep k2 (f2 _ hA1.ltS) (f2 _ hA1.ltM)
      have hown2 : W2.ownsMap Yba.prog 9 ptrElem (MM s) NN D0 := own_same hown1 (f2 _ hown1.lt)
      have hH2 : Holds4 W2 D0 (F s) := hH1.keep k2
      have hB2 : W2.heap[w.heap.size + 2]? = some (.cells #[.pointer (some ⟨w.heap.size + 1, 0, none⟩)] 30 (0, 0)) := (f2 _ (Array.getElem?_eq_some_iff.1 hB1).1).trans hB1
      have hvals : ∀ k, k < 4 → has D0 (Kl k) = true → ∃ P : Nat, ∀ z, D0.atKey (Kl k) z = .lit (.int .u64 P) := fun k hk hh => by
        rcases hH2.1 k hk with ⟨_, h⟩ | ⟨_, _, P, h3, _⟩
        · rw [h] at hh; cases hh
        · exact ⟨P, h3⟩
      refine (wpIn_wide (n := 6)).1 ?_
      refine wpIn_rangeFunc_ownG rfl (by omega) (gf := 24) (lb := #[.pointer (some ⟨w1.heap.size, 0, none⟩)]) rfl trivial (enters_of Yba.func24 (by kernel_rfl) rfl)
        (all24_stops 5 (by omega) w1.heap.size (MM s) NN w.heap.size D0 W2 hH2.2 hvals (by omega) (by omega) (by omega) hbm hown2) (fun h k => h.trans k) (fun W l o o' _ hl _ hw => KeepsMaps.putObj W l o o' hl hw) (Below.refl _ _) (fun _ => rfl)
        (fun pre W => StateAt W (w.heap.size + 1) w.heap.size (8 * s + pre.length) (fun k => sumTo F s k + got (F s) pre k) ∧ But w.heap.size W2 W)
        (fun _ _ _ => False) ?hI (fun _ _ _ _ _ h _ _ => h) ?h0
        (fun x => { tmps := #[.pointer (some ⟨C, 0, none⟩), undef, .pointer none, .pointer (some ⟨w.heap.size + 1 + 1, 0, none⟩), .int .i64 s, .string (keyOf4 x.1.1), .pointer (some ⟨x.1.2, 0, none⟩), .pointer (some ⟨w.heap.size + 1, 0, none⟩), .pointer (some ⟨C, 0, none⟩), .pointer (some ⟨C, 0, none⟩), .pointer (some ⟨C, 7, none⟩), .pointer (some ⟨C, 7, none⟩), .int .i64 n, .int .i64 s, .bool true, .int .i64 s, .pointer (some ⟨C, 0, none⟩), .pointer (some ⟨C, 0, none⟩), .pointer (some ⟨C, 13, none⟩), .iface 25 (.pointer (some ⟨mb, 0, none⟩)), .int .i64 s, .agg #[.int .i64 s, .int .i64 0], .pointer (some ⟨SS s, 0, none⟩), .func (.func 24) #[] #[.pointer (some ⟨w1.heap.size, 0, none⟩)], .string (keyOf4 x.1.1), .pointer (some ⟨x.1.2, 0, none⟩), undef, undef, undef, undef, u30, undef], defers := [] }) ?assign ?body ?done ?stop
      case hI =>
        intro pre W W' row ⟨h1, h2⟩ hg hr
        have hrw : ∀ k o, W.heap[k]? = some o → (o.isCells = true ∨ k < W2.heap.size) → W'.heap[k]? = W.heap[k]? := fun k o hk ho => by
          refine hg.block k (Array.getElem?_eq_some_iff.1 hk).1 fun e => ?_
          obtain ⟨hB, o', ho', hc⟩ := hr k e.symm
          rw [hk] at ho'
          cases ho'
          rcases ho with ho | ho
          · rw [hc] at ho; cases ho
          · omega
        obtain ⟨es, c, hMap⟩ := h1.map
        refine ⟨h1.keep (.of_block fun k c t hk _ => hrw k _ hk (.inl rfl)) (hrw _ _ h1.1 (.inl rfl)) (hrw _ _ hMap (.inr (by omega))), Nat.le_trans h2.1 hg.size, fun k hk hne => ?_, hg.os.trans h2.2.2.1, hg.tape.trans h2.2.2.2.1, hg.output.trans h2.2.2.2.2⟩
        have hkW : k < W.heap.size := Nat.lt_of_lt_of_le hk h2.1
        exact (hrw k _ (Array.getElem?_eq_getElem hkW) (.inr hk)).trans (h2.2.1 k hk hne)
      case h0 =>
        refine ⟨?_, Nat.le_refl _, fun _ _ _ => rfl, rfl, rfl, rfl⟩
        exact (hA2.mono (by simp)).congr fun k _ => by simp [got]
      case assign =>
        intro l x W K hK
        gi_wp2
        exact hK
      case body =>
        rintro l pre x W ⟨h1, h2⟩ hlen
        have hbx : W.cell? ⟨w.heap.size + 1 + 1, 0, none⟩ = some (.pointer (some ⟨w.heap.size + 1, 0, none⟩)) := by
          have := (h2.2.1 (w.heap.size + 2) (by omega) (by omega)).trans hB2
          unfold World.cell?
          simp only [this]
          rfl
        have hbig : BigIs W x.1.2 (F s x.1.1) := by
          obtain ⟨es, c, hMap⟩ := hA2.map
          exact (hH2.ent x).keep (h2.ints hMap)
        have hk4 := x.2.1
        have hbd : -4611686018427387904 < (sumTo F s x.1.1 + got (F s) pre x.1.1) + F s x.1.1 ∧ (sumTo F s x.1.1 + got (F s) pre x.1.1) + F s x.1.1 < 4611686018427387904 := by
          have b1 := sumTo_bound F x.1.1 4503599627370496 s fun i hi => hF i (by omega) _ hk4
          have b2 := got_bound (F s) x.1.1 4503599627370496 (hF s hs8 _ hk4) (by omega) pre (by omega)
          have b3 := hF s hs8 _ hk4
          omega
        have hadd := stAdd (w.heap.size + 1) w.heap.size (8 * s + pre.length) x.1.2 x.1.1 (fun k => sumTo F s k + got (F s) pre k) (F s x.1.1) W h1 (by simp [maxLen]; omega) hk4 hbig hbd
        clear hbd
        gi_wp2_with (refine ⟨trivial, ?_⟩; gi_at_call 5; refine (CallsIn.inRound l (callsIn_wide.2 hadd)).mono ?_; rintro e W' ⟨rfl, hb', hst'⟩)
        refine ⟨⟨hb'.1, fun k o hk ho _ => (hb'.2.1 k (Array.getElem?_eq_some_iff.1 ho).1 (by omega)).trans ho⟩, ⟨hb'.1, fun k o hk ho _ => (hb'.2.1 k (Array.getElem?_eq_some_iff.1 ho).1 hk).trans ho⟩, ?_, h2.trans hb'⟩
        refine (hst'.mono (by simp; omega)).congr fun j hj => ?_
        rw [got_snoc]
        unfold upd
        by_cases hjk : j = x.1.1
        · subst hjk
          rw [if_pos rfl, if_pos rfl]
          omega
        · rw [if_neg hjk, if_neg (fun e => hjk e.symm)]
          dsimp only
          omega
      case done =>
        rintro D xs W hD hall ⟨h1, h2⟩ hKD
        dsimp only
        go_wp2_with fail
        have hl4 : xs.length ≤ 4 := by
          have := nodup4 hall.1 (fun j hj => by obtain ⟨y, _, rfl⟩ := List.mem_map.1 hj; exact (show Ent D0 from y).2.1)
          simpa using this
        have lW1 : w.heap.size + 3 ≤ w1.heap.size := Nat.le_trans lA hsz1
        have eW : ∀ k o, w1.heap[k]? = some o → k ≠ w.heap.size → W.heap[k]? = some o := fun k o hk hne => by
          have lk := (Array.getElem?_eq_some_iff.1 hk).1
          exact (h2.2.1 k (by omega) hne).trans ((f2 k lk).trans hk)
        obtain ⟨es1, c1, hMap1⟩ := hA1.map
        refine Handed.intro (k - 1) (by omega) (hJ _ _ _ ⟨s + 1, av', { target := .collected D, args := #[] } :: ds, _, _, _, _, _, _, _, _, _, _, _, _, by omega, ⟨?_, eW _ _ hmd1 (by omega), ?_, ⟨?_, fun k hk hkm => ?_, ?_, ?_, ?_⟩, eW _ _ hB1 (by omega), ?_⟩, rfl⟩)
        · refine (h1.mono (by omega)).congr fun j hj => ?_
          rw [got_all _ _ _ hall.1]
          simp only [sumTo]
          by_cases hj' : j ∈ xs.map (fun x => x.1.1)
          · rw [if_pos hj']
          · rw [if_neg hj']
            rcases hH2.1 j hj with ⟨h0, _⟩ | ⟨_, hh, _⟩
            · rw [h0]
            · exact absurd ((hall.2 j hj).2 hh) hj'
        · rcases hrow1 with ⟨hl, hr⟩
          refine ⟨hl, hr.imp id fun ⟨g, cap, cur, r1, r2, r3, r4⟩ => ⟨g, cap, cur, r1, r2, eW _ _ r3 ?_, r4⟩⟩
          rintro rfl
          rw [r3] at hMap1
          cases hMap1
        · exact Nat.le_trans (by omega) h2.1
        · exact (h2.2.1 k (by omega) (by omega)).trans ((f2 k (by omega)).trans (hw1.2.1 k hk hkm))
        · exact h2.2.2.1.trans (t2.1.trans hw1.2.2.1)
        · exact h2.2.2.2.1.trans (t2.2.1.trans hw1.2.2.2.1)
        · exact h2.2.2.2.2.trans (t2.2.2.trans hw1.2.2.2.2)
        · refine ⟨⟨D, by omega, rfl, hKD, fun d' hd' hD' => ?_⟩, hmk1.keep fun D' hD' => eW D' _ hD' ?_⟩
          · have := hmk1.lt d' hd' D hD'
            omega
          · rintro rfl
            rw [hD'] at hMap1
            cases hMap1
      case stop =>
        rintro D c pre W _ _ h _
        exact h.elim
    · obtain rfl : s = n := by omega
      have hd : decide ((s : Int) < s) = false := by simp
      have hbx : wr.cell? ⟨w.heap.size + 1 + 1, 0, none⟩ = some (.pointer (some ⟨w.heap.size + 1, 0, none⟩)) := by
        have := hI.bx
        unfold World.cell?
        simp only [this]
        rfl
      go_wp2_with fail
      refine leaves_marks ds wr hI.mks fun w' hsh => ?_
      have eS : ∀ (k : Nat) (o : Obj), wr.heap[k]? = some o → (∀ x, o ≠ Obj.deferred x) → w'.heap[k]? = some o := fun k o hk ho => (hsh.2.1 k (.inr fun x hx => ho x (by rw [hk] at hx; cases hx; rfl))).trans hk
      obtain ⟨es, c, hMap⟩ := hI.st.map
      have kI : KeepsInts wr w' := fun k c t hk _ => eS k _ hk (fun x e => by cases e)
      refine ⟨_, results_tmp rfl _ _ _, w.heap.size + 1, w.heap.size, av, rfl, (hI.st.keep kI ((eS _ _ hI.st.1 (fun x e => by cases e)).trans hI.st.1.symm) ((eS _ _ hMap (fun x e => by cases e)).trans hMap.symm)).mono (by omega), eS _ _ hI.md (fun x e => by cases e), ?_, by omega, by omega, ?_⟩
      · rcases hI.row with ⟨hl, hr⟩
        exact ⟨hl, hr.imp id fun ⟨g, cap, cur, r1, r2, r3, r4⟩ => ⟨g, cap, cur, r1, r2, eS _ _ r3 (fun x e => by cases e), r4⟩⟩
      · exact ⟨by rw [hsh.1]; exact hI.fr.1, fun k hk hkm => (hsh.2.1 k (.inl hk)).trans (hI.fr.2.1 k hk hkm), hsh.2.2.1.trans hI.fr.2.2.1, hsh.2.2.2.1.trans hI.fr.2.2.2.1, hsh.2.2.2.2.trans hI.fr.2.2.2.2⟩
end Go.Proofs.Ybulkduza
