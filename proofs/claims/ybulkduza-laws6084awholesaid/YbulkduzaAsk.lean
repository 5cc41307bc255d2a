/-
  The mode's committedState: what is asked is noted; the shard's State.
-/
import Derived.Test.YbulkduzaIs
import Derived.Deep.RegionLaw
import Derived.Maps.AppendAt
import Derived.RangeFuncBox
import Derived.BigQuiet
namespace Go.Proofs.Ybulkduza
open Go.RowKit

/-- append onto a row of the call's own, as one step of a region that draws. -/
theorem step_append_own {P : Program} {ops : Array Oper} {o : Oper} {a : Act} {w : World} {K : Act → World → Prop} {Q : Exit → Act → World → Prop} {E : Prop}
    (hg : o.guard = none) (s x : Operand) (t : TypeId) (hop : o.op = Op.call { callee := Callee.builtin Builtin.append, args := #[s, x], argTypes := #[t, t] })
    (base : Nat) (e : TypeId) (i : TypeInfo) (z : Value) (size bytes : Nat) (h1 : P.underlying t = some (.slice e)) (h2 : P.info? e = some i) (h3 : i.zero = some z) (h4 : i.size = size) (h5 : i.bytes = bytes) (h6 : z.cells.size = size) (h7 : 0 < size)
    (v : Value) (n : Nat) (xs : List Value) (hs : a.eval s = v) (hown : w.ownsRow base e size v n xs)
    (ad : Addr) (m c : Nat) (news : List Value) (hx : a.eval x = .slice (some ad) m c) (hn : news.length = m * size) (hc : ∀ j u, news[j]? = some u → w.cell? (ad.add j) = some u) (h1c : ∀ u ∈ news, u.oneCell' = true)
    (b1 : n + m ≤ maxLen) (b2 : (n + m) * bytes ≤ 140737488355328) (hbase : base ≤ w.heap.size)
    (hK : ∀ v' w', w'.ownsRow base e size v' (n + m) (xs ++ news) → w.grownBy w' v.ownBlock → (v'.ownBlock = v.ownBlock ∨ v'.ownBlock = some w.heap.size) → K (a.put o.dst v') w') :
    if Region.wanted o (yielded ops a.tmps) = true then Oper.wp P o a w K Q else E := by
  have hw : Region.wanted o (yielded ops a.tmps) = true := by simp [Region.wanted, hg]
  rw [if_pos hw]
  obtain ⟨v', w', hrun, r1, r2, _, r4⟩ := run_append_own_at (P := P) w base t o.type e i z size bytes h1 h2 h3 h4 h5 h6 h7 v n xs hown ad m c news hn hc h1c b1 b2 hbase
  unfold Oper.wp
  simp [execOp, hop, resolve, invoke, builtin, hs, hx, hrun, Result.andThen]
  exact hK v' w' r1 r2 r4

theorem info69 : (Yba.prog.info? 69).map (fun i => (i.zero, i.size, i.bytes)) = some (some (.agg #[.int .i64 0, .int .i64 0]), 2, 16) := by kernel_rfl

theorem cells_new2 (W : World) (a b : Value) (t : TypeId) (S : Nat) (hS : S = W.heap.size) : ∀ (j : Nat) (u : Value), [a, b][j]? = some u → (W.alloc (.cells #[a, b] t)).cell? ((⟨S, 0, none⟩ : Addr).add j) = some u := by
  intro j u h
  match j, h with
  | 0, h => cases h; exact cell_new _ _ _ _ _ _ hS rfl
  | 1, h => cases h; exact cell_new _ _ _ _ _ _ hS rfl
theorem own_ne {w : World} {base e size n k : Nat} {v : Value} {xs : List Value} (h : w.ownsRow base e size v n xs) (hk : k < base) : some k ≠ v.ownBlock := by
  rcases h.2 with ⟨rfl, _⟩ | ⟨g, cap, cur, rfl, hb, _⟩
  · simp [Value.ownBlock]
  · simp [Value.ownBlock]; omega
theorem own_ne' {w : World} {base e size n k : Nat} {v : Value} {xs : List Value} (h : w.ownsRow base e size v n xs) (hk : w.heap.size ≤ k) : some k ≠ v.ownBlock := by
  rcases h.2 with ⟨rfl, _⟩ | ⟨g, cap, cur, rfl, hb, hg, _⟩
  · simp [Value.ownBlock]
  · have := (Array.getElem?_eq_some_iff.1 hg).1
    simp [Value.ownBlock]; omega

set_option maxRecDepth 100000 in
set_option maxHeartbeats 2000000 in
theorem committed (mb sb sc s S base : Nat) (av : Value) (xs : List Value) (w : World) (hs : s < 8) (hm : w.heap[mb]? = some (.cells #[.slice (some ⟨sb, 0, none⟩) 8 sc, av] 29 (0, 0))) (hcell : w.cell? ⟨sb, s, none⟩ = some (.pointer (some ⟨S, 0, none⟩)))
    (hrow : w.ownsRow base 69 2 av s xs) (hbase : base ≤ w.heap.size) (hmb : mb < base) (hsb : sb < base) (hne : sb ≠ mb) :
    Calls Yba.prog 53 #[.pointer (some ⟨mb, 0, none⟩), .agg #[.int .i64 s, .int .i64 0]] w fun e w' => e = .returned (.pointer (some ⟨S, 0, none⟩)) ∧ ∃ av', w'.heap[mb]? = some (.cells #[.slice (some ⟨sb, 0, none⟩) 8 sc, av'] 29 (0, 0)) ∧ w'.ownsRow base 69 2 av' (s + 1) (xs ++ [.int .i64 s, .int .i64 0]) ∧
      (w.heap.size ≤ w'.heap.size ∧ (∀ k, k < w.heap.size → k ≠ mb → some k ≠ av.ownBlock → w'.heap[k]? = w.heap[k]?) ∧ w'.os = w.os ∧ w'.tape = w.tape ∧ w'.output = w.output) := by
  obtain ⟨i0, hi, hz0, hz1, hz2⟩ := info_parts info69
  have c0 : w.cell? ⟨mb, 0, none⟩ = some (.slice (some ⟨sb, 0, none⟩) 8 sc) := by unfold World.cell?; simp only [hm]; rfl
  have c1 : w.cell? ⟨mb, 1, none⟩ = some av := by unfold World.cell?; simp only [hm]; rfl
  have lm : mb < w.heap.size := by omega
  obtain ⟨W1, hW1⟩ : ∃ W1, w.alloc (.cells #[.int .i64 s, .int .i64 0] 69) = W1 := ⟨_, rfl⟩
  have hrow1 : W1.ownsRow base 69 2 av s xs := hW1 ▸ hrow.alloc _
  have sz1 : W1.heap.size = w.heap.size + 1 := by rw [← hW1]; simp
  have f1 : ∀ k, k < w.heap.size → W1.heap[k]? = w.heap[k]? := fun k hk => by rw [← hW1]; exact Below.heap_alloc _ _ _ hk
  have n1 : W1.heap[w.heap.size]? = some (.cells #[.int .i64 s, .int .i64 0] 69 (0, 0)) := by rw [← hW1]; exact heap_alloc_new _ _
  have t1 : W1.os = w.os ∧ W1.tape = w.tape ∧ W1.output = w.output := by rw [← hW1]; exact ⟨rfl, rfl, rfl⟩
  have d0 : W1.cell? ⟨mb, 0, none⟩ = some (.slice (some ⟨sb, 0, none⟩) 8 sc) := (World.cell?_of_block (w := w) (f1 mb lm)).trans c0
  have d1 : W1.cell? ⟨mb, 1, none⟩ = some av := (World.cell?_of_block (w := w) (f1 mb lm)).trans c1
  have i0' : W1.cell? ⟨w.heap.size, 0, none⟩ = some (.int .i64 s) := by unfold World.cell?; simp only [n1]; rfl
  have i1' : W1.cell? ⟨w.heap.size, 1, none⟩ = some (.int .i64 0) := by unfold World.cell?; simp only [n1]; rfl
  have hmW : W1.heap[mb]? = some (.cells #[.slice (some ⟨sb, 0, none⟩) 8 sc, av] 29 (0, 0)) := (f1 mb lm).trans hm
  have d1' : (W1.alloc (.cells #[.int .i64 s, .int .i64 0] 69)).cell? ⟨mb, 1, none⟩ = some av := cell_old _ _ _ d1
  have nm := own_ne hrow hmb
  have ns := own_ne hrow hsb
  have ni := own_ne' hrow (Nat.le_refl _)
  go_enter Yba.func53, Yba.ntmps53
  go_upto_region 1 with fail
  go_region_law (refine step_append_own rfl (.tmp 9) (.tmp 11) 27 rfl base 69 i0 (.agg #[.int .i64 0, .int .i64 0]) 2 16 Yba.underlying27 hi hz0 hz1 hz2 rfl (by decide) av s xs (by simp [Act.eval]) (hrow1.alloc _) ⟨w.heap.size + 1, 0, none⟩ 1 1 [.int .i64 s, .int .i64 0] (by simp [Act.eval]) rfl (cells_new2 _ _ _ _ _ sz1.symm) (by simp [Value.oneCell']) (by simp [maxLen]; omega) (by omega) (by simp; omega) ?_; intro v3 w3 ho3 hg3 hb3; obtain ⟨g3, cap3, rfl⟩ := ownsRow_succ ho3; have k3 : ∀ k, k < W1.heap.size → some k ≠ av.ownBlock → w3.heap[k]? = W1.heap[k]? := fun k hk hne => (hg3.block k (by simp; omega) hne).trans (Below.heap_alloc _ _ _ hk); have z0 : w3.cell? ⟨mb, 1, none⟩ = some av := (World.cell?_of_block (w := W1) (k3 mb (by omega) nm)).trans d1; have z1 : w3.frozen? ⟨mb, 1, none⟩ = false := (World.frozen?_of_block (w := W1) (k3 mb (by omega) nm)).trans (by unfold World.frozen?; simp only [hmW]; rfl))
  all_goals
    have hm3 : w3.heap[mb]? = some (.cells #[.slice (some ⟨sb, 0, none⟩) 8 sc, av] 29 (0, 0)) := (k3 mb (by omega) nm).trans hmW
    have hm4 := heap_setCell_same w3 mb 1 _ 29 (.slice (some ⟨g3, 0, none⟩) (s + 1) cap3) hm3
    obtain ⟨W4, hW4⟩ : ∃ W4, w3.setCell ⟨mb, 1, none⟩ (.slice (some ⟨g3, 0, none⟩) (s + 1) cap3) = W4 := ⟨_, rfl⟩
    have f4 : ∀ k, k ≠ mb → W4.heap[k]? = w3.heap[k]? := fun k hk => by rw [← hW4]; exact Below.heap_setCell _ _ _ _ hk
    have ho4 : W4.ownsRow base 69 2 (.slice (some ⟨g3, 0, none⟩) (s + 1) cap3) (s + 1) (xs ++ [.int .i64 s, .int .i64 0]) := by
      rcases ho3 with ⟨hl, ⟨hc, _⟩ | ⟨g, cap, cur, hv, hb, hg, r⟩⟩
      · cases hc
      · cases hv
        exact ⟨hl, .inr ⟨_, _, cur, rfl, hb, (f4 g3 (by omega)).trans hg, r⟩⟩
    have fr4 : w.heap.size ≤ W4.heap.size ∧ (∀ k, k < w.heap.size → k ≠ mb → some k ≠ av.ownBlock → W4.heap[k]? = w.heap[k]?) ∧ W4.os = w.os ∧ W4.tape = w.tape ∧ W4.output = w.output := by
      refine ⟨?_, fun k hk hkm hko => ((f4 k hkm).trans (k3 k (by omega) hko)).trans (f1 k hk), ?_, ?_, ?_⟩
      · have := hg3.size
        rw [← hW4]
        simp at this ⊢
        omega
      · rw [← hW4]; exact hg3.os.trans t1.1
      · rw [← hW4]; exact hg3.tape.trans t1.2.1
      · rw [← hW4]; exact hg3.output.trans t1.2.2
    rw [hW4] at hm4 ⊢
    have e0 : W4.cell? ⟨mb, 0, none⟩ = some (.slice (some ⟨sb, 0, none⟩) 8 sc) := by unfold World.cell?; simp only [hm4]; rfl
    have ei : W4.cell? ⟨w.heap.size, 0, none⟩ = some (.int .i64 s) := (World.cell?_of_block (w := W1) ((f4 w.heap.size (by omega)).trans (k3 w.heap.size (by omega) ni))).trans i0'
    have es : W4.cell? ⟨sb, s, none⟩ = some (.pointer (some ⟨S, 0, none⟩)) := (World.cell?_of_block (w := w) (fr4.2.1 sb (by omega) hne ns)).trans hcell
    clear hg3 k3 ho3 z0 z1 hm3 hW4 f4 hb3 hW1 f1 n1 t1 d0 d1 d1' i0' i1' hmW hrow1 hi hz0 hz1 hz2 hm hcell c0 c1 sz1
    have g1 : decide (0 ≤ (s : Int)) = true := by simp
    have g2 : decide ((s : Int) < 8) = true := by simp; omega
    go_wp2_with fail
    go_quiet (fail)
    go_wp2_with fail
    go_quiet (fail)
    go_wp2_with fail
    go_ret
    exact ⟨rfl, _, hm4, ho4, fr4⟩
end Go.Proofs.Ybulkduza
