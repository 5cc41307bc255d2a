/-
  The law.
-/
import Derived.Test.YbulkduzaInv3
import Derived.Deep.DeepCutAuto
import Derived.Deep.CutRange
import Derived.Deep.CutBlock
import Derived.Deep.LoopGhost
import Derived.Deep.RegionHeld3
namespace Go.Proofs.Ybulkduza
open Go.RowKit Go.Maps Go.Sort Go.Shelf
attribute [local go_sem] Oper.semAt_some

/-- What the law's body must achieve; no panic. -/
def postM (fn : Func) (R : Ending → World → Prop) : Exit → Act → World → Prop
  | .normal, a, w | .ret, a, w => LeavesInM Fence.wide 6 Yba.prog fn a.tmps R a.defers .returning w
  | .outgrown, _, w => R .outgrown w
  | _, _, _ => False
theorem calls_of_wp_post {f : FuncId} {fn : Func} {c : Code} {args : Array Value} {w : World} {R : Ending → World → Prop}
    (hf : Yba.prog.funcs[f]? = some fn) (hb : fn.body = some c)
    (h : c.wp Yba.prog (postM fn R) { tmps := args ++ Array.replicate (fn.ntmps - args.size) undef, defers := [] } w) : Calls Yba.prog f args w R :=
  calls_of_wp_marks 6 hf hb (wp_mono h fun e _ _ hq => by
    cases e with
    | normal => exact hq
    | ret => exact hq
    | outgrown => exact hq
    | exit _ => exact hq
    | goto _ => exact hq
    | panic _ => exact hq.elim)
theorem frozen_cells {w : World} {b i : Nat} {c : Array Value} {t : TypeId} (h : w.heap[b]? = some (.cells c t (0, 0))) : w.frozen? ⟨b, i, none⟩ = false := by
  unfold World.frozen?; simp only [h]; rfl

theorem info30 : (Yba.prog.info? 30).map (fun i => (i.zero, i.size, i.bytes)) = some (some (.pointer none), 1, 8) := by kernel_rfl
theorem cells_new1 (W : World) (a : Value) (t : TypeId) (S : Nat) (hS : S = W.heap.size) : ∀ (j : Nat) (u : Value), [a][j]? = some u → (W.alloc (.cells #[a] t)).cell? ((⟨S, 0, none⟩ : Addr).add j) = some u := by
  intro j u h
  match j, h with
  | 0, h => cases h; exact cell_new _ _ _ _ _ _ hS rfl

theorem But.cell {w w' : World} {M : Nat} (h : But M w w') {es : Array _} {c : _} (hm : w.heap[M]? = some (.map es c)) {b i : Nat} {v : Value} (hc : w.cell? ⟨b, i, none⟩ = some v) : w'.cell? ⟨b, i, none⟩ = some v := by
  refine (World.cell?_of_block (w := w) (h.2.1 b (World.block_lt_of_cell? w _ hc) ?_)).trans hc
  rintro rfl
  unfold World.cell? at hc
  simp only [hm] at hc
  cases hc
theorem But.blk {w w' : World} {M : Nat} (h : But M w w') {es : Array _} {c : _} (hm : w.heap[M]? = some (.map es c)) {b : Nat} {d : Array Value} {t : TypeId} {r : Nat × Nat} (hc : w.heap[b]? = some (.cells d t r)) : w'.heap[b]? = some (.cells d t r) := by
  refine (h.2.1 b (Array.getElem?_eq_some_iff.1 hc).1 ?_).trans hc
  rintro rfl
  rw [hm] at hc
  cases hc
theorem bel_cell {w w' : World} (h : Below w.heap.size w w') {b i : Nat} {v : Value} (hc : w.cell? ⟨b, i, none⟩ = some v) : w'.cell? ⟨b, i, none⟩ = some v :=
  (World.cell?_of_block (w := w) (h.block b (World.block_lt_of_cell? w _ hc))).trans hc
theorem wrap_mid (z : Int) (h0 : -4611686018427387904 < z) (h1 : z < 4611686018427387904) : IntKind.i64.wrap z = z := by
  go_arith
theorem wrap_mid' (z : Int) (h0 : -4611686018427387904 < z) (h1 : z < 4611686018427387904) : wrap64 z = z := by
  go_arith
def Bd (P : Nat → Nat → Int) (j : Nat) : Prop := ∀ s, s < 8 → ∀ k, k < 4 → -((j : Int) * 2147483648) ≤ P s k ∧ P s k ≤ (j : Int) * 2147483648

theorem nz_le (f : Nat → Int) : ∀ m, nz f m ≤ m
  | 0 => Nat.le_refl _
  | m + 1 => by have := nz_le f m; simp only [nz]; split <;> omega
theorem Bd.step {P : Nat → Nat → Int} {j s q : Nat} {z : Int} (h : Bd P j) (hs : s < 8) (hq : q < 4) (h0 : -2147483648 ≤ z) (h1 : z < 2147483648) : Bd (fun s' => if s' = s then upd (P s) q (P s q + z) else P s') (j + 1) := by
  intro s' hs' k hk
  have h2 := h s' hs' k hk
  have h3 := h s hs q hq
  have e : ((j + 1 : Nat) : Int) * 2147483648 = (j : Int) * 2147483648 + 2147483648 := by omega
  rw [e]
  dsimp only
  by_cases hss : s' = s
  · rw [if_pos hss]
    unfold upd
    subst hss
    split <;> omega
  · rw [if_neg hss]
    omega

set_option maxRecDepth 100000 in
set_option maxHeartbeats 40000000 in
theorem law_main (sh : Int) (a : Option Addr) (len cap : Nat) (X Y Z : Nat → Int) (w : World) (hsh : 0 ≤ sh ∧ sh < 256) (hlen : len ≤ 1048576)
    (hc : ∀ i, i < len → ∃ b off, a = some ⟨b, off, none⟩ ∧ w.cell? ⟨b, off + i * 3, none⟩ = some (.int .u8 (X i)) ∧ w.cell? ⟨b, off + i * 3 + 1, none⟩ = some (.int .u8 (Y i)) ∧ w.cell? ⟨b, off + i * 3 + 2, none⟩ = some (.int .i32 (Z i)) ∧ 0 ≤ X i ∧ 0 ≤ Y i ∧ -2147483648 ≤ Z i ∧ Z i < 2147483648) :
    Calls Yba.prog 3 #[.int .u8 sh, .slice a len cap] w fun e w' => e = .returned (.bool true) ∧ Below w.heap.size w w' := by
  have hl : decide ((len : Int) > 1048576) = false := by simp; omega
  have hl2 : decide ((1048576 : Int) < len) = false := by simp; omega
  obtain ⟨n, hn⟩ : ∃ n : Nat, sh % 8 = n := ⟨(sh % 8).toNat, by omega⟩
  have hn8 : n < 8 := by omega
  obtain ⟨i0, hi, hz0, hz1, hz2⟩ := info_parts info30
  have hst0 : L1 w 0 ((w.alloc (.cells (Array.replicate 32 (.int .i64 0)) 24)).alloc (.cells #[.slice none 0 0, .slice none 0 0] 29)) (.slice none 0 0) id id := by
    refine ⟨?_, World.ownsRow_nil _ _ _ _, ?_, fun i hi => by omega, fun i k hi => by omega, fun i hi => by omega, ((Below.refl _ _).alloc (Nat.le_refl _) _).alloc (by simp) _⟩
    · have := heap_alloc_new (w.alloc (.cells (Array.replicate 32 (.int .i64 0)) 24)) (.cells #[.slice none 0 0, .slice none 0 0] 29)
      rwa [World.size_alloc] at this
    · exact (Below.heap_alloc _ _ _ (by simp)).trans (heap_alloc_new _ _)
  simp only [Array.replicate_succ, Array.replicate_zero, List.push_toArray, List.nil_append, List.cons_append] at hst0
  refine calls_of_wp_post Yba.func3 rfl ?_
  simp only [Yba.ntmps3, List.size_toArray, List.length_cons, List.length_nil, Nat.reduceAdd, Nat.reduceSub, Array.replicate_succ, Array.replicate_zero, List.push_toArray, List.append_toArray, List.nil_append, List.cons_append]
  go_upto_block 0 with fail
  simp only [hn]
  clear hn hsh hl hl2
  obtain ⟨W0, hW0⟩ : ∃ W0, W0 = ((w.alloc (.cells (Array.replicate 32 (.int .i64 0)) 24)).alloc (.cells #[.slice none 0 0, .slice none 0 0] 29)) := ⟨_, rfl⟩
  simp only [Array.replicate_succ, Array.replicate_zero, List.push_toArray, List.nil_append, List.cons_append] at hW0
  rw [← hW0] at hst0 ⊢
  clear hW0
  go_cut [8] from 31 to 44 (fun _ wc => ∃ sb sc SS MM, L2 w sb sc SS MM 0 (fun _ _ => 0) wc)
  case first =>
    go_wp2_with fail
    go_loopg [8] 8 (fun k i wr => ∃ (j : Nat) (sv : Value) (SS MM : Nat → Nat), k + j = 8 ∧ i = .int .i64 j ∧ L1 w j wr sv SS MM)
    case atStart => exact ⟨0, _, _, _, rfl, rfl, hst0⟩
    case round =>
      obtain ⟨j, sv, SS, MM, hkj, rfl, hI⟩ := hrel
      have d0 : wr.cell? ⟨w.heap.size + 1, 0, none⟩ = some sv := by unfold World.cell?; simp only [hI.md]; rfl
      have d1 : ((wr.alloc (.map #[] 0)).alloc (.cells #[.map (some wr.heap.size)] 78)).cell? ⟨w.heap.size + 1, 0, none⟩ = some sv := cell_old _ _ _ (cell_old _ _ _ d0)
      have d2 : (((wr.alloc (.map #[] 0)).alloc (.cells #[.map (some wr.heap.size)] 78)).alloc (.cells #[.pointer (some ⟨wr.heap.size + 1, 0, none⟩)] 30)).cell? ⟨w.heap.size + 1, 0, none⟩ = some sv := cell_old _ _ _ d1
      have lm : w.heap.size + 1 < wr.heap.size := (Array.getElem?_eq_some_iff.1 hI.md).1
      have md2 : (((wr.alloc (.map #[] 0)).alloc (.cells #[.map (some wr.heap.size)] 78)).alloc (.cells #[.pointer (some ⟨wr.heap.size + 1, 0, none⟩)] 30)).heap[w.heap.size + 1]? = some (.cells #[sv, .slice none 0 0] 29 (0, 0)) :=
        (((Below.heap_alloc _ _ _ (by simp; omega)).trans (Below.heap_alloc _ _ _ (by simp; omega))).trans (Below.heap_alloc _ _ _ lm)).trans hI.md
      have nm : some (w.heap.size + 1) ≠ sv.ownBlock := own_ne hI.row (by omega)
      by_cases hj : j < 8
      · have hd : decide ((j : Int) < 8) = true := by simp; omega
        go_upto_region 9 with fail
        go_region_law (first
          | (refine step_append_own rfl (.tmp 39) (.tmp 41) 26 rfl (w.heap.size + 2) 30 i0 (.pointer none) 1 8 Yba.underlying26 hi hz0 hz1 hz2 rfl (by decide) sv j (sl SS j) (by simp [Act.eval]) (((hI.row.alloc _).alloc _).alloc _) ⟨wr.heap.size + 1 + 1, 0, none⟩ 1 1 [.pointer (some ⟨wr.heap.size + 1, 0, none⟩)] (by simp [Act.eval]) rfl (cells_new1 _ _ _ _ (by simp)) (by simp [Value.oneCell']) (by simp [maxLen]; omega) (by omega) (by simp; omega) ?_; intro v3 w3 ho3 hg3 hb3; obtain ⟨g3, cap3, rfl⟩ := ownsRow_succ ho3; have hst := hI.step ho3 ⟨hg3.os, hg3.tape, hg3.output, hg3.size, hg3.block⟩; have z0 : w3.cell? ⟨w.heap.size + 1, 0, none⟩ = some sv := (World.cell?_of_block (hg3.block (w.heap.size + 1) (by simp; omega) nm)).trans d2; have z1 : w3.frozen? ⟨w.heap.size + 1, 0, none⟩ = false := frozen_cells ((hg3.block (w.heap.size + 1) (by simp; omega) nm).trans md2))
          | (go_simp; go_at_call 4; refine (newState _).mono ?_; rintro e w1 ⟨rfl, rfl⟩))
        all_goals
          clear ho3 hg3 hb3 z0 z1
          go_wp2_with fail
          go_roundg (gk - 1)
          case rel => exact ⟨j + 1, _, _, _, by omega, by simp, hst⟩
          case measure => omega
      · obtain rfl : j = 8 := by omega
        go_wp2_with fail
        go_meet
        case rel => obtain ⟨sb, sc, h⟩ := hI.done; exact ⟨sb, sc, _, _, h⟩
  case rest =>
    clear hst0 W0
    obtain ⟨sb, sc, SS, MM, hI2⟩ := hcut
    clear i0 hi hz0 hz1 hz2
    go_upto_block 2 with fail
    go_cut [10, 11, 12] from 47 to 84 (fun _ _ _ wc => ∃ P, L2 w sb sc SS MM len P wc ∧ Bd P len)
    case first =>
      go_wp2_with fail
      go_loopg [47] len (fun k i wr => ∃ (j : Nat) (P : Nat → Nat → Int), k + j = len ∧ i = .int .i64 j ∧ L2 w sb sc SS MM j P wr ∧ Bd P j)
      case atStart => exact ⟨0, _, by omega, rfl, hI2, fun s _ k _ => by simp⟩
      case round =>
        obtain ⟨j, P, hkj, rfl, hI, hB⟩ := hrel
        by_cases hj : j < len
        · obtain ⟨b, off, rfl, x0, x1, x2, hX, hY, hZ0, hZ1⟩ := hc j hj
          have lb : b < w.heap.size := World.block_lt_of_cell? w _ x0
          have y0 : wr.cell? ⟨b, off + j * 3, none⟩ = some (.int .u8 (X j)) := (World.cell?_of_block (w := w) (hI.fr.block b lb)).trans x0
          have y1 : wr.cell? ⟨b, off + j * 3 + 1, none⟩ = some (.int .u8 (Y j)) := (World.cell?_of_block (w := w) (hI.fr.block b lb)).trans x1
          have y2 : wr.cell? ⟨b, off + j * 3 + 2, none⟩ = some (.int .i32 (Z j)) := (World.cell?_of_block (w := w) (hI.fr.block b lb)).trans x2
          obtain ⟨s, hs⟩ : ∃ s : Nat, X j % 8 = s := ⟨(X j % 8).toNat, by omega⟩
          obtain ⟨q, hq⟩ : ∃ q : Nat, Y j % 4 = q := ⟨(Y j % 4).toNat, by omega⟩
          have hd : decide ((j : Int) < len) = true := by simp; omega
          clear hc x0 x1 x2
          have hs8 : s < 8 := by omega
          have hq4 : q < 4 := by omega
          have hsI : (s : Int) < 8 := by omega
          have hqI : (q : Int) < 4 := by omega
          have n2 := heap_alloc_new wr (.cells #[.int .u8 (X j), .int .u8 (Y j), .int .i32 (Z j)] 33)
          have hIe := hI.bel ((Below.refl _ wr).alloc (Nat.le_refl _) (.cells #[.int .u8 (X j), .int .u8 (Y j), .int .i32 (Z j)] 33))
          go_upto_region 15 with fail
          simp only [hs, hq]
          clear hs hq hX hY y0 y1 y2
          obtain ⟨We, hWe⟩ : ∃ We, wr.alloc (.cells #[.int .u8 (X j), .int .u8 (Y j), .int .i32 (Z j)] 33) = We := ⟨_, rfl⟩
          rw [hWe] at n2 hIe ⊢
          clear hWe
          obtain ⟨cr, hcr, hcr'⟩ := hIe.stt
          have e0 : We.cell? ⟨w.heap.size + 1, 0, none⟩ = some (.slice (some ⟨sb, 0, none⟩) 8 sc) := by unfold World.cell?; simp only [hIe.md]; rfl
          have e1 : We.cell? ⟨sb, s, none⟩ = some (.pointer (some ⟨SS s, 0, none⟩)) := by unfold World.cell?; simp only [hcr]; simpa using hcr' s hs8
          have e2 : We.cell? ⟨wr.heap.size, 2, none⟩ = some (.int .i32 (Z j)) := by unfold World.cell?; simp only [n2]; rfl
          have hwz : IntKind.i64.wrap (Z j) = Z j := wrap_mid _ (by omega) (by omega)
          have hbd : -4611686018427387904 < P s q + Z j ∧ P s q + Z j < 4611686018427387904 := by have := hB s hs8 q hq4; omega
          go_cut [] from 59 to 72 (fun wx => ∃ W1, L2 w sb sc SS MM j P W1 ∧ But (MM s) W1 wx ∧ StateAt wx (SS s) (MM s) (j + 1) (upd (P s) q (P s q + Z j)) ∧ wx.heap[wr.heap.size]? = some (.cells #[.int .u8 (X j), .int .u8 (Y j), .int .i32 (Z j)] 33 (0, 0)))
          case first =>
            have A : Aside (L2 w sb sc SS MM j P We ∧ We.heap[wr.heap.size]? = some (.cells #[.int .u8 (X j), .int .u8 (Y j), .int .i32 (Z j)] 33 (0, 0))) := ⟨hIe, n2⟩
            clear hIe hI hB hcr hcr' n2 hI2 hd lb
            go_region_held3 (fun W => W.cell? ⟨w.heap.size + 1, 0, none⟩ = some (.slice (some ⟨sb, 0, none⟩) 8 sc) ∧ W.cell? ⟨sb, s, none⟩ = some (.pointer (some ⟨SS s, 0, none⟩)) ∧ W.cell? ⟨wr.heap.size, 2, none⟩ = some (.int .i32 (Z j))) (exact ⟨by first | exact g0 | exact f0 | exact e0, by first | exact g1 | exact f1 | exact e1, by first | exact g2 | exact f2 | exact e2⟩) (first
              | (go_at_call 6; refine (key4 q hq4 _).mono ?_; rintro e w' ⟨rfl, hw'⟩; subst hw')
              | (go_at_call 7; refine (newIntIs (Z j) (by omega) (by omega) _).mono ?_; rintro e w1 ⟨Pn, rfl, hPn, hbig, hbel⟩; have hbel' : Below We.heap.size We w1 := ⟨hbel.os, hbel.tape, hbel.output, hbel.size, hbel.block⟩; have f0 := bel_cell hbel' e0; have f1 := bel_cell hbel' e1; have f2 := bel_cell hbel' e2; clear hbel)
              | (go_at_call 5; obtain ⟨es, cm, hmp⟩ := ((A.out.1.bel hbel').sts s hs8).map; refine (stAdd (SS s) (MM s) j Pn q (P s) (Z j) _ ((A.out.1.bel hbel').sts s hs8) (by simp [maxLen]; omega) hq4 hbig hbd).mono ?_; rintro e w2 ⟨rfl, hbut, hst2⟩; have g0 := hbut.cell hmp f0; have g1 := hbut.cell hmp f1; have g2 := hbut.cell hmp f2))
            have hA := A.out
            clear A e0 e1 e2 f0 f1 f2 g0 g1 g2
            go_wp2_with fail
            go_meet
            case rel => exact ⟨w1, hA.1.bel hbel', hbut, hst2, hbut.blk hmp ((hbel'.block _ (Array.getElem?_eq_some_iff.1 hA.2).1).trans hA.2)⟩
          case rest =>
            obtain ⟨W1, hI1, hbut, hst2, hev⟩ := hcut
            obtain ⟨es, cm, hmp⟩ := (hI1.sts s hs8).map
            obtain ⟨d, hd0, hd1, hd2⟩ := hI1.per
            have hstep := hI1.step hs8 hq4 hbut hst2
            have p0 := hbut.blk hmp hd0
            have p1 : wc.cell? ⟨w.heap.size, s * 4 + q, none⟩ = some (.int .i64 (P s q)) := by unfold World.cell?; simp only [p0]; simpa using hd2 s hs8 q hq4
            have p2 : wc.frozen? ⟨w.heap.size, s * 4 + q, none⟩ = false := frozen_cells p0
            have p3 : wc.cell? ⟨wr.heap.size, 2, none⟩ = some (.int .i32 (Z j)) := by unfold World.cell?; simp only [hev]; rfl
            have hws : wrap64 (P s q + Z j) = P s q + Z j := wrap_mid' _ hbd.1 hbd.2
            have hws' : IntKind.i64.wrap (P s q + Z j) = P s q + Z j := wrap_mid _ hbd.1 hbd.2
            have A : Aside (L2 w sb sc SS MM (j + 1) (fun s' => if s' = s then upd (P s) q (P s q + Z j) else P s') (wc.setCell ⟨w.heap.size, s * 4 + q, none⟩ (.int .i64 (P s q + Z j))) ∧ Bd P j) := ⟨hstep, hB⟩
            clear hstep hB hst2 hbut hmp hd0 hd1 hd2 hI1 hIe hI hcr hcr' n2 e0 e1 e2 hev p0
            go_upto_region 16 with fail
            go_region
            have hA := A.out
            clear A p1 p2 p3
            go_wp2_with fail
            go_roundg (gk - 1)
            case rel => exact ⟨j + 1, _, by omega, by simp, hA.1.bel ⟨rfl, rfl, rfl, Nat.le_refl _, fun _ _ => rfl⟩, Bd.step hA.2 hs8 hq4 hZ0 hZ1⟩
            case measure => omega
        · obtain rfl : j = len := by omega
          have hd : decide ((j : Int) < j) = false := by simp
          clear hc
          go_wp2_with fail
          go_meet
          case rel => exact ⟨P, hI, hB⟩
    case rest =>
      obtain ⟨P, hI3, hB3⟩ := hcut
      clear hc hI2
      have hB51 : ∀ i, i < 8 → ∀ k, k < 4 → -4503599627370496 ≤ P i k ∧ P i k ≤ 4503599627370496 := fun i hi k hk => by have := hB3 i hi k hk; omega
      go_upto_region 19 with fail
      obtain ⟨cc, hcc, hc7, hc13⟩ : ∃ cc : Array Value, cc = #[Value.int IntKind.i64 0, Value.int IntKind.u64 0, Value.slice none 0 0, Value.int IntKind.i64 0, Value.slice none 0 0, Value.int IntKind.i64 0, Value.int IntKind.i64 0, Value.int IntKind.i64 n, Value.map none, Value.slice none 0 0, Value.int IntKind.i64 0, Value.int IntKind.i64 0, Value.int IntKind.i64 0, Value.iface 25 (Value.pointer (some ⟨w.heap.size + 1, 0, none⟩)), Value.int IntKind.i64 0, Value.int IntKind.i64 0, Value.slice none 0 0, Value.map none, Value.slice none 0 0, Value.pointer none, Value.int IntKind.i64 0, Value.int IntKind.i64 0, Value.int IntKind.i64 0, Value.int IntKind.i64 0, Value.int IntKind.i64 0, Value.int IntKind.i64 0, Value.int IntKind.i64 0, Value.pointer none, Value.slice none 0 0, Value.pointer none, Value.slice none 0 0, Value.slice none 0 0] ∧ cc[7]? = some (.int .i64 n) ∧ cc[13]? = some (.iface 25 (.pointer (some ⟨w.heap.size + 1, 0, none⟩))) := ⟨_, rfl, rfl, rfl⟩
      rw [← hcc]
      clear hcc
      have h7 := cell_new wc cc 67 wc.heap.size 7 _ rfl hc7
      have h13 := cell_new wc cc 67 wc.heap.size 13 _ rfl hc13
      have hIC := hI3.bel ((Below.refl _ wc).alloc (Nat.le_refl _) (.cells cc 67))
      obtain ⟨WC, hWC⟩ : ∃ WC, wc.alloc (.cells cc 67) = WC := ⟨_, rfl⟩
      rw [hWC] at h7 h13 hIC ⊢
      have lmd := (Array.getElem?_eq_some_iff.1 hI3.md).1
      clear hWC hc7 hc13 hI3 hB3
      have hcr : sb ≠ w.heap.size + 1 ∧ ∀ i, i < 8 → WC.cell? ⟨sb, i, none⟩ = some (.pointer (some ⟨SS i, 0, none⟩)) := by
        obtain ⟨cr, hcr, hcr'⟩ := hIC.stt
        exact ⟨fun e => (by rw [e, hIC.md] at hcr; cases hcr), fun i hi => by unfold World.cell?; simp only [hcr]; simpa using hcr' i hi⟩
      have hcs := clusterState wc.heap.size (w.heap.size + 1) sb sc n len SS MM P WC hn8 h7 h13 (by omega) hIC.md hcr.1 hcr.2 hIC.sts hB51
      clear hcr
      go_cut [14] from 91 to 92 (fun t14 wx => ∃ A MA ao co, t14 = .pointer (some ⟨A, 0, none⟩) ∧ L3 w n sb sc SS MM len P A MA ao co wx)
      case first =>
        go_wp2_with (go_at_call 8; refine hcs.mono ?_; rintro e w8 ⟨A, MA, av, rfl, hA, hmd, hrow, _, _, hbut⟩)
        go_meet
        case rel =>
          obtain ⟨ao, co, _, h⟩ := L3.of hIC hA hmd hrow hbut
          exact ⟨A, MA, ao, co, rfl, h⟩
      case rest =>
        clear hcs hIC h7 h13 lmd WC
        obtain ⟨A, MA, ao, co, rfl, h3⟩ := hcut
        have m1 : wc.cell? ⟨w.heap.size + 1, 1, none⟩ = some (.slice ao n co) := by unfold World.cell?; simp only [h3.md]; rfl
        go_upto_block 4 with fail
        go_cut [15] from 102 to 116 (fun _ wx => wx = wc)
        case first =>
          go_wp2_with fail
          go_loopg [15] n (fun k i wr => ∃ j : Nat, k + j = n ∧ i = .int .i64 j ∧ wr = wc)
          case atStart => exact ⟨0, by omega, rfl, rfl⟩
          case round =>
            obtain ⟨j, hkj, rfl, hwr⟩ := hrel
            subst hwr
            by_cases hj : j < n
            · obtain ⟨g, d, rfl, hg, d0, d1⟩ := h3.ask j hj
              have a0 : wr.cell? ⟨g, j * 2, none⟩ = some (.int .i64 j) := by unfold World.cell?; simp only [hg]; simpa using d0
              have a1 : wr.cell? ⟨g, j * 2 + 1, none⟩ = some (.int .i64 0) := by unfold World.cell?; simp only [hg]; simpa using d1
              have hd : decide ((j : Int) < n) = true := by simp; omega
              clear hg d0 d1
              go_wp2_with fail
              go_roundg (gk - 1)
              case rel => exact ⟨j + 1, by omega, by simp, rfl⟩
              case measure => omega
            · obtain rfl : j = n := by omega
              have hd : decide ((j : Int) < j) = false := by simp
              go_wp2_with fail
              go_meet
              case rel => exact rfl
        case rest =>
          subst hcut
          clear m1
          go_upto_block 6 with fail
          go_cut [16, 17, 18, 19] from 117 to 144 (fun t16 _ _ _ wx => t16 = .int .i64 (nz (sumTo P n) 4) ∧ L3 w n sb sc SS MM len P A MA ao co wx)
          case first =>
            go_wp2_with fail
            go_loopg [16, 17] 4 (fun g t16 t17 wr => ∃ k : Nat, g + k = 4 ∧ t17 = .int .i64 k ∧ t16 = .int .i64 (nz (sumTo P n) k) ∧ L3 w n sb sc SS MM len P A MA ao co wr)
            case atStart => exact ⟨0, by omega, rfl, rfl, h3⟩
            case round =>
              obtain ⟨k, hgk, rfl, rfl, hL⟩ := hrel
              obtain ⟨wo, rfl⟩ : ∃ wo : World, wo = wr := ⟨_, rfl⟩
              clear h3
              by_cases hk : k < 4
              · have hd : decide ((k : Int) < 4) = true := by simp; omega
                have hkI : (k : Int) < 4 := by omega
                go_upto_block 8 with fail
                go_cut [18, 19] from 121 to 132 (fun t18 _ wx => t18 = .int .i64 (sumTo P n k) ∧ wx = wo)
                case first =>
                  go_wp2_with fail
                  go_loopg [18, 19] n (fun g t18 t19 wq => ∃ s : Nat, g + s = n ∧ t19 = .int .i64 s ∧ t18 = .int .i64 (sumTo P s k) ∧ wq = wo)
                  case atStart => exact ⟨0, by omega, rfl, rfl, rfl⟩
                  case round =>
                    obtain ⟨s, hgs, rfl, rfl, hwq⟩ := hrel
                    subst hwq
                    by_cases hs : s < n
                    · have hd2 : decide ((s : Int) < n) = true := by simp; omega
                      have hsI : (s : Int) < 8 := by omega
                      obtain ⟨d, hd0, hd1, hd2'⟩ := hL.per
                      have p1 : wr.cell? ⟨w.heap.size, s * 4 + k, none⟩ = some (.int .i64 (P s k)) := by unfold World.cell?; simp only [hd0]; simpa using hd2' s (by omega) k hk
                      have hbs := sumTo_bound P k 4503599627370496 s (fun i hi => hB51 i (by omega) k hk)
                      have hbk := hB51 s (by omega) k hk
                      have hw1 : wrap64 (sumTo P s k + P s k) = sumTo P s k + P s k := wrap_mid' _ (by omega) (by omega)
                      clear hbs hbk hd0 hd1 hd2' hL
                      go_wp2_with fail
                      go_roundg (gk - 1)
                      case rel => exact ⟨s + 1, by omega, by simp, by rw [hw1]; rfl, rfl⟩
                      case measure => omega
                    · obtain rfl : s = n := by omega
                      have hd2 : decide ((s : Int) < s) = false := by simp
                      go_wp2_with fail
                      go_meet
                      case rel => exact ⟨rfl, rfl⟩
                case rest =>
                  obtain ⟨rfl, hwr⟩ := hcut
                  subst hwr
                  have hbs : -4611686018427387904 < sumTo P n k ∧ sumTo P n k < 4611686018427387904 := by
                    have := sumTo_bound P k 4503599627370496 n (fun i hi => hB51 i (by omega) k hk)
                    omega
                  go_upto_if 140 with (first
                    | (go_at_call 6; refine (key4 k hk _).mono ?_; rintro e w' ⟨rfl, hw'⟩; obtain rfl := hw'.symm)
                    | (go_at_call 9; refine (stGet A MA 64 k (sumTo P n) _ hL.all hk).mono ?_; rintro e w1 ⟨Pa, rfl, hbig1, hbel1⟩)
                    | (go_at_call 7; refine (newIntIs (sumTo P n k) hbs.1 hbs.2 _).mono ?_; rintro e w2 ⟨Pb, rfl, hPb, hbig2, hbel2⟩)
                    | (go_at_call 10; refine (cmpIs Pa Pb _ _ _ (hbig1.keep (.of_below hbel2)) hbig2 (fun e => by obtain ⟨c, hc⟩ := hbig1.2.1; have := (Array.getElem?_eq_some_iff.1 hc).1; omega) rfl).mono ?_; rintro e w3 ⟨rfl, hbel3⟩))
                  have hL3 := ((hL.bel hbel1).bel hbel2).bel hbel3
                  clear hL hbel1 hbel2 hbel3 hbig1 hbig2 hbs
                  by_cases h0 : sumTo P n k = 0
                  · have hz : (sumTo P n k != 0) = false := by simp [h0]
                    have hnz : nz (sumTo P n) (k + 1) = nz (sumTo P n) k := by simp [nz, h0]
                    clear h0
                    go_wp2_with fail
                    go_roundg (gk - 1)
                    case rel => exact ⟨k + 1, by omega, by simp, by rw [hnz], hL3⟩
                    case measure => omega
                  · have hz : (sumTo P n k != 0) = true := by simp [h0]
                    have hnz : nz (sumTo P n) (k + 1) = nz (sumTo P n) k + 1 := by simp [nz, h0]
                    clear h0
                    go_wp2_with fail
                    go_roundg (gk - 1)
                    case rel => exact ⟨k + 1, by omega, by simp, by rw [hnz, wrap_mid' _ (by omega) (by have := nz_le (sumTo P n) k; omega)]; simp, hL3⟩
                    case measure => omega
              · obtain rfl : k = 4 := by omega
                go_wp2_with fail
                go_meet
                case rel => exact ⟨rfl, hL⟩
          case rest =>
            obtain ⟨rfl, h4⟩ := hcut
            clear h3
            have h11 := all11 A MA (wc.alloc (.cells #[.int .i64 0] 3)) (cell_old _ _ _ h4.all.cell)
            go_wp2_with (go_at_call 11; refine h11.mono ?_; rintro e w1 ⟨rfl, rfl⟩)
            clear h11
            have b2 := heap_alloc_new (wc.alloc (.cells #[.int .i64 0] 3)) (.cells #[.map (some MA)] 76)
            rw [World.size_alloc] at b2
            have b1 : ((wc.alloc (.cells #[.int .i64 0] 3)).alloc (.cells #[.map (some MA)] 76)).heap[wc.heap.size]? = some (.cells #[.int .i64 0] 3 (0, 0)) := (Below.heap_alloc _ _ _ (by simp)).trans (heap_alloc_new _ _)
            have bW : Below wc.heap.size wc ((wc.alloc (.cells #[.int .i64 0] 3)).alloc (.cells #[.map (some MA)] 76)) := ((Below.refl _ wc).alloc (Nat.le_refl _) _).alloc (by simp) _
            have sW : ((wc.alloc (.cells #[.int .i64 0] 3)).alloc (.cells #[.map (some MA)] 76)).heap.size = wc.heap.size + 1 + 1 := by simp
            obtain ⟨W2, hW2⟩ : ∃ W2, (wc.alloc (.cells #[.int .i64 0] 3)).alloc (.cells #[.map (some MA)] 76) = W2 := ⟨_, rfl⟩
            rw [hW2] at b1 b2 bW sW ⊢
            clear hW2
            have h4W := h4.bel bW
            have hlM := h4.all.ltM
            have hbm : W2.cell? ⟨wc.heap.size + 1, 0, none⟩ = some (.map (some MA)) := by unfold World.cell?; simp only [b2]; rfl
            obtain ⟨_, D0, hown, hH⟩ := h4W.all
            have hvals : ∀ k, k < 4 → has D0 (Kl k) = true → ∃ P : Nat, ∀ z, D0.atKey (Kl k) z = .lit (.int .u64 P) := fun k hk hh => by
              rcases hH.1 k hk with ⟨_, h⟩ | ⟨_, _, P, h3, _⟩
              · rw [h] at hh; cases hh
              · exact ⟨P, h3⟩
            refine (wpIn_wide (n := 6)).1 ?_
            refine wpIn_rangeFunc_ownG rfl (by omega) (gf := 24) (lb := #[.pointer (some ⟨wc.heap.size + 1, 0, none⟩)]) rfl trivial (enters_of Yba.func24 (by kernel_rfl) rfl)
              (all24_stops 5 (by omega) (wc.heap.size + 1) MA 64 wc.heap.size D0 W2 hH.2 hvals (by omega) (by omega) (by omega) hbm hown) (fun h k => h.trans k) (fun W l o o' _ hl _ hw => KeepsMaps.putObj W l o o' hl hw) (Below.refl _ _) (fun _ => rfl)
              (fun pre W => W.heap[wc.heap.size]? = some (.cells #[.int .i64 pre.length] 3 (0, 0)) ∧ But wc.heap.size W2 W)
              (fun _ _ _ => False) ?hI (fun _ _ _ _ _ h _ _ => h) ?h0 ?a1 ?assign ?body ?done ?stop
            case hI =>
              intro pre W W' row ⟨h1, h2⟩ hg hr
              have hrw : ∀ k, k < W2.heap.size → W'.heap[k]? = W.heap[k]? := fun k hk => by
                refine hg.block k (Nat.lt_of_lt_of_le hk h2.1) fun e => ?_
                have := (hr k e.symm).1
                omega
              exact ⟨(hrw _ (by omega)).trans h1, Nat.le_trans h2.1 hg.size, fun k hk hne => (hrw k hk).trans (h2.2.1 k hk hne), hg.os.trans h2.2.2.1, hg.tape.trans h2.2.2.2.1, hg.output.trans h2.2.2.2.2⟩
            case h0 => exact ⟨b1, Nat.le_refl _, fun _ _ _ => rfl, rfl, rfl, rfl⟩
            case assign =>
              intro l x W K hK
              gi_wp2
              exact hK
            case body =>
              rintro l pre x W ⟨h1, h2⟩ hlen
              have hbx : W.cell? ⟨wc.heap.size, 0, none⟩ = some (.int .i64 pre.length) := by unfold World.cell?; simp only [h1]; rfl
              have hbf : W.frozen? ⟨wc.heap.size, 0, none⟩ = false := frozen_cells h1
              have hw1 : wrap64 ((pre.length : Int) + 1) = pre.length + 1 := wrap_mid' _ (by omega) (by omega)
              gi_wp2
              have e1 := heap_setCell_same W wc.heap.size 0 _ 3 (.int .i64 ((pre.length : Int) + 1)) h1
              have e2 : But wc.heap.size W (W.setCell ⟨wc.heap.size, 0, none⟩ (.int .i64 ((pre.length : Int) + 1))) := ⟨by simp, fun k _ hk => Below.heap_setCell _ _ _ _ hk, rfl, rfl, rfl⟩
              refine ⟨⟨e2.1, fun k o hk ho _ => (Below.heap_setCell _ _ _ _ (show k ≠ wc.heap.size by omega)).trans ho⟩, ⟨e2.1, fun k o hk ho _ => (Below.heap_setCell _ _ _ _ hk).trans ho⟩, ?_, h2.trans e2⟩
              rw [show ((pre ++ [x]).length : Int) = pre.length + 1 by simp]
              exact e1
            case done =>
              rintro D xs W hD hall ⟨h1, h2⟩ hKD
              dsimp only
              have hxl : xs.length = nz (sumTo P n) 4 := by
                have := nz_length (sumTo P n) 4 (xs.map fun x => x.1.1) hall.1 (fun j hj => by obtain ⟨y, _, rfl⟩ := List.mem_map.1 hj; exact (show Ent D0 from y).2.1) (fun k hk => by
                  rw [hall.2 k hk]
                  rcases hH.1 k hk with ⟨e0, e1⟩ | ⟨e0, e1, _⟩
                  · simp [e0, e1]
                  · simp [e0, e1])
                simpa using this
              rw [hxl] at h1
              have hbx : W.cell? ⟨wc.heap.size, 0, none⟩ = some (.int .i64 (nz (sumTo P n) 4)) := by unfold World.cell?; simp only [h1]; rfl
              have hL : L3 w n sb sc SS MM len P A MA ao co W := h4.bel ⟨h2.2.2.1.trans bW.os, h2.2.2.2.1.trans bW.tape, h2.2.2.2.2.trans bW.output, Nat.le_trans bW.size h2.1, fun k hk => (h2.2.1 k (by omega) (by omega)).trans (bW.block k hk)⟩
              have lwc : w.heap.size ≤ D := by have := h4.fr.size; omega
              clear hxl hall h1 h2 hvals hH hown h4 h4W b1 b2 bW sW hbm hlM hD
              go_upto_block 12 with fail
              clear hbx
              go_cut [21, 22] from 154 to 179 (fun _ _ wx => L3 w n sb sc SS MM len P A MA ao co wx ∧ wx.heap[D]? = some (.deferred (some [])))
              case first =>
                go_wp2_with fail
                go_loopg [21] 8 (fun g i wr => ∃ s : Nat, g + s = 8 ∧ i = .int .i64 s ∧ L3 w n sb sc SS MM len P A MA ao co wr ∧ wr.heap[D]? = some (.deferred (some [])))
                case atStart => exact ⟨0, by omega, rfl, hL, hKD⟩
                case round =>
                  obtain ⟨s, hgs, rfl, hLs, hDs⟩ := hrel
                  clear hL hKD
                  obtain ⟨wo, rfl⟩ : ∃ wo : World, wo = wr := ⟨_, rfl⟩
                  by_cases hs8 : s < 8
                  · have hd : decide ((s : Int) < 8) = true := by simp; omega
                    have hsI : (s : Int) < 8 := by omega
                    go_upto_block 13 with fail
                    go_cut [22] from 158 to 179 (fun _ wx => L3 w n sb sc SS MM len P A MA ao co wx ∧ wx.heap[D]? = some (.deferred (some [])))
                    case first =>
                      go_wp2_with fail
                      go_loopg [22] 4 (fun g i wr => ∃ k : Nat, g + k = 4 ∧ i = .int .i64 k ∧ L3 w n sb sc SS MM len P A MA ao co wr ∧ wr.heap[D]? = some (.deferred (some [])))
                      case atStart => exact ⟨0, by omega, rfl, hLs, hDs⟩
                      case round =>
                        obtain ⟨k, hgk, rfl, hLk, hDk⟩ := hrel
                        clear hLs hDs
                        by_cases hk4 : k < 4
                        · have hd2 : decide ((k : Int) < 4) = true := by simp; omega
                          have hkI : (k : Int) < 4 := by omega
                          have hbk := hB51 s hs8 k hk4
                          obtain ⟨cr, hcr, hcr'⟩ := hLk.stt
                          obtain ⟨dd, hdd, _, hdd'⟩ := hLk.per
                          have e0 : wr.cell? ⟨w.heap.size + 1, 0, none⟩ = some (.slice (some ⟨sb, 0, none⟩) 8 sc) := by unfold World.cell?; simp only [hLk.md]; rfl
                          have e1 : wr.cell? ⟨sb, s, none⟩ = some (.pointer (some ⟨SS s, 0, none⟩)) := by unfold World.cell?; simp only [hcr]; simpa using hcr' s hs8
                          have e2 : wr.cell? ⟨w.heap.size, s * 4 + k, none⟩ = some (.int .i64 (P s k)) := by unfold World.cell?; simp only [hdd]; simpa using hdd' s hs8 k hk4
                          have Ad : Aside (L3 w n sb sc SS MM len P A MA ao co wr.drew ∧ wr.drew.heap[D]? = some (.deferred (some []))) := ⟨hLk.bel ⟨rfl, rfl, rfl, Nat.le_refl _, fun _ _ => rfl⟩, hDk⟩
                          clear hcr hcr' hdd hdd' hLk hDk
                          go_upto_region 53 with fail
                          go_region_held3 (fun W => W.cell? ⟨w.heap.size + 1, 0, none⟩ = some (.slice (some ⟨sb, 0, none⟩) 8 sc) ∧ W.cell? ⟨sb, s, none⟩ = some (.pointer (some ⟨SS s, 0, none⟩)) ∧ W.cell? ⟨w.heap.size, s * 4 + k, none⟩ = some (.int .i64 (P s k))) (exact ⟨by first | exact i0 | exact g0 | exact f0 | exact e0, by first | exact i1 | exact g1 | exact f1 | exact e1, by first | exact i2 | exact g2 | exact f2 | exact e2⟩) (first
                            | (go_at_call 6; refine (key4 k hk4 _).mono ?_; rintro e w' ⟨rfl, hw'⟩; subst hw')
                            | (go_at_call 9; refine (stGet (SS s) (MM s) len k (P s) _ (Ad.out.1.sts s hs8) hk4).mono ?_; rintro e w1 ⟨Pa, rfl, hbig1, hbel1⟩; have f0 := bel_cell hbel1 e0; have f1 := bel_cell hbel1 e1; have f2 := bel_cell hbel1 e2)
                            | (go_at_call 7; refine (newIntIs (P s k) (by omega) (by omega) _).mono ?_; rintro e w2 ⟨Pb, rfl, hPb, hbig2, hbel2⟩; have g0 := bel_cell hbel2 f0; have g1 := bel_cell hbel2 f1; have g2 := bel_cell hbel2 f2)
                            | (go_at_call 10; refine (cmpIs Pa Pb _ _ _ (hbig1.keep (.of_below hbel2)) hbig2 (fun e => by obtain ⟨c, hc⟩ := hbig1.2.1; have := (Array.getElem?_eq_some_iff.1 hc).1; omega) rfl).mono ?_; rintro e w3 ⟨rfl, hbel3⟩; have i0 := bel_cell hbel3 g0; have i1 := bel_cell hbel3 g1; have i2 := bel_cell hbel3 g2))
                          have hLf := ((Ad.out.1.bel hbel1).bel hbel2).bel hbel3
                          have lD := (Array.getElem?_eq_some_iff.1 Ad.out.2).1
                          have lD1 := Nat.lt_of_lt_of_le lD hbel1.size
                          have hDf : w3.heap[D]? = some (.deferred (some [])) := (hbel3.block D (Nat.lt_of_lt_of_le lD1 hbel2.size)).trans ((hbel2.block D lD1).trans ((hbel1.block D lD).trans Ad.out.2))
                          clear Ad lD lD1 hbel1 hbel2 hbel3 hbig1 hbig2 e0 e1 e2 f0 f1 f2 g0 g1 g2 i0 i1 i2
                          go_wp2_with fail
                          go_roundg (gk - 1)
                          case rel => exact ⟨k + 1, by omega, by simp, hLf, hDf⟩
                          case measure => omega
                        · obtain rfl : k = 4 := by omega
                          go_wp2_with fail
                          go_meet
                          case rel => exact ⟨hLk, hDk⟩
                    case rest =>
                      clear hLs hDs
                      obtain ⟨hLk, hDk⟩ := hcut
                      go_wp2_with fail
                      go_roundg (gk - 1)
                      case rel => exact ⟨s + 1, by omega, by simp, hLk, hDk⟩
                      case measure => omega
                  · obtain rfl : s = 8 := by omega
                    go_wp2_with fail
                    go_meet
                    case rel => exact ⟨hLs, hDs⟩
              case rest =>
                clear hL hKD
                obtain ⟨hL, hKD⟩ := hcut
                go_wp2_with fail
                refine leaves_marks (B := w.heap.size) _ wc ⟨⟨D, lwc, rfl, hKD, by simp⟩, trivial⟩ fun w' hsh => ⟨_, results_tmp rfl _ _ _, rfl, ?_⟩
                exact ⟨hsh.2.2.1.trans hL.fr.os, hsh.2.2.2.1.trans hL.fr.tape, hsh.2.2.2.2.trans hL.fr.output, by rw [hsh.1]; exact hL.fr.size, fun k hk => (hsh.2.1 k (.inl hk)).trans (hL.fr.block k hk)⟩
            case stop =>
              rintro D c pre W _ _ h _
              exact h.elim
end Go.Proofs.Ybulkduza
