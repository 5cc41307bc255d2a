/-
  State.All and maps.All: the iterator over a State's map.
-/
import Derived.Test.YbulkduzaStAt
import Derived.RangeFuncNested
import Derived.RangeFuncBound
import Derived.RangeFuncCalls
import Derived.RangeFuncLeaves
import Derived.RangeFuncWrites
import Derived.Sort.MapsRangeIn
import Derived.Sort.KeysCollected
import Derived.Shelf.Abstract
import Derived.Shelf.RegionOpen
import Derived.WalkKit
import Derived.OwnWalkIn
import Derived.TacticsInMore
import Derived.LoopNIn
import Derived.LoopIn
namespace Go.Proofs.Ybulkduza
open Go.RowKit Go.Maps Go.Sort Go.Shelf

set_option maxRecDepth 100000 in
set_option maxHeartbeats 1000000 in
theorem all21 (M : Option Nat) (w : World) : Calls Yba.prog 21 #[.map M] w fun e w' => e = .returned (.func (.func 24) #[] #[.pointer (some ⟨w.heap.size, 0, none⟩)]) ∧ w' = w.alloc (.cells #[.map M] 76) := by
  go_enter Yba.func21, Yba.ntmps21
  go_wp2
  go_ret
  exact ⟨rfl, rfl⟩

set_option maxRecDepth 100000 in
set_option maxHeartbeats 1000000 in
theorem all11 (S M : Nat) (w : World) (hS : w.cell? ⟨S, 0, none⟩ = some (.map (some M))) : Calls Yba.prog 11 #[.pointer (some ⟨S, 0, none⟩)] w fun e w' => e = .returned (.func (.func 24) #[] #[.pointer (some ⟨w.heap.size, 0, none⟩)]) ∧ w' = w.alloc (.cells #[.map (some M)] 76) := by
  have h21 := all21 (some M) w
  go_enter Yba.func11, Yba.ntmps11
  go_wp2_with (go_at_call 21; refine h21.mono ?_; rintro e w1 ⟨rfl, rfl⟩)
  go_ret
  exact ⟨rfl, rfl⟩

/-- What comes: a key of the four, the block of its Int. -/
abbrev Ent (D : DataW Unit) := { p : Nat × Nat // p.1 < 4 ∧ ∀ z, D.atKey (Kl p.1) z = .lit (.int .u64 p.2) }
abbrev encE {D : DataW Unit} (x : Ent D) : Array Value := #[.string (keyOf4 x.1.1), .pointer (some ⟨x.1.2, 0, none⟩)]
/-- All have come, each once. -/
def AllOf {D : DataW Unit} (xs : List (Ent D)) : Prop := (xs.map fun x => x.1.1).Nodup ∧ ∀ k, k < 4 → (k ∈ xs.map (fun x => x.1.1) ↔ has D (Kl k) = true)

/-- Maps and walks lie as they lay, but for one map. -/
def KeepsMaps (M : Nat) (W W' : World) : Prop := W.heap.size ≤ W'.heap.size ∧ ∀ (k : Nat) (o : Obj), k ≠ M → W.heap[k]? = some o → o.isWalk = true → W'.heap[k]? = some o
theorem KeepsMaps.trans {M : Nat} {A B C : World} (h : KeepsMaps M A B) (h' : KeepsMaps M B C) : KeepsMaps M A C := ⟨Nat.le_trans h.1 h'.1, fun k o hk ho hw => h'.2 k o hk (h.2 k o hk ho hw) hw⟩
theorem KeepsMaps.putObj {M : Nat} (W : World) (l : Nat) (o o' : Obj) (hl : W.heap[l]? = some o) (ho : o.isWalk = false) : KeepsMaps M W (W.putObj l o') := ⟨by simp [World.putObj], fun k o1 _ hk hw => by
  by_cases h : k = l
  · subst h; rw [hl] at hk; cases hk; rw [ho] at hw; cases hw
  · exact (World.putObj_heap_other h).trans hk⟩
theorem ranges_keep {w w' : World} {M b r n : Nat} {D : DataW Unit} {left : Lit → Bool} {cnt : Nat} (h : w.ranges Yba.prog 9 ptrElem b r n D left cnt) (hk : KeepsMaps M w w') (hb : b ≠ M) (hr : r ≠ M) : w'.ranges Yba.prog 9 ptrElem b r n D left cnt := by
  obtain ⟨es, clock, since, seen, c0, hbk, F, hs, hD, hrk, rest⟩ := h
  exact ⟨es, clock, since, seen, c0, hk.2 b _ hb hbk rfl, F, hs, hD, hk.2 r _ hr hrk rfl, rest⟩

theorem encStr_keyL (k : Nat) : encStr (keyL k) = .string (keyOf4 k) := by
  unfold keyL keyOf4
  split
  · rfl
  · split
    · rfl
    · split
      · rfl
      · rfl
def mkP : Option Nat → Value
  | some P => .pointer (some ⟨P, 0, none⟩)
  | none => .pointer none
theorem ptrElem_inv {v : Value} {y : DataW Unit × List MemPlace} (h : ptrElem v = some y) : ∃ c, v = mkP c := by
  unfold ptrElem at h
  split at h
  · exact ⟨some _, rfl⟩
  · exact ⟨none, rfl⟩
  · cases h
theorem nodup_lt : ∀ (n : Nat) (l : List Nat), l.Nodup → (∀ k ∈ l, k < n) → l.length ≤ n
  | 0, l, _, h => by
    cases l with
    | nil => simp
    | cons a l => have := h a (by simp); omega
  | n + 1, l, hn, h => by
    by_cases hm : n ∈ l
    · have h1 := nodup_lt n (l.erase n) (hn.erase n) (fun k hk => by
        have := (hn.mem_erase_iff).1 hk
        have := h k this.2
        omega)
      rw [List.length_erase_of_mem hm] at h1
      omega
    · have := nodup_lt n l hn (fun k hk => by
        have h1 := h k hk
        have : k ≠ n := fun e => hm (e ▸ hk)
        omega)
      omega
theorem nodup4 {l : List Nat} (h : l.Nodup) (h4 : ∀ k ∈ l, k < 4) : l.length ≤ 4 := nodup_lt 4 l h h4
theorem nodup_of_map {α β : Type} {f : α → β} {l : List α} (h : (l.map f).Nodup) : l.Nodup := by
  refine (List.pairwise_map.1 h).imp ?_
  intro a b hne e
  exact hne (congrArg f e)

set_option maxRecDepth 100000 in
set_option maxHeartbeats 1000000 in
theorem all24_in (n : Nat) (hn : 1 ≤ n) (l Bm b nn MA : Nat) (D0 : DataW Unit) (hkeys : ∀ x, has D0 (.string x) = true → ∃ k, k < 4 ∧ x = keyL k) (hvals : ∀ k, k < 4 → has D0 (Kl k) = true → ∃ P : Nat, ∀ z, D0.atKey (Kl k) z = .lit (.int .u64 P)) (hbM : b ≠ MA) (J Jx : List (Ent D0) → World → Prop)
    (hY : ∀ pre x W, J pre W → pre.length < 4 → YieldAt Fence.wide (n - 1) Yba.prog l (encE x) W fun e W' =>
      (e = .returned (.bool true) ∧ J (pre ++ [x]) W' ∧ KeepsMaps MA W W') ∨ (e = .returned (.bool false) ∧ Jx (pre ++ [x]) W'))
    (W : World) (hMA : MA < W.heap.size) (hJ : AbidesFrom W.heap.size J) (hm : W.cell? ⟨Bm, 0, none⟩ = some (.map (some b))) (hown : W.ownsMap Yba.prog 9 ptrElem b nn D0) (h0 : J [] W) :
    CallsIn Fence.wide n Yba.prog 24 #[.func (.yield l) #[] #[], .pointer (some ⟨Bm, 0, none⟩)] W fun e W' => (∃ v, e = .returned v) ∧
      ((∃ ps, AllOf ps ∧ J ps W') ∨ (∃ pre, True ∧ Jx pre W')) := by
  refine callsIn_of_wp Yba.func24 rfl trivial ?_ rfl
  simp only [Yba.ntmps24, List.size_toArray, List.length_cons, List.length_nil, Nat.reduceAdd, Nat.reduceSub, Array.replicate_succ, Array.replicate_zero, List.push_toArray, List.append_toArray, List.nil_append, List.cons_append]
  gi_wp2_with (first
    | (gi_at_range; refine wpListIn_range_own _ rfl _ 76 rfl 9 36 keyed9 Yba.underlying76 _ b nn _ rfl hown ?_; intro w0 hrg0 hg0 hs0)
    | gi_in)
  go_frame
  gi_loopw [3, 4] (fun _ _ wr => ∃ (left : Lit → Bool) (cnt : Nat) (ps : List (Ent D0)), wr.ranges Yba.prog 9 ptrElem b W.heap.size nn D0 left cnt ∧ Collected D0 left (ps.map fun x => keyL x.1.1) ∧ J ps wr)
    (fun _ _ wr => wr.rangeLeft b W.heap.size)
  case atStart =>
    exact ⟨_, _, [], hrg0, Collected.start D0, hJ [] W w0 none h0 hg0 (fun r e => by cases e)⟩
  case round =>
    obtain ⟨left, cnt, ps, hrg, hC, hJs⟩ := hrel
    gi_wp2_with (first
      | (gi_at_next; refine wpListIn_next_ranges _ rfl _ rfl 9 keyed9 ptrElem encStr mkP (fun key kl hk => by obtain ⟨x, hx, _⟩ := Maps.keyOf_str Yba.underlying9 hk; exact ⟨x, hx⟩) (fun v y hv => ptrElem_inv hv) b W.heap.size nn _ _ _ rfl hrg ?_ ?_)
      | gi_in)
    · intro hc0 hl0
      gi_wp2
      go_end0
      refine ⟨⟨_, rfl⟩, .inl ⟨ps, ⟨?_, fun k hk => ?_⟩, hJs⟩⟩
      · have := hC.1
        rw [show (ps.map fun x => keyL x.1.1) = (ps.map fun x => x.1.1).map keyL by simp] at this
        exact nodup_of_map this
      · have := hC.2 (keyL k)
        rw [hl0] at this
        refine ⟨fun h => ?_, fun h => ?_⟩
        · obtain ⟨x, hx, rfl⟩ := List.mem_map.1 h
          exact (this.1 (List.mem_map.2 ⟨x, hx, rfl⟩)).1
        · obtain ⟨x, hx, hxk⟩ := List.mem_map.1 (this.2 ⟨h, rfl⟩)
          exact List.mem_map.2 ⟨x, hx, keyL_inj x.2.1 hk hxk⟩
    · intro x c kl yd yp w2 cnt2 hkey hlk hv hat hrg2 hlt hg2 hs2 hen
      obtain ⟨x', ex, rfl, _⟩ := Maps.keyOf_str Yba.underlying9 hkey
      obtain rfl : x = x' := encStr_inj ex
      have hhas : has D0 (.string x) = true := has_true_of_atKey hat
      obtain ⟨k, hk4, rfl⟩ := hkeys x hhas
      obtain ⟨P, hP⟩ := hvals k hk4 hhas
      obtain rfl : c = some P := by
        have e1 : yd = .lit (.int .u64 P) := (hat .nil).symm.trans (hP .nil)
        subst e1
        cases c with
        | none => cases hv
        | some Q => have := ptrElem_some hv; unfold mkP at this; simp at this; rw [this]
      have hJ2 : J ps w2 := hJ ps wr w2 (some W.heap.size) hJs hg2 (fun r e => by cases e; exact ⟨Nat.le_refl _, hrg.iter_walk⟩)
      have hC2 : Collected D0 (fun z => left z && !z.sameKey (.string (keyL k))) ((ps ++ [(⟨(k, P), hk4, hP⟩ : Ent D0)]).map fun x => keyL x.1.1) := by simpa using hC.step hlk hat
      have hlen : ps.length < 4 := by
        have h1 := hC2.1
        rw [show ((ps ++ [(⟨(k, P), hk4, hP⟩ : Ent D0)]).map fun x => keyL x.1.1) = ((ps ++ [(⟨(k, P), hk4, hP⟩ : Ent D0)]).map fun x => x.1.1).map keyL by simp] at h1
        have h2 := nodup4 (nodup_of_map h1) (fun j hj => by obtain ⟨y, _, rfl⟩ := List.mem_map.1 hj; exact (show Ent D0 from y).2.1)
        simp at h2
        omega
      obtain ⟨fn, tmps, assign, body, hy, hR⟩ := hY ps ⟨(k, P), hk4, hP⟩ w2 hJ2 hlen
      dsimp only [encE] at hy
      rw [encStr_keyL] at hen ⊢
      dsimp only [mkP] at hen ⊢
      clear hs2
      gi_wp2
      refine hR.mono ?_
      rintro e W3 (⟨rfl, hJ3, hk3⟩ | ⟨rfl, hJx3⟩)
      · gi_wp2
        have hrg3 := ranges_keep hrg2 hk3 hbM (by omega)
        go_roundw
        case rel => exact ⟨_, cnt2, ps ++ [⟨(k, P), hk4, hP⟩], hrg3, hC2, hJ3⟩
        case measure => rw [hrg3.left_eq, hrg.left_eq]; exact hlt
      · gi_wp2
        refine bodyPost_ret (results_none rfl _ _ _) rfl ?_
        exact ⟨⟨_, rfl⟩, .inr ⟨ps ++ [⟨(k, P), hk4, hP⟩], trivial, hJx3⟩⟩

/-- maps.All's function value, for whatever body keeps the other maps. -/
theorem all24_stops (n : Nat) (hn : 1 ≤ n) (Bm b nn MA : Nat) (D0 : DataW Unit) (w : World) (hkeys : ∀ x, has D0 (.string x) = true → ∃ k, k < 4 ∧ x = keyL k) (hvals : ∀ k, k < 4 → has D0 (Kl k) = true → ∃ P : Nat, ∀ z, D0.atKey (Kl k) z = .lit (.int .u64 P)) (hbM : b ≠ MA) (hMA : MA < w.heap.size) (hBm : Bm < w.heap.size)
    (hm : w.cell? ⟨Bm, 0, none⟩ = some (.map (some b))) (hown : w.ownsMap Yba.prog 9 ptrElem b nn D0) :
    SeqStopsK Fence.wide n Yba.prog 24 #[.pointer (some ⟨Bm, 0, none⟩)] (encE (D := D0)) (KeepsMaps MA) AllOf (fun _ => True) 4 w := fun l J Jx W hW hJ _ hY h0 =>
  all24_in n hn l Bm b nn MA D0 hkeys hvals hbM J Jx hY W (Nat.lt_of_lt_of_le hMA hW.size) hJ ((hW.cell (p := ⟨Bm, 0, none⟩) hBm).trans hm) (own_same hown (hW.block b hown.lt)) h0
end Go.Proofs.Ybulkduza
