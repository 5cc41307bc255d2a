import Derived.Test.YbulkduxkEnv
import Derived.Test.YbulkduxkCopy
import Derived.Deep.QuietTactic
import Derived.BigQuiet
namespace Go.Proofs.Ybulkduxk
open Go.RowKit

theorem mem_at (nm vl : Nat → ByteArray) (n i : Nat) (h : i < n) : (mem nm vl n).length = n * 2 ∧ (mem nm vl n)[i * 2]? = some (.string (nm i)) ∧ (mem nm vl n)[i * 2 + 1]? = some (.iface 9 (.string (vl i))) := by
  have hl : ∀ m, (mem nm vl m).length = m * 2 := by
    intro m
    induction m with
    | zero => rfl
    | succ m ih => simp [mem, ih]; omega
  refine ⟨hl n, ?_⟩
  induction n with
  | zero => omega
  | succ m ih =>
    have hm := hl m
    by_cases e : i = m
    · subst e
      simp [mem, hm]
    · have := ih (by omega)
      rw [mem, List.getElem?_append_left (by omega), List.getElem?_append_left (by omega)]
      exact this

/-- What the walk of the law wants of the world behind the two calls: the variables, their copy, what was gathered. -/
theorem facts (b off len g cap' : Nat) (nm vl : Nat → ByteArray) (w w1 w2 : World) (xs : List Value) (hlt : b < w.heap.size)
    (hc : ∀ i, i < len → w.cell? ⟨b, off + i * 2, none⟩ = some (.string (nm i)) ∧ w.cell? ⟨b, off + i * 2 + 1, none⟩ = some (.string (vl i)))
    (hown1 : w1.ownsRow w.heap.size 28 2 (.slice (some ⟨w.heap.size, 0, none⟩) len len) len xs) (hbef : Bef nm vl len xs) (hbe1 : Below w.heap.size w w1)
    (hown2 : w2.ownsRow w1.heap.size 30 2 (.slice (some ⟨g, 0, none⟩) len cap') len (mem nm vl len)) (hbe2 : Below w1.heap.size w1 w2) :
    ∀ i, i < len → (w2.cell? ⟨b, off + i * 2, none⟩ = some (.string (nm i)) ∧ w2.cell? ⟨b, off + i * 2 + 1, none⟩ = some (.string (vl i))) ∧
      (w2.cell? ⟨w.heap.size, i * 2, none⟩ = some (.string (nm i)) ∧ w2.cell? ⟨w.heap.size, i * 2 + 1, none⟩ = some (.string (vl i))) ∧
      (w2.cell? ⟨g, i * 2, none⟩ = some (.string (nm i)) ∧ w2.cell? ⟨g, i * 2 + 1, none⟩ = some (.iface 9 (.string (vl i)))) := by
  intro i hi
  have hs1 := (hown1.lt w.heap.size rfl).2
  have hz := hbe1.size
  have cc : ∀ o, w2.cell? ⟨b, o, none⟩ = w.cell? ⟨b, o, none⟩ := fun o => (hbe2.cell (p := ⟨b, o, none⟩) (show b < w1.heap.size by omega)).trans (hbe1.cell (p := ⟨b, o, none⟩) hlt)
  have dd : ∀ o, w2.cell? ⟨w.heap.size, o, none⟩ = w1.cell? ⟨w.heap.size, o, none⟩ := fun o => hbe2.cell (p := ⟨w.heap.size, o, none⟩) hs1
  have m := mem_at nm vl len i hi
  refine ⟨⟨(cc _).trans (hc i hi).1, (cc _).trans (hc i hi).2⟩, ⟨?_, ?_⟩, ?_, ?_⟩
  · rw [dd, hown1.cellAt _ (by omega)]; exact (hbef i hi).1
  · rw [dd, hown1.cellAt _ (by omega)]; exact (hbef i hi).2
  · rw [hown2.cellAt _ (by omega)]; exact m.2.1
  · rw [hown2.cellAt _ (by omega)]; exact m.2.2

set_option maxHeartbeats 1000000 in
theorem law_some (b off len cap : Nat) (nm vl : Nat → ByteArray) (w : World) (h0 : 0 < len) (hlen : len ≤ 1048576)
    (hc : ∀ i, i < len → w.cell? ⟨b, off + i * 2, none⟩ = some (.string (nm i)) ∧ w.cell? ⟨b, off + i * 2 + 1, none⟩ = some (.string (vl i))) :
    Calls Yba.prog 3 #[.slice (some ⟨b, off, none⟩) len cap] w fun e w' => e = .returned (.bool true) ∧ Below w.heap.size w w' := by
  have q22 : ∀ (w : World) (a : Option Addr) (n c n' c' : Nat), (binOp .eql 22 (.slice a n c) (.slice none n' c')).run Yba.prog w = .ok (.bool a.isNone) w := fun w a n c n' c' => Lib.run_eql_slice_nil w _ _ a n c n' c' Yba.underlying22
  have hta : ∀ (s : ByteArray) (W : World), (Instr.typeAssert (.iface 9 (.string s)) 20 9 true).run Yba.prog W = .ok (.tuple #[.string s, .bool true]) W := fun s W => by simp [Instr.typeAssert, run_underlying Yba.underlying9]
  have hb := World.block_lt_of_cell? w _ (hc 0 h0).1
  go_enter Yba.func3, Yba.ntmps3
  go_wp2_with (go_at_call 4; refine (copy_some b off len cap nm vl w hlen hc).mono ?_; rintro e w1 ⟨rfl, ⟨xs, hown1, hbef⟩, hbe1⟩)
  refine (env_some b off len cap nm vl w1 hlen (fun i hi => ⟨(hbe1.cell (by exact hb)).trans (hc i hi).1, (hbe1.cell (by exact hb)).trans (hc i hi).2⟩)).mono ?_
  rintro e w2 ⟨v2, rfl, hown2, hbe2⟩
  have hex : ∃ g cap', v2 = .slice (some ⟨g, 0, none⟩) len cap' := by
    rcases hown2.2 with ⟨_, h⟩ | ⟨g, cap', _, h, _⟩
    · omega
    · exact ⟨g, cap', h⟩
  obtain ⟨g, cap', hv⟩ := hex
  rw [hv] at hown2 ⊢
  have F := facts b off len g cap' nm vl w w1 w2 xs hb hc hown1 hbef hbe1 hown2 hbe2
  have hbe : Below w.heap.size w w2 := hbe1.trans (hbe2.mono hbe1.size)
  clear hc hown1 hbef hbe1 hown2 hbe2 hv hb
  go_wp2
  go_loopw [5] (fun i wr => ∃ k n : Nat, k ≤ len ∧ i = .int .i64 k ∧ wr = w2.drewN n) (fun i _ => len - (intOf i).toNat)
  case atStart => exact ⟨0, 0, Nat.zero_le _, rfl, rfl⟩
  case round =>
    obtain ⟨k, n, hk, rfl, rfl⟩ := hrel
    by_cases hlt : k < len
    · obtain ⟨⟨a1, a2⟩, ⟨b1, b2⟩, -⟩ := F k hlt
      clear F
      go_wp2
      go_quiet (fail)
      go_wp2
      go_roundw
      case rel => exact ⟨k + 1, _, by omega, by go_num, rfl⟩
      case measure => simp [intOf]; omega
    · obtain rfl : k = len := by omega
      go_wp2
      go_loopw [6] (fun i wr => ∃ j m : Nat, j ≤ k ∧ i = .int .i64 j ∧ wr = w2.drewN m) (fun i _ => k - (intOf i).toNat)
      case atStart => exact ⟨0, n, Nat.zero_le _, rfl, rfl⟩
      case round =>
        obtain ⟨j, m, hj, rfl, rfl⟩ := hrel
        by_cases hlt : j < k
        · obtain ⟨-, ⟨b1, b2⟩, ⟨c1, c2⟩⟩ := F j hlt
          clear F
          go_wp2
          go_quiet (fail)
          go_wp2
          go_roundw
          case rel => exact ⟨j + 1, _, by omega, by go_num, rfl⟩
          case measure => simp [intOf]; omega
        · go_wp2
          go_ret
          exact ⟨rfl, below_drewN hbe _⟩
end Go.Proofs.Ybulkduxk
