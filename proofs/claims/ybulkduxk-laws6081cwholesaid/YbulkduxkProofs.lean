import Derived.Test.YbulkduxkRows
import Derived.Test.YbulkduxkLaw
import Derived.Test.YbulkduxkEdge
import Derived.ProofKit
import Derived.OpenShut
import Derived.ChangeOld
import Derived.Below
import Derived.Deep.SlicePairs
namespace Go.Proofs.Ybulkduxk
open Go.ChangeShapes Go.WideShapes Go.ChangeAt Go.RowKit

theorem own : ownKnob Yba.prog.godebug = none := by kernel_rfl
theorem laidOut : laidOutB Yba.prog = true := by kernel_rfl

/-- WHAT THE WALK IS TOLD OF THE SLICE THAT CAME IN: it is nil; or its elements' cells are strings. -/
def IsVars (w : World) (a : Option Addr) (len cap : Nat) (nm vl : Nat → ByteArray) : Prop :=
  (a = none ∧ len = 0 ∧ cap = 0) ∨
  ∃ x, a = some x ∧ ∀ i, i < len → w.cell? (x.add (i * 2)) = some (.string (nm i)) ∧ w.cell? (x.add (i * 2 + 1)) = some (.string (vl i))

theorem law_any (a : Option Addr) (len cap : Nat) (nm vl : Nat → ByteArray) (w : World) (h : IsVars w a len cap nm vl) :
    Calls Yba.prog 3 #[.slice a len cap] w fun e w' => e = .returned (.bool true) ∧ Below w.heap.size w w' := by
  by_cases hbig : 1048576 < len
  · exact law_big a len cap w hbig
  · rcases h with ⟨rfl, rfl, rfl⟩ | ⟨x, rfl, hc⟩
    · exact law_nil w
    · by_cases h0 : 0 < len
      · obtain ⟨b, off, spot⟩ := x
        have hspot : spot = none := by simpa [Addr.add] using World.cell?_spot (hc 0 h0).1
        subst hspot
        exact law_some b off len cap nm vl w h0 (by omega) (fun i hi => by
          have := hc i hi
          rw [add_plain, add_plain, ← Nat.add_assoc] at this
          exact this)
      · obtain rfl : len = 0 := by omega
        exact law_empty x cap w

set_option maxRecDepth 100000 in
theorem lifted (os : Os) (started : os.Started) (H : Type) (enc : TypeId × Value → H) :
    ReturnsInHanded {} Yba.checked os 3 .any (Rows.lawS6081CWholeSpec.pre6 enc Yba.prog Yba.f3 Rows.lawS6081CWholeRow.domain false) (Rows.lawS6081CWholeSpec.post enc Yba.prog Yba.f3 false true false false) := by
  refine returnsInHanded_of_change (C := Yba.checked) own started (by kernel_rfl) Yba.func3
    (ChangeSpec.witness6 (enc := enc) (C := Yba.checked) false ⟨#[], #[.slice none 0 0], []⟩ 8 (by kernel_rfl) (by kernel_rfl) (by kernel_rfl) (by kernel_rfl)) ?_
  intro W base args ds gs before hval0 hW hcnd _
  have hval : ∀ (j : Nat) t v, Yba.f3.params[j]? = some t → args[j]? = some v → Value.okWide Yba.prog W .any base t v := hval0
  have hW' := hW
  obtain ⟨p, q, hA0, hV, rfl, hfz, hnd⟩ := hW
  have hA : DataW.TrodAll enc Yba.prog W 0 (fun _ => true) true Yba.f3.params.toList args.toList ds p := hA0
  rw [Yba.params3] at hA hval
  obtain ⟨v0, vs0, d0, ds0, p0, q0, hargs, rfl, rfl, h0, r0⟩ := trodAll_cons hA
  obtain ⟨rfl, rfl, rfl⟩ := trodAll_nil r0
  obtain rfl : args = #[v0] := by cases args; simp_all
  obtain ⟨rfl, rfl⟩ := trodVars_none hV
  obtain ⟨a0, len0, cap0, rfl⟩ := okWide_slice Yba.underlying22 (hval 0 22 v0 rfl rfl)
  have k0 := h0
  have lt0 : ∀ x ∈ p0, x.block < W.heap.size := by obtain ⟨m, hm⟩ := k0; exact DataW.trod_lt m _ _ _ hm
  obtain ⟨nm, vl, w0⟩ : ∃ nm vl, IsVars W a0 len0 cap0 nm vl := by
    obtain ⟨fuel, hf⟩ := h0
    rcases Deep.open_slice_pairs Yba.underlying22 Yba.underlying28 (by kernel_rfl) rfl rfl (by kernel_rfl) (by kernel_rfl) hf with ⟨hcs, _⟩ | ⟨x, l, c, m, n, V0, V1, D0, D1, P0, P1, hcs, _, hl, hm, hmm, _, hcell⟩
    · simp [Value.cells] at hcs
      obtain ⟨rfl, rfl, rfl⟩ := hcs
      exact ⟨fun _ => ByteArray.empty, fun _ => ByteArray.empty, .inl ⟨rfl, rfl, rfl⟩⟩
    · simp [Value.cells] at hcs
      obtain ⟨rfl, rfl, rfl⟩ := hcs
      have hlm : len0 ≤ m := by rw [hmm]; simp; omega
      have str : ∀ i, i < len0 → ∃ q : ByteArray × ByteArray, V0 i = .string q.1 ∧ V1 i = .string q.2 := by
        intro i hi
        obtain ⟨_, _, g0, g1⟩ := hcell i (by omega)
        obtain ⟨s0, e0, _⟩ := DataW.trod_string Yba.underlying9 g0
        obtain ⟨s1, e1, _⟩ := DataW.trod_string Yba.underlying9 g1
        exact ⟨(s0, s1), by simpa using e0, by simpa using e1⟩
      obtain ⟨q, hq⟩ := Deep.choose_lt str
      refine ⟨fun i => (q i).1, fun i => (q i).2, .inr ⟨x, rfl, fun i hi => ?_⟩⟩
      obtain ⟨c0, c1, _, _⟩ := hcell i (by omega)
      rw [(hq i hi).1] at c0
      rw [(hq i hi).2] at c1
      exact ⟨c0, c1⟩
  clear hA0 hval0
  refine (law_any a0 len0 cap0 nm vl W w0).mono fun e W' ⟨he, bel⟩ => ?_
  subst he
  exact ⟨_, rfl, _, _, _, [], _, [], hW', trodAll_mk1 (shut_bool Yba.underlying4 _), (trodAll_cons_mk (Below.trod laidOut (by kernel_rfl) (of_decide_eq_true (by kernel_rfl)) k0 bel lt0) trodAll_mk0), rfl, bel.frame _, fun h => by cases h⟩

theorem over : Rows.lawS6081CWholeRow.holds Yba.pinned (OpenSpec.ofChange Rows.lawS6081CWholeSpec) :=
  OpenClaim.holds_of_wide 3 Yba.f3 rfl rfl rfl rfl rfl rfl rfl ⟨rfl, rfl, rfl, rfl, rfl⟩ rfl rfl rfl rfl rfl (by kernel_rfl) Yba.func3 (by kernel_rfl)
    (of_decide_eq_true (by kernel_rfl)) (by unfold Func.isWrapper; first | (rw [if_pos (by decide +kernel)]; kernel_rfl) | (rw [if_neg (by decide +kernel)]; exact ⟨rfl, rfl⟩))
    (fun os started H enc _ => lifted os started H enc)

/-- ████ THE STATEMENT ████ -/
theorem lawS6081CWhole_proved : Rows.LawS6081CWholeSaid := over

end Go.Proofs.Ybulkduxk
