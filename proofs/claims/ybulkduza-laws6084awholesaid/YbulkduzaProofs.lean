/-
  The row.
-/
import Derived.Test.YbulkduzaRows
import Derived.Test.YbulkduzaLaw
import Derived.ProofKit
import Derived.OpenShut
import Derived.ChangeOld
import Derived.Below
import Derived.Deep.Slices
import Derived.Deep.Strs
namespace Go.Proofs.Ybulkduza
open Go.ChangeShapes Go.WideShapes Go.ChangeAt Go.RowKit

theorem own : ownKnob Yba.prog.godebug = none := by kernel_rfl
theorem laidOut : laidOutB Yba.prog = true := by kernel_rfl
theorem cells33 : Yba.prog.cellsOf 33 = 3 := by kernel_rfl
theorem cells5 : Yba.prog.cellsOf 5 = 1 := by kernel_rfl
theorem cells21 : Yba.prog.cellsOf 21 = 1 := by kernel_rfl

set_option maxRecDepth 100000 in
set_option maxHeartbeats 1000000 in
/-- More than 1<<20 entries: true at once. -/
theorem law_big (sh : Int) (a : Option Addr) (len cap : Nat) (w : World) (h : 1048576 < len) :
    Calls Yba.prog 3 #[.int .u8 sh, .slice a len cap] w fun e w' => e = .returned (.bool true) ∧ Below w.heap.size w w' := by
  go_enter Yba.func3, Yba.ntmps3
  go_wp2
  go_ret
  exact ⟨rfl, Below.refl _ _⟩

theorem wf_u8 {m : Int} (h : (Lit.int .u8 m).wf = true) : 0 ≤ m ∧ m < 256 := by
  have e0 : IntKind.u8.min = 0 := by decide
  have e1 : IntKind.u8.max = 255 := by decide
  simp [Lit.wf, e0, e1] at h
  omega
theorem wf_i32 {m : Int} (h : (Lit.int .i32 m).wf = true) : -2147483648 ≤ m ∧ m < 2147483648 := by
  have e0 : IntKind.i32.min = -2147483648 := by decide
  have e1 : IntKind.i32.max = 2147483647 := by decide
  simp [Lit.wf, e0, e1] at h
  omega
theorem first_of {cs : List Value} {o : Nat} {v : Value} (h : (cs.drop o).take 1 = [v]) : cs[o]? = some v := by
  have : ((cs.drop o).take 1)[0]? = some v := by rw [h]; rfl
  rw [List.getElem?_take_of_lt (by omega), List.getElem?_drop] at this
  simpa using this

section
variable {H : Type} {enc : TypeId × Value → H} {w : World} {base : Nat} {spare : Nat → Bool} {held : Bool} {fuel : Nat} {x : DataW H × List MemPlace}
theorem slice_ents {ao : Option Addr} {n cp : Nat} (h : DataW.trod enc Yba.prog w base spare held fuel 22 [.slice ao n cp] = some x) :
    ∃ X Y Z : Nat → Int, ∀ i, i < n → ∃ b off, ao = some ⟨b, off, none⟩ ∧ w.cell? ⟨b, off + i * 3, none⟩ = some (.int .u8 (X i)) ∧ w.cell? ⟨b, off + i * 3 + 1, none⟩ = some (.int .u8 (Y i)) ∧ w.cell? ⟨b, off + i * 3 + 2, none⟩ = some (.int .i32 (Z i)) ∧ 0 ≤ X i ∧ 0 ≤ Y i ∧ -2147483648 ≤ Z i ∧ Z i < 2147483648 := by
  rcases Nat.eq_zero_or_pos n with rfl | h0
  · exact ⟨fun _ => 0, fun _ => 0, fun _ => 0, fun i hi => by omega⟩
  rcases Deep.open_slice Yba.underlying22 h with ⟨hcs, _⟩ | ⟨a, l, c, m, k, D, Pl, hcs, _, hl, hm, hmm, _, hel⟩
  · simp at hcs; omega
  simp at hcs
  obtain ⟨rfl, rfl, rfl⟩ := hcs
  have hlm : n ≤ m := by rw [hmm]; split <;> omega
  have raw : ∀ i, i < n → ∃ q : Int × Int × Int, w.cell? ((a.add (i * 3)).add 0) = some (.int .u8 q.1) ∧ w.cell? ((a.add (i * 3)).add 1) = some (.int .u8 q.2.1) ∧ w.cell? ((a.add (i * 3)).add 2) = some (.int .i32 q.2.2) ∧ 0 ≤ q.1 ∧ 0 ≤ q.2.1 ∧ -2147483648 ≤ q.2.2 ∧ q.2.2 < 2147483648 := by
    intro i hi
    obtain ⟨cs, h1, h2⟩ := hel i (by omega)
    rw [cells33] at h1
    obtain ⟨_, hlen, hcell⟩ := World.cells?_some h1
    obtain ⟨y0, y1, y2, k', _, hl', g0, g1, g2⟩ := Deep.trod_struct3 Yba.underlying33 h2
    simp only [cells5, cells21] at g0 g1 g2
    obtain ⟨n0, e0, _, w0⟩ := DataW.trod_int Yba.underlying5 g0
    obtain ⟨n1, e1, _, w1⟩ := DataW.trod_int Yba.underlying5 g1
    obtain ⟨n2, e2, _, w2⟩ := DataW.trod_int Yba.underlying21 g2
    have b0 := wf_u8 w0
    have b1 := wf_u8 w1
    have b2 := wf_i32 w2
    exact ⟨(n0, n1, n2), (hcell 0 (by omega)).trans (first_of e0), (hcell 1 (by omega)).trans (first_of e1), (hcell 2 (by omega)).trans (first_of e2), b0.1, b1.1, b2.1, b2.2⟩
  obtain ⟨b, off, spot⟩ := a
  have hspot : spot = none := by
    obtain ⟨q, c0, _⟩ := raw 0 h0
    simpa [Addr.add] using World.cell?_spot c0
  subst hspot
  have each : ∀ i, i < n → ∃ q : Int × Int × Int, ∃ b' off', some (⟨b, off, none⟩ : Addr) = some ⟨b', off', none⟩ ∧ w.cell? ⟨b', off' + i * 3, none⟩ = some (.int .u8 q.1) ∧ w.cell? ⟨b', off' + i * 3 + 1, none⟩ = some (.int .u8 q.2.1) ∧ w.cell? ⟨b', off' + i * 3 + 2, none⟩ = some (.int .i32 q.2.2) ∧ 0 ≤ q.1 ∧ 0 ≤ q.2.1 ∧ -2147483648 ≤ q.2.2 ∧ q.2.2 < 2147483648 := by
    intro i hi
    obtain ⟨q, c0, c1, c2, r⟩ := raw i hi
    rw [Addr.add_lit, Addr.add_lit] at c0 c1 c2
    exact ⟨q, b, off, rfl, c0, c1, c2, r⟩
  obtain ⟨q, hq⟩ := Deep.choose_lt each
  exact ⟨fun i => (q i).1, fun i => (q i).2.1, fun i => (q i).2.2, hq⟩
end

theorem law_any (sh : Int) (a : Option Addr) (len cap : Nat) (X Y Z : Nat → Int) (w : World) (hsh : 0 ≤ sh ∧ sh < 256)
    (hc : ∀ i, i < len → ∃ b off, a = some ⟨b, off, none⟩ ∧ w.cell? ⟨b, off + i * 3, none⟩ = some (.int .u8 (X i)) ∧ w.cell? ⟨b, off + i * 3 + 1, none⟩ = some (.int .u8 (Y i)) ∧ w.cell? ⟨b, off + i * 3 + 2, none⟩ = some (.int .i32 (Z i)) ∧ 0 ≤ X i ∧ 0 ≤ Y i ∧ -2147483648 ≤ Z i ∧ Z i < 2147483648) :
    Calls Yba.prog 3 #[.int .u8 sh, .slice a len cap] w fun e w' => e = .returned (.bool true) ∧ Below w.heap.size w w' := by
  by_cases hbig : 1048576 < len
  · exact law_big sh a len cap w hbig
  · exact law_main sh a len cap X Y Z w hsh (by omega) hc

set_option maxRecDepth 100000 in
theorem lifted (os : Os) (started : os.Started) (H : Type) (enc : TypeId × Value → H) :
    ReturnsInHanded {} Yba.checked os 3 .any (Rows.lawS6084AWholeSpec.pre6 enc Yba.prog Yba.f3 Rows.lawS6084AWholeRow.domain false) (Rows.lawS6084AWholeSpec.post enc Yba.prog Yba.f3 false true false false) := by
  refine returnsInHanded_of_change (C := Yba.checked) own started (by kernel_rfl) Yba.func3
    (ChangeSpec.witness6 (enc := enc) (C := Yba.checked) false ⟨#[], #[.int .u8 0, .slice none 0 0], []⟩ 8 (by kernel_rfl) (by kernel_rfl) (by kernel_rfl) (by kernel_rfl)) ?_
  intro W base args ds gs before hval0 hW hcnd _
  have hval : ∀ (j : Nat) t v, Yba.f3.params[j]? = some t → args[j]? = some v → Value.okWide Yba.prog W .any base t v := hval0
  have hW' := hW
  obtain ⟨p, q, hA0, hV, rfl, hfz, hnd⟩ := hW
  have hA : DataW.TrodAll enc Yba.prog W 0 (fun _ => true) true Yba.f3.params.toList args.toList ds p := hA0
  rw [Yba.params3] at hA hval
  obtain ⟨v0, vs0, d0, ds0, p0, q0, hargs, rfl, rfl, h0, r0⟩ := trodAll_cons hA
  obtain ⟨v1, vs1, d1, ds1, p1, q1, rfl, rfl, rfl, h1, r1⟩ := trodAll_cons r0
  obtain ⟨rfl, rfl, rfl⟩ := trodAll_nil r1
  obtain rfl : args = #[v0, v1] := by cases args; simp_all
  obtain ⟨rfl, rfl⟩ := trodVars_none hV
  obtain ⟨x0, rfl⟩ := okWide_int Yba.underlying5 (hval 0 5 v0 rfl rfl)
  obtain ⟨a1, len1, cap1, rfl⟩ := okWide_slice Yba.underlying22 (hval 1 22 v1 rfl rfl)
  have k0 := h0
  have lt0 : ∀ x ∈ p0, x.block < W.heap.size := by obtain ⟨m, hm⟩ := k0; exact DataW.trod_lt m _ _ _ hm
  have k1 := h1
  have lt1 : ∀ x ∈ p1, x.block < W.heap.size := by obtain ⟨m, hm⟩ := k1; exact DataW.trod_lt m _ _ _ hm
  obtain ⟨_, g0⟩ := h0
  obtain ⟨_, g1⟩ := h1
  obtain ⟨n0, e0, _, w0⟩ := DataW.trod_int Yba.underlying5 g0
  simp [Value.cells] at e0
  subst e0
  obtain ⟨X, Y, Z, hc⟩ := slice_ents g1
  clear hA0 hval0
  refine (law_any x0 a1 len1 cap1 X Y Z W (wf_u8 w0) hc).mono fun e W' ⟨he, bel⟩ => ?_
  subst he
  exact ⟨_, rfl, _, _, _, [], _, [], hW', trodAll_mk1 (shut_bool Yba.underlying4 _), (trodAll_cons_mk (Below.trod laidOut (by kernel_rfl) (of_decide_eq_true (by kernel_rfl)) k0 bel lt0) (trodAll_cons_mk (Below.trod laidOut (by kernel_rfl) (of_decide_eq_true (by kernel_rfl)) k1 bel lt1) trodAll_mk0)), rfl, bel.frame _, fun h => by cases h⟩

theorem over : Rows.lawS6084AWholeRow.holds Yba.pinned (OpenSpec.ofChange Rows.lawS6084AWholeSpec) :=
  OpenClaim.holds_of_wide 3 Yba.f3 rfl rfl rfl rfl rfl rfl rfl ⟨rfl, rfl, rfl, rfl, rfl⟩ rfl rfl rfl rfl rfl (by kernel_rfl) Yba.func3 (by kernel_rfl)
    (of_decide_eq_true (by kernel_rfl)) (by unfold Func.isWrapper; first | (rw [if_pos (by decide +kernel)]; kernel_rfl) | (rw [if_neg (by decide +kernel)]; exact ⟨rfl, rfl⟩))
    (fun os started H enc _ => lifted os started H enc)

/-- ████ THE STATEMENT ████ -/
theorem lawS6084AWhole_proved : Rows.LawS6084AWholeSaid := over

end Go.Proofs.Ybulkduza
