import Derived.Test.YbulkduwiRows
import Derived.Test.YbulkduwiLaw2
import Derived.Test.YbulkduwiOpen
import Derived.ProofKit
import Derived.OpenShut
import Derived.ChangeOld
import Derived.Below
namespace Go.Proofs.Ybulkduwi
open Go.ChangeShapes Go.WideShapes Go.ChangeAt Go.RowKit

theorem own : ownKnob Yba.prog.godebug = none := by kernel_rfl

set_option maxRecDepth 100000 in
set_option maxHeartbeats 1000000 in
/-- More than 1<<20 entries: true at once. -/
theorem law_big (ep pl : Int) (hd pr : Array Value) (nm : Int) (n cp : Nat) (ao : Option Addr) (hp : Bool) (sel na : Int) (an : Bool) (w : World) (h : 1048576 < n) :
    Calls Yba.prog 3 #[.int .u64 ep, .int .u64 pl, .agg hd, .int .u16 nm, .slice ao n cp, .bool hp, .int .u8 sel, .agg pr, .int .u16 na, .bool an] w fun e w' => e = .returned (.bool true) ∧ Below w.heap.size w w' := by
  go_enter Yba.func3, Yba.ntmps3
  go_wp2
  go_ret
  exact ⟨rfl, ((Below.refl _ _).alloc (Nat.le_refl _) _).alloc (by simp) _⟩

theorem arr_of_cell {w : World} {b j : Nat} {v : Value} (h : w.cell? ⟨b, j, none⟩ = some v) : (arr w b)[j]? = some v := by
  unfold World.cell? at h
  unfold arr
  split at h <;> simp_all

/-- One Accepted's cells. -/
def Acc (a : Array Value) : Prop := a.size = 34 ∧ U64 a 0 ∧ U64 a 1 ∧ U8s a 2 32

theorem Acc.int {a : Array Value} (h : Acc a) {k : Nat} (hk : k < 34) : ∃ q m, a[k]? = some (.int q m) := by
  obtain ⟨_, ⟨m0, h0, _⟩, ⟨m1, h1, _⟩, h2⟩ := h
  by_cases k0 : k = 0
  · exact ⟨_, _, by rw [k0]; exact h0⟩
  by_cases k1 : k = 1
  · exact ⟨_, _, by rw [k1]; exact h1⟩
  obtain ⟨m, hm, _⟩ := h2 (k - 2) (by omega)
  rw [show 2 + (k - 2) = k by omega] at hm
  exact ⟨_, _, hm⟩

theorem ones_src {src : Array Value} {n : Nat} (hs : src.size = n * 34) (h : ∀ i, i < n → Acc (cut src (i * 34) 34)) : Ones src := fun t v hv => by
  have ht := (Array.getElem?_eq_some_iff.1 hv).1
  have hi : t / 34 < n := by omega
  obtain ⟨q, m, hm⟩ := (h _ hi).int (k := t % 34) (by omega)
  rw [get_cut _ _ _ _ (by omega) (by omega), show t / 34 * 34 + t % 34 = t by omega, hv] at hm
  cases hm
  rfl

theorem ones_u8s {a : Array Value} {n : Nat} (hs : a.size = n) (h : U8s a 0 n) : Ones a := fun t v hv => by
  have ht := (Array.getElem?_eq_some_iff.1 hv).1
  obtain ⟨m, hm, _⟩ := h t (by omega)
  rw [Nat.zero_add, hv] at hm
  cases hm
  rfl
theorem ones_pr {a : Array Value} (hs : a.size = 66) (h0 : U64 a 0) (h1 : U64 a 1) (h2 : U8s a 2 32) (h3 : U8s a 34 32) : Ones a := fun t v hv => by
  have ht := (Array.getElem?_eq_some_iff.1 hv).1
  by_cases k0 : t = 0
  · obtain ⟨m, hm, _⟩ := h0; rw [k0, hm] at hv; cases hv; rfl
  by_cases k1 : t = 1
  · obtain ⟨m, hm, _⟩ := h1; rw [k1, hm] at hv; cases hv; rfl
  by_cases k2 : t < 34
  · obtain ⟨m, hm, _⟩ := h2 (t - 2) (by omega); rw [show 2 + (t - 2) = t by omega, hv] at hm; cases hm; rfl
  · obtain ⟨m, hm, _⟩ := h3 (t - 34) (by omega); rw [show 34 + (t - 34) = t by omega, hv] at hm; cases hm; rfl

section
variable {H : Type} {enc : TypeId × Value → H} {w : World} {base : Nat} {spare : Nat → Bool} {held : Bool} {fuel : Nat} {x : DataW H × List MemPlace}
theorem slice_src {ao : Option Addr} {n cp : Nat} (h : DataW.trod enc Yba.prog w base spare held fuel 26 [.slice ao n cp] = some x) :
    ∃ src, Src w ao n src ∧ src.size = n * 34 ∧ ∀ i, i < n → Acc (cut src (i * 34) 34) := by
  rcases Nat.eq_zero_or_pos n with rfl | h0
  · exact ⟨#[], .inl ⟨rfl, rfl⟩, rfl, fun i hi => by omega⟩
  rcases Deep.open_slice Yba.underlying26 h with ⟨hcs, _⟩ | ⟨a, l, c, m, k, D, Pl, hcs, _, hl, hm, hmm, _, hel⟩
  · simp at hcs; omega
  simp at hcs
  obtain ⟨rfl, rfl, rfl⟩ := hcs
  have hlm : n ≤ m := by rw [hmm]; split <;> omega
  simp only [cells56] at hel
  have cellAt : ∀ i, i < n → ∃ cs : List Value, Acc cs.toArray ∧ ∀ j, j < 34 → w.cell? ((a.add (i * 34)).add j) = cs[j]? := fun i hi => by
    obtain ⟨cs, h1, h2⟩ := hel i (by omega)
    obtain ⟨q1, q2, q3, q4⟩ := open56 h2
    exact ⟨cs, ⟨by simpa using q1, q2, q3, q4⟩, fun j hj => (World.cells?_some h1).2.2 j hj⟩
  obtain ⟨b, off, spot⟩ := a
  have hspot : spot = none := by
    obtain ⟨cs, q, hc⟩ := cellAt 0 h0
    obtain ⟨kk, mm, hv⟩ := q.int (k := 0) (by omega)
    have hc0 := hc 0 (by omega)
    rw [show cs[0]? = some (.int kk mm) by simpa using hv] at hc0
    simpa [Addr.add] using World.cell?_spot hc0
  subst hspot
  have at_ : ∀ i, i < n → ∃ cs : List Value, Acc cs.toArray ∧ ∀ j, j < 34 → (arr w b)[off + i * 34 + j]? = cs.toArray[j]? := fun i hi => by
    obtain ⟨cs, q, hc⟩ := cellAt i hi
    refine ⟨cs, q, fun j hj => ?_⟩
    obtain ⟨kk, mm, hv⟩ := q.int hj
    have hcj := hc j hj
    rw [show cs[j]? = some (.int kk mm) by simpa using hv, Addr.add_lit, Addr.add_lit] at hcj
    rw [hv]
    exact arr_of_cell hcj
  have hsz : off + n * 34 ≤ (arr w b).size := by
    obtain ⟨cs, q, hc⟩ := at_ (n - 1) (by omega)
    obtain ⟨kk, mm, hv⟩ := q.int (k := 33) (by omega)
    have := hc 33 (by omega)
    rw [hv] at this
    have := (Array.getElem?_eq_some_iff.1 this).1
    omega
  have hlt : b < w.heap.size := by
    obtain ⟨cs, q, hc⟩ := cellAt 0 h0
    obtain ⟨kk, mm, hv⟩ := q.int (k := 0) (by omega)
    have hc0 := hc 0 (by omega)
    rw [show cs[0]? = some (.int kk mm) by simpa using hv] at hc0
    exact World.block_lt_of_cell? w _ hc0
  refine ⟨cut (arr w b) off (n * 34), .inr ⟨b, off, rfl, hlt, hsz, rfl⟩, size_cut _ _ _ hsz, fun i hi => ?_⟩
  obtain ⟨cs, q, hc⟩ := at_ i hi
  rw [cut_cut _ _ _ _ _ hsz (by omega)]
  have : cut (arr w b) (off + i * 34) 34 = cs.toArray := by
    have e := cut_all cs.toArray 34 q.1
    rw [← e]
    exact cut_congr (by omega) (by rw [q.1]; omega) (fun j hj => by rw [hc j hj, Nat.zero_add])
  rw [this]
  exact q
end

theorem law_any (ep pl : Int) (hd pr src : Array Value) (nm : Int) (n cp : Nat) (ao : Option Addr) (hp : Bool) (sel na : Int) (an : Bool) (w : World) (wnm : (Lit.int .u16 nm).wf = true) (wna : (Lit.int .u16 na).wf = true) (wsel : (Lit.int .u8 sel).wf = true)
    (hhs : hd.size = 32) (hu : U8s hd 0 32) (hps : pr.size = 66) (h0 : U64 pr 0) (h1 : U64 pr 1) (h2 : U8s pr 2 32) (h3 : U8s pr 34 32) (hsrc : Src w ao n src) (hss : src.size = n * 34) (hacc : ∀ i, i < n → Acc (cut src (i * 34) 34)) :
    Calls Yba.prog 3 #[.int .u64 ep, .int .u64 pl, .agg hd, .int .u16 nm, .slice ao n cp, .bool hp, .int .u8 sel, .agg pr, .int .u16 na, .bool an] w fun e w' => e = .returned (.bool true) ∧ Below w.heap.size w w' := by
  by_cases hbig : 1048576 < n
  · exact law_big ep pl hd pr nm n cp ao hp sel na an w hbig
  have b1 := bounds_u16 wnm
  have b2 := bounds_u16 wna
  have b3 := bounds_u8 wsel
  obtain ⟨nm, rfl⟩ := Int.eq_ofNat_of_zero_le b1.1
  obtain ⟨na, rfl⟩ := Int.eq_ofNat_of_zero_le b2.1
  have hpr1 := ones_pr hps h0 h1 h2 h3
  have c2 := u8s_cut h2 (by omega)
  have c3 := u8s_cut h3 (by omega)
  have s2 : (cut pr 2 32).size = 32 := size_cut _ _ _ (by omega)
  have s3 : (cut pr 34 32).size = 32 := size_cut _ _ _ (by omega)
  obtain ⟨p0, e0, w0⟩ := h0
  obtain ⟨p1, e1, w1⟩ := h1
  obtain ⟨lg, le, hlg, hle⟩ : ∃ lg le : Int, (0 < n → src[(n - 1) * 34]? = some (.int .u64 lg)) ∧ (0 < n → src[(n - 1) * 34 + 1]? = some (.int .u64 le)) := by
    by_cases hn : 0 < n
    · obtain ⟨_, ⟨lg, q0, _⟩, ⟨le, q1, _⟩, _⟩ := hacc (n - 1) (by omega)
      rw [get_cut _ _ _ _ (by omega) (by omega)] at q0 q1
      exact ⟨lg, le, fun _ => q0, fun _ => q1⟩
    · exact ⟨0, 0, fun h => absurd h hn, fun h => absurd h hn⟩
  exact law_all ep pl hd pr src nm n cp ao hp sel na an p0 p1 lg le w (by omega) (by omega) (by omega) hhs (ones_u8s hhs hu) hps hpr1 (by omega) (by omega) hsrc hss (ones_src hss hacc) e0 e1 hlg hle
    (neq24 hd hhs hu) (neq24 _ s2 c2) (neq24 _ s3 c3) (fun i hi => neq56 _ (hacc i hi).1 (hacc i hi).2.1 (hacc i hi).2.2.1 (hacc i hi).2.2.2)
    (fun k pA hk hb => nq58 p0 _ _ _ k pA w0 (wf_wrap _ _) s2 s3 (ones_u8s s2 c2) (ones_u8s s3 c3) c2 c3 hk hb)

theorem okWide_arr {W : World} {r : Reach} {base : Nat} {v : Value} (h : Value.okWide Yba.prog W r base 24 v) : ∃ cs, v = .agg cs ∧ cs.size = 32 := by
  unfold Value.okWide at h
  rw [Yba.underlying24] at h
  obtain ⟨cs, rfl, hs, _⟩ := h
  exact ⟨cs, rfl, hs.trans cells24⟩

set_option maxRecDepth 100000 in
theorem lifted (os : Os) (started : os.Started) (H : Type) (enc : TypeId × Value → H) :
    ReturnsInHanded {} Yba.checked os 3 .any (Rows.lawS6079BWholeSpec.pre6 enc Yba.prog Yba.f3 Rows.lawS6079BWholeRow.domain false) (Rows.lawS6079BWholeSpec.post enc Yba.prog Yba.f3 false true false false) := by
  refine returnsInHanded_of_change (C := Yba.checked) own started (by kernel_rfl) Yba.func3
    (ChangeSpec.witness6 (enc := enc) (C := Yba.checked) false ⟨#[], #[.int .u64 0, .int .u64 0, .agg (Array.replicate 32 (.int .u8 0)), .int .u16 0, .slice none 0 0, .bool false, .int .u8 0, .agg (#[.int .u64 0, .int .u64 0] ++ Array.replicate 64 (.int .u8 0)), .int .u16 0, .bool true], []⟩ 8 (by kernel_rfl) (by kernel_rfl) (by kernel_rfl) (by kernel_rfl)) ?_
  intro W base args ds gs before hval0 hW hcnd _
  have hval : ∀ (j : Nat) t v, Yba.f3.params[j]? = some t → args[j]? = some v → Value.okWide Yba.prog W .any base t v := hval0
  have hW' := hW
  obtain ⟨p, q, hA0, hV, rfl, hfz, hnd⟩ := hW
  have hA : DataW.TrodAll enc Yba.prog W 0 (fun _ => true) true Yba.f3.params.toList args.toList ds p := hA0
  rw [Yba.params3] at hA hval
  obtain ⟨v0, vs0, d0, ds0, p0, q0, hargs, rfl, rfl, h0, r0⟩ := trodAll_cons hA
  obtain ⟨v1, vs1, d1, ds1, p1, q1, rfl, rfl, rfl, h1, r1⟩ := trodAll_cons r0
  obtain ⟨v2, vs2, d2, ds2, p2, q2, rfl, rfl, rfl, h2, r2⟩ := trodAll_cons r1
  obtain ⟨v3, vs3, d3, ds3, p3, q3, rfl, rfl, rfl, h3, r3⟩ := trodAll_cons r2
  obtain ⟨v4, vs4, d4, ds4, p4, q4, rfl, rfl, rfl, h4, r4⟩ := trodAll_cons r3
  obtain ⟨v5, vs5, d5, ds5, p5, q5, rfl, rfl, rfl, h5, r5⟩ := trodAll_cons r4
  obtain ⟨v6, vs6, d6, ds6, p6, q6, rfl, rfl, rfl, h6, r6⟩ := trodAll_cons r5
  obtain ⟨v7, vs7, d7, ds7, p7, q7, rfl, rfl, rfl, h7, r7⟩ := trodAll_cons r6
  obtain ⟨v8, vs8, d8, ds8, p8, q8, rfl, rfl, rfl, h8, r8⟩ := trodAll_cons r7
  obtain ⟨v9, vs9, d9, ds9, p9, q9, rfl, rfl, rfl, h9, r9⟩ := trodAll_cons r8
  obtain ⟨rfl, rfl, rfl⟩ := trodAll_nil r9
  obtain rfl : args = #[v0, v1, v2, v3, v4, v5, v6, v7, v8, v9] := by cases args; simp_all
  obtain ⟨rfl, rfl⟩ := trodVars_none hV
  obtain ⟨x0, rfl⟩ := okWide_int Yba.underlying22 (hval 0 22 v0 rfl rfl)
  obtain ⟨x1, rfl⟩ := okWide_int Yba.underlying22 (hval 1 22 v1 rfl rfl)
  obtain ⟨x2, rfl, s2⟩ := okWide_arr (hval 2 24 v2 rfl rfl)
  obtain ⟨x3, rfl⟩ := okWide_int Yba.underlying25 (hval 3 25 v3 rfl rfl)
  obtain ⟨a4, len4, cap4, rfl⟩ := okWide_slice Yba.underlying26 (hval 4 26 v4 rfl rfl)
  obtain ⟨x5, rfl⟩ := okWide_bool Yba.underlying4 (hval 5 4 v5 rfl rfl)
  obtain ⟨x6, rfl⟩ := okWide_int Yba.underlying5 (hval 6 5 v6 rfl rfl)
  obtain ⟨x7, rfl, s7⟩ := okWide_struct Yba.underlying28 (hval 7 28 v7 rfl rfl)
  obtain ⟨x8, rfl⟩ := okWide_int Yba.underlying25 (hval 8 25 v8 rfl rfl)
  obtain ⟨x9, rfl⟩ := okWide_bool Yba.underlying4 (hval 9 4 v9 rfl rfl)
  have k0 := h0
  have lt0 : ∀ x ∈ p0, x.block < W.heap.size := by obtain ⟨m, hm⟩ := k0; exact DataW.trod_lt m _ _ _ hm
  have k1 := h1
  have lt1 : ∀ x ∈ p1, x.block < W.heap.size := by obtain ⟨m, hm⟩ := k1; exact DataW.trod_lt m _ _ _ hm
  have k2 := h2
  have lt2 : ∀ x ∈ p2, x.block < W.heap.size := by obtain ⟨m, hm⟩ := k2; exact DataW.trod_lt m _ _ _ hm
  have k3 := h3
  have lt3 : ∀ x ∈ p3, x.block < W.heap.size := by obtain ⟨m, hm⟩ := k3; exact DataW.trod_lt m _ _ _ hm
  have k4 := h4
  have lt4 : ∀ x ∈ p4, x.block < W.heap.size := by obtain ⟨m, hm⟩ := k4; exact DataW.trod_lt m _ _ _ hm
  have k5 := h5
  have lt5 : ∀ x ∈ p5, x.block < W.heap.size := by obtain ⟨m, hm⟩ := k5; exact DataW.trod_lt m _ _ _ hm
  have k6 := h6
  have lt6 : ∀ x ∈ p6, x.block < W.heap.size := by obtain ⟨m, hm⟩ := k6; exact DataW.trod_lt m _ _ _ hm
  have k7 := h7
  have lt7 : ∀ x ∈ p7, x.block < W.heap.size := by obtain ⟨m, hm⟩ := k7; exact DataW.trod_lt m _ _ _ hm
  have k8 := h8
  have lt8 : ∀ x ∈ p8, x.block < W.heap.size := by obtain ⟨m, hm⟩ := k8; exact DataW.trod_lt m _ _ _ hm
  have k9 := h9
  have lt9 : ∀ x ∈ p9, x.block < W.heap.size := by obtain ⟨m, hm⟩ := k9; exact DataW.trod_lt m _ _ _ hm
  obtain ⟨_, g2⟩ := h2
  obtain ⟨_, g3⟩ := h3
  obtain ⟨_, g4⟩ := h4
  obtain ⟨_, g6⟩ := h6
  obtain ⟨_, g7⟩ := h7
  obtain ⟨_, g8⟩ := h8
  obtain ⟨n3, e3, _, w3⟩ := DataW.trod_int Yba.underlying25 g3
  obtain ⟨n6, e6, _, w6⟩ := DataW.trod_int Yba.underlying5 g6
  obtain ⟨n8, e8, _, w8⟩ := DataW.trod_int Yba.underlying25 g8
  simp [Value.cells] at e3 e6 e8
  subst e3 e6 e8
  have o2 : U8s x2 0 32 := fun k hk => by
    obtain ⟨m, hm, hw⟩ := (open24 g2).2 k hk
    exact ⟨m, by simpa [Value.cells] using hm, hw⟩
  obtain ⟨_, o0, o1, o3, o4⟩ := open28 g7
  obtain ⟨src, hs1, hs2, hs3⟩ := slice_src g4
  clear hA0 hval0
  refine (law_any x0 x1 x2 x7 src x3 len4 cap4 a4 x5 x6 x8 x9 W w3 w8 w6 s2 o2 (s7.trans cells28) o0 o1 o3 o4 hs1 hs2 hs3).mono fun e W' ⟨he, bel⟩ => ?_
  subst he
  exact ⟨_, rfl, _, _, _, [], _, [], hW', trodAll_mk1 (shut_bool Yba.underlying4 _), (trodAll_cons_mk (Below.trod laidOut (by kernel_rfl) (of_decide_eq_true (by kernel_rfl)) k0 bel lt0) (trodAll_cons_mk (Below.trod laidOut (by kernel_rfl) (of_decide_eq_true (by kernel_rfl)) k1 bel lt1) (trodAll_cons_mk (Below.trod laidOut (by kernel_rfl) (of_decide_eq_true (by kernel_rfl)) k2 bel lt2) (trodAll_cons_mk (Below.trod laidOut (by kernel_rfl) (of_decide_eq_true (by kernel_rfl)) k3 bel lt3) (trodAll_cons_mk (Below.trod laidOut (by kernel_rfl) (of_decide_eq_true (by kernel_rfl)) k4 bel lt4) (trodAll_cons_mk (Below.trod laidOut (by kernel_rfl) (of_decide_eq_true (by kernel_rfl)) k5 bel lt5) (trodAll_cons_mk (Below.trod laidOut (by kernel_rfl) (of_decide_eq_true (by kernel_rfl)) k6 bel lt6) (trodAll_cons_mk (Below.trod laidOut (by kernel_rfl) (of_decide_eq_true (by kernel_rfl)) k7 bel lt7) (trodAll_cons_mk (Below.trod laidOut (by kernel_rfl) (of_decide_eq_true (by kernel_rfl)) k8 bel lt8) (trodAll_cons_mk (Below.trod laidOut (by kernel_rfl) (of_decide_eq_true (by kernel_rfl)) k9 bel lt9) trodAll_mk0)))))))))), rfl, bel.frame _, fun h => by cases h⟩

theorem over : Rows.lawS6079BWholeRow.holds Yba.pinned (OpenSpec.ofChange Rows.lawS6079BWholeSpec) :=
  OpenClaim.holds_of_wide 3 Yba.f3 rfl rfl rfl rfl rfl rfl rfl ⟨rfl, rfl, rfl, rfl, rfl⟩ rfl rfl rfl rfl rfl (by kernel_rfl) Yba.func3 (by kernel_rfl)
    (of_decide_eq_true (by kernel_rfl)) (by unfold Func.isWrapper; first | (rw [if_pos (by decide +kernel)]; kernel_rfl) | (rw [if_neg (by decide +kernel)]; exact ⟨rfl, rfl⟩))
    (fun os started H enc _ => lifted os started H enc)

/-- ████ THE STATEMENT ████ -/
theorem lawS6079BWhole_proved : Rows.LawS6079BWholeSaid := over

end Go.Proofs.Ybulkduwi
