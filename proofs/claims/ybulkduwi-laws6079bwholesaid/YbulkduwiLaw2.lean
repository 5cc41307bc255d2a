import Derived.Lib.Builder
import Derived.BigQuiet
import Derived.Deep.CutBlock
import Derived.Test.YbulkduwiCopy
import Derived.Test.YbulkduwiMade
import Derived.Deep.DeepCutAuto
import Derived.Deep.LoopGhost
namespace Go.Proofs.Ybulkduwi
open Go.RowKit
attribute [local go_sem ↓] exec_load24 exec_store24 exec_load53 exec_store53 exec_load56 exec_store56 exec_load58 exec_store58 exec_build36 exec_build44 exec_build49 exec_build53 exec_build56 exec_build58
attribute [local go_sem] run_load24 run_load53 run_load56 run_load58 run_store24 run_store53 run_store56 run_store58 arr_new arr_old arr_drew arr_drewN rowOk_new rowOk_old rowOk_drew rowOk_drewN setRow_new setRow_old setRow_drew setRow_drewN alloc_drewN setCell_drewN run_len29 run_len38 mOk_drew mlen_drew mOk_drewN mlen_drewN

theorem facts4 {w w4 : World} {hd pr : Array Value} {p0 p1 : Int} (B : Below (w.heap.size + 1 + 1) ((w.alloc (.cells hd 24)).alloc (.cells pr 28)) w4) (h0 : pr[0]? = some (.int .u64 p0)) (h1 : pr[1]? = some (.int .u64 p1)) :
    arr w4 w.heap.size = hd ∧ arr w4 (w.heap.size + 1) = pr ∧ w4.cell? ⟨w.heap.size + 1, 0, none⟩ = some (.int .u64 p0) ∧ w4.cell? ⟨w.heap.size + 1, 1, none⟩ = some (.int .u64 p1) := by
  have a1 : arr w4 w.heap.size = hd := by rw [arr_below B (by omega), arr_old _ _ _ (by simp), arr_new _ _ _ _ rfl]
  have a2 : arr w4 (w.heap.size + 1) = pr := by rw [arr_below B (by omega), arr_new _ _ _ _ (by simp)]
  refine ⟨a1, a2, ?_, ?_⟩
  · rw [arr_cell _ _ _ (by rw [a2]; exact (Array.getElem?_eq_some_iff.1 h0).1), a2, h0]
  · rw [arr_cell _ _ _ (by rw [a2]; exact (Array.getElem?_eq_some_iff.1 h1).1), a2, h1]

theorem cell_new (w : World) (c : Array Value) (t : TypeId) (S j : Nat) (v : Value) (hS : S = w.heap.size) (h : c[j]? = some v) : (w.alloc (.cells c t)).cell? ⟨S, j, none⟩ = some v := by
  have e := arr_new w c t S hS
  rw [arr_cell _ _ _ (by rw [e]; exact (Array.getElem?_eq_some_iff.1 h).1), e, h]
theorem made_mk {hd pr src sA : Array Value} {ep pl pe p0 : Int} {n nm nA : Nat} {ao : Option Addr} {hp : Bool} {HD PB M G : Nat} {am : Option Nat} {pv : Option Addr} {w4 w5 : World}
    (hss : src.size = n * 34) (lM : M < w4.heap.size) (oM : mOk w4 (some M)) (nM : mlen w4 (some M) = nm) (lA : ∀ b, am = some b → b < w4.heap.size) (oA : mOk w4 am) (hnA : mlen w4 am = nA)
    (hG : w4.heap[G]? = some (.cells src 56 (0, 0))) (lH : HD < w4.heap.size) (aH : arr w4 HD = hd) (lP : PB < w4.heap.size) (aP : arr w4 PB = pr) (cP : w4.cell? ⟨PB, 0, none⟩ = some (.int .u64 p0)) (hsc : Src w4 ao n src)
    (hE : (hp = false ∧ pv = none ∧ w5 = w4) ∨ (hp = true ∧ pv = some ⟨w4.heap.size, 0, none⟩ ∧ ∃ eA, w5 = w4.alloc (.cells eA 44) ∧ eA.size = 489 ∧ eA[389]? = some (.int .u64 p0) ∧ eA[390]? = some (.int .u64 pe) ∧ cut eA 391 32 = cut pr 2 32 ∧ cut eA 99 32 = cut pr 34 32))
    (sS : sA.size = 108) (s98 : sA[98]? = some (.int .u64 ep)) (s100 : sA[100]? = some (.int .u64 pl)) (sh : cut sA 1 32 = hd) (s101 : sA[101]? = some (.map (some M))) (s104 : sA[104]? = some (.slice (some ⟨G, 0, none⟩) n n))
    (s106 : sA[106]? = some (.pointer pv)) (s107 : sA[107]? = some (.map am)) :
    Made hd pr src ep pl pe p0 n nm nA ao hp HD PB M G w5.heap.size am pv (w5.alloc (.cells sA 49)) := by
  have hB5 : Below w4.heap.size w4 w5 := by
    rcases hE with ⟨_, _, rfl⟩ | ⟨_, _, eA, rfl, _⟩
    · exact Below.refl _ _
    · exact (Below.refl _ _).alloc (Nat.le_refl _) _
  have hB : Below w4.heap.size w4 (w5.alloc (.cells sA 49)) := hB5.alloc hB5.size _
  have up : ∀ {x}, x < w4.heap.size → x < (w5.alloc (.cells sA 49)).heap.size := fun hx => Nat.lt_of_lt_of_le hx hB.size
  have m1 := m_below hB oM (fun b e => by cases e; exact lM)
  have m2 := m_below hB oA lA
  have lG := (Array.getElem?_eq_some_iff.1 hG).1
  have aS := arr_new w5 sA 49 _ rfl
  refine ⟨by simp, by rw [aS]; exact sS, by rw [aS]; exact sh, cell_new _ _ _ _ _ _ rfl s98, cell_new _ _ _ _ _ _ rfl s100, cell_new _ _ _ _ _ _ rfl s101, cell_new _ _ _ _ _ _ rfl s104, cell_new _ _ _ _ _ _ rfl s106, cell_new _ _ _ _ _ _ rfl s107, up lM, m1.1, m1.2.trans nM, fun b e => up (lA b e), m2.1, m2.2.trans hnA,
    up lG, by rw [arr_below hB lG]; exact arr_of _ _ _ _ _ hG, hss, up lH, by rw [arr_below hB lH]; exact aH, up lP, by rw [arr_below hB lP]; exact aP, (hB.cell lP).trans cP, ?_, hsc.below hB (Nat.le_refl _)⟩
  rcases hE with ⟨h1, h2, rfl⟩ | ⟨h1, h2, eA, rfl, h3, h4, h5, h6, h7⟩
  · exact .inl ⟨h1, h2⟩
  · have l5 : w4.heap.size < (w4.alloc (.cells eA 44)).heap.size := by simp
    have aE : arr ((w4.alloc (.cells eA 44)).alloc (.cells sA 49)) w4.heap.size = eA := by rw [arr_old _ _ _ l5, arr_new _ _ _ _ rfl]
    have ce : ∀ j v, eA[j]? = some v → ((w4.alloc (.cells eA 44)).alloc (.cells sA 49)).cell? ⟨w4.heap.size, j, none⟩ = some v := fun j v h => by
      rw [arr_cell _ _ _ (by rw [aE]; exact (Array.getElem?_eq_some_iff.1 h).1), aE, h]
    exact .inr ⟨h1, _, h2, by simp; omega, by rw [aE]; exact h3, ce _ _ h4, ce _ _ h5, by rw [aE]; exact h6, by rw [aE]; exact h7⟩
theorem get_of {a : Array Value} {i : Nat} {v : Value} (h : a[i]? = some v) : ∀ h' : i < a.size, a[i] = v := fun _ => (Array.getElem?_eq_some_iff.1 h).2
/-- '^x' on an unsigned word, under a name of its own. -/
def rowXor (v : Value) : Sem Value := Op.unary .xor v
def xorOf (n : Int) : Int := IntKind.u64.wrap ((BitVec.ofInt IntKind.u64.bits IntKind.u64.max ^^^ BitVec.ofInt IntKind.u64.bits n).toNat : Int)
section
variable (ρ : Operand → Value) (dst : Option Tmp) (x : Operand) (ty : TypeId) (pos : String) (after : Array Edge) (guard : Option (Nat × Bool))
theorem exec_xor22 : execOp ρ { dst, op := .unOp .xor 22 x, type := ty, pos, after, guard } = (do pure (.value (← rowXor (ρ x)))) := rfl
end
theorem run_xor (n : Int) (W : World) : (rowXor (.int .u64 n)).run Yba.prog W = .ok (.int .u64 (xorOf n)) W := rfl
attribute [local go_sem ↓] exec_xor22
attribute [local go_sem] run_xor
theorem cell_setRow (w : World) (C : Nat) (c : Array Value) (x j : Nat) (h : x ≠ C) : (w.setRow C c).cell? ⟨x, j, none⟩ = w.cell? ⟨x, j, none⟩ := World.cell?_of_block (w := w) (setRow_other w C x c (by omega))
theorem below_setRow {B C : Nat} {a w : World} (h : Below B a w) (hC : B ≤ C) (c : Array Value) : Below B a (w.setRow C c) :=
  h.trans ⟨rfl, rfl, rfl, by simp, fun k hk => setRow_other w C k _ (by omega)⟩
attribute [local go_sem] cell_setRow
theorem meet38 {wm w6 : World} {stF oA la : Array Value} {C k : Nat} (h : Below wm.heap.size wm w6) (hC : wm.heap.size ≤ C) (hCh : w6.heap[C]? = some (.cells la 56 (0, 0))) :
    Below wm.heap.size wm (((w6.setRow C oA).alloc (.cells stF 53)).drewN k) ∧ w6.heap.size < (((w6.setRow C oA).alloc (.cells stF 53)).drewN k).heap.size ∧ arr (((w6.setRow C oA).alloc (.cells stF 53)).drewN k) w6.heap.size = stF ∧
      ∀ (F : Nat) (pA : Array Value), w6.heap[F]? = some (.cells pA 58 (0, 0)) → (((w6.setRow C oA).alloc (.cells stF 53)).drewN k).heap[F]? = some (.cells pA 58 (0, 0)) := by
  refine ⟨below_drewN ((below_setRow h hC oA).alloc (by have := h.size; simpa using this) _) _, by simp, by rw [arr_drewN]; exact arr_new _ _ _ _ (by simp), fun F pA hF => ?_⟩
  have hne : F ≠ C := by rintro rfl; rw [hF] at hCh; simp at hCh
  rw [World.heap_drewN, Below.heap_alloc _ _ _ (by have := (Array.getElem?_eq_some_iff.1 hF).1; simpa using this), setRow_other _ _ _ _ hne]
  exact hF
theorem wrap_i64 (x : Int) (h0 : 0 ≤ x) (h1 : x < 1048577) : IntKind.i64.wrap x = x := by
  have e : x % (2 ^ 64 : Int) = x := Int.emod_eq_of_lt h0 (by omega)
  show (if (true && decide (x % (2 ^ 64 : Int) ≥ (2 ^ 63 : Int))) = true then x % (2 ^ 64 : Int) - 2 ^ 64 else x % (2 ^ 64 : Int)) = x
  rw [e, if_neg]
  simp; omega
theorem neq_ptr (W : World) (E : Nat) : (binOp .neq 39 (.pointer (some ⟨E, 0, none⟩)) (.pointer (some ⟨E, 0, none⟩))).run Yba.prog W = .ok (.bool false) W := by
  obtain ⟨j, hj⟩ := Option.isSome_iff_exists.1 (show (Yba.prog.info? 44).isSome = true by kernel_rfl)
  exact Go.Lib.run_neq_ptr_same (P := Yba.prog) W ⟨E, 0, none⟩ Yba.underlying39 hj
set_option maxRecDepth 100000 in
set_option maxHeartbeats 2000000 in
theorem law_all (ep pl : Int) (hd pr src : Array Value) (nm n cp : Nat) (ao : Option Addr) (hp : Bool) (sel : Int) (na : Nat) (an : Bool) (p0 p1 lg le : Int) (w : World) (hnm : nm < 65536) (hna : na < 65536) (hn : n ≤ 1048576)
    (hhs : hd.size = 32) (hh1 : Ones hd) (hps : pr.size = 66) (hpr1 : Ones pr) (hs0 : 0 ≤ sel) (hs1 : sel ≤ 255) (hsrc : Src w ao n src) (hss : src.size = n * 34) (hsr1 : Ones src) (hp0 : pr[0]? = some (.int .u64 p0)) (hp1 : pr[1]? = some (.int .u64 p1))
    (hlg : 0 < n → src[(n - 1) * 34]? = some (.int .u64 lg)) (hle : 0 < n → src[(n - 1) * 34 + 1]? = some (.int .u64 le))
    (nq : ∀ W, (binOp .neq 24 (.agg hd) (.agg hd)).run Yba.prog W = .ok (.bool false) W)
    (nqc : ∀ W, (binOp .neq 24 (.agg (cut pr 2 32)) (.agg (cut pr 2 32))).run Yba.prog W = .ok (.bool false) W)
    (nqm : ∀ W, (binOp .neq 24 (.agg (cut pr 34 32)) (.agg (cut pr 34 32))).run Yba.prog W = .ok (.bool false) W)
    (nq56 : ∀ i, i < n → ∀ W, (binOp .neq 56 (.agg (cut src (i * 34) 34)) (.agg (cut src (i * 34) 34))).run Yba.prog W = .ok (.bool false) W)
    (nq58 : ∀ (k : Nat) (pA : Array Value), k < 65536 → (∀ W, (rowBuild 58 #[(0, .int .u64 p0), (1, .int .u64 (IntKind.u64.wrap (ep + 1))), (2, .agg (cut pr 2 32)), (3, .agg (cut pr 34 32)), (4, .int .i64 k)]).run Yba.prog W = .ok (.agg pA) W) → ∀ W, (binOp .neq 58 (.agg pA) (.agg pA)).run Yba.prog W = .ok (.bool false) W) :
    Calls Yba.prog 3 #[.int .u64 ep, .int .u64 pl, .agg hd, .int .u16 nm, .slice ao n cp, .bool hp, .int .u8 sel, .agg pr, .int .u16 na, .bool an] w fun e w' => e = .returned (.bool true) ∧ Below w.heap.size w w' := by
  obtain ⟨kl, hkl, hinj⟩ := key_lits
  obtain ⟨f36, h36⟩ := build36
  have hmm := @run_makeMap Yba.prog
  have HI : Hid (∀ i j, i < 65536 → j < 65536 → kl i = kl j → i = j) := hinj
  have HK : Hid (∀ i, i < 65536 → keyOf Yba.prog 24 (.agg (karr i)) = some (kl i)) := hkl
  clear hinj hkl
  go_enter Yba.func3, Yba.ntmps3
  go_wp2_with fail
  go_loopw [22] (fun i wr => ∃ k : Nat, k ≤ nm ∧ i = .int .i64 k ∧ Fills kl wr (w.heap.size + 1 + 1) k ∧ Below (w.heap.size + 1 + 1) ((w.alloc (.cells hd 24)).alloc (.cells pr 28)) wr) (fun i _ => nm - (intOf i).toNat)
  case atStart => exact ⟨0, by omega, rfl, fills_made kl _ _ (by simp), (Below.refl _ _).alloc (by simp) _⟩
  case round =>
    obtain ⟨k, hk, rfl, hF, hB⟩ := hrel
    by_cases hlt : k < nm
    · have hlt1 := hF.lt
      go_wp2_with (first
        | (go_at_call 4; refine (key_any k (by omega) _).mono ?_; rintro e w1 ⟨rfl, hb1⟩; have hF1 := hF.below hb1 hlt1; have hlt2 := hb1.size)
        | (at_mapUpdate; refine wpList_fill rfl _ _ _ 29 36 rfl Yba.underlying29 kl HK.out HI.out (w.heap.size + 1 + 1) k (by omega) rfl rfl hF1 ?_; intro w2 hF2 hg2))
      have R : Below (w.heap.size + 1 + 1) ((w.alloc (.cells hd 24)).alloc (.cells pr 28)) w2 := (hB.trans (hb1.mono (by omega))).grown hg2 (by omega) (fun j hj => by cases hj; exact Nat.le_refl _)
      go_roundw
      case rel => exact ⟨k + 1, by omega, by go_num, hF2, R⟩
      case measure => simp [intOf]; omega
    · obtain rfl : k = nm := by omega
      go_upto_if 53 with fail
      go_cut [23, 24] from 51 to 62 (fun t23 t24 wc => ∃ (nA : Nat) (am : Option Nat), t23 = .int .i64 nA ∧ t24 = .map am ∧ mOk wc am ∧ mlen wc am = nA ∧ nA < 65536 ∧ Fills kl wc (w.heap.size + 1 + 1) k ∧ Below (w.heap.size + 1 + 1) ((w.alloc (.cells hd 24)).alloc (.cells pr 28)) wc)
      case first =>
        cases an
        · obtain ⟨wo, rfl⟩ : ∃ wo : World, wo = wr := ⟨_, rfl⟩
          go_wp2_with fail
          go_loopw [25] (fun i wq => ∃ j : Nat, j ≤ na ∧ i = .int .i64 j ∧ Fills kl wq wo.heap.size j ∧ Below wo.heap.size wo wq) (fun i _ => na - (intOf i).toNat)
          case atStart => exact ⟨0, by omega, rfl, fills_made kl _ _ rfl, (Below.refl _ _).alloc (Nat.le_refl _) _⟩
          case round =>
            obtain ⟨j, hj, rfl, hF', hB'⟩ := hrel
            by_cases hlt : j < na
            · have hlt1 := hF'.lt
              go_wp2_with (first
                | (go_at_call 4; refine (key_any j (by omega) _).mono ?_; rintro e w1 ⟨rfl, hb1⟩; have hF1 := hF'.below hb1 hlt1; have hlt2 := hb1.size)
                | (at_mapUpdate; refine wpList_fill rfl _ _ _ 38 4 rfl Yba.underlying38 kl HK.out HI.out wo.heap.size j (by omega) rfl rfl hF1 ?_; intro w2 hF2 hg2))
              have R : Below wo.heap.size wo w2 := (hB'.trans (hb1.mono (by omega))).grown hg2 (by omega) (fun j hj => by cases hj; exact Nat.le_refl _)
              go_roundw
              case rel => exact ⟨j + 1, by omega, by go_num, hF2, R⟩
              case measure => simp [intOf]; omega
            · obtain rfl : j = na := by omega
              go_wp2
              go_meet
              case rel =>
                have hlw := hF.lt
                exact ⟨j, some wo.heap.size, rfl, rfl, hF'.len.1, hF'.len.2, by omega, hF.below hB' hlw, hB.trans (hB'.mono (by omega))⟩
        · go_wp2
          go_meet
          case rel => exact ⟨0, none, rfl, rfl, trivial, rfl, by omega, hF, hB⟩
      case rest =>
        obtain ⟨nA, am, rfl, rfl, ham, haml, hnA, hF2, hB2⟩ := hcut
        obtain ⟨w2, rfl⟩ : ∃ w2 : World, w2 = wc := ⟨_, rfl⟩
        clear hF hB hlt hk hmm h36
        have hz2 := hB2.size
        have hz3 : w.heap.size + 1 + 1 ≤ w2.heap.size := by simpa using hz2
        have hlM := hF2.lt
        have hsc : Src w2 ao n src := by
          refine Src.below (w := (w.alloc (.cells hd 24)).alloc (.cells pr 28)) ?_ hB2 (by simp)
          exact Src.below hsrc (B := w.heap.size) (((Below.refl _ _).alloc (Nat.le_refl _) _).alloc (by simp) _) (Nat.le_refl _)
        go_upto_block 4 with (first
          | (at_make; refine wpList_make56 rfl _ _ rfl n hn _ _ rfl rfl ?_; rintro w3 ⟨cur, hcu, hcs⟩ hB3)
          | (refine wpList_copy56_any rfl _ _ rfl w2.heap.size n n cp ao rfl rfl cur src hcu hcs (hsc.below hB3 (Nat.le_refl _)) hsr1 ?_; intro w4 hG hB4'; have hB24 := hB3.trans hB4'; have hB4 := hB2.trans (hB24.mono hz3); obtain ⟨aH, aP, cP0, cP1⟩ := facts4 hB4 hp0 hp1))
        have l4 := hB24.size
        have lG := (Array.getElem?_eq_some_iff.1 hG).1
        have hlen := hF2.len
        have amlt : ∀ b, am = some b → b < w2.heap.size := fun b e => by subst e; obtain ⟨es, c, hb⟩ := ham; exact (Array.getElem?_eq_some_iff.1 hb).1
        have M4 := m_below hB24 hlen.1 (fun b e => by cases e; exact hlM)
        have A4 := m_below hB24 ham amlt
        have S4 := hsc.below hB24 (Nat.le_refl _)
        clear hB3 hB4' hcu hcs hB2 hsc
        go_cut [27] from 63 to 79 (fun t27 wq => ∃ pe : Int, t27 = .int .u64 pe ∧ wq = w4)
        case first =>
          by_cases h0 : sel % 3 = 0
          · go_wp2
            go_meet
            case rel => exact ⟨_, rfl, rfl⟩
          · by_cases h1 : sel % 3 = 1
            · go_wp2
              go_meet
              case rel => exact ⟨_, rfl, rfl⟩
            · go_wp2
              go_meet
              case rel => exact ⟨_, rfl, rfl⟩
        case rest =>
        obtain ⟨pe, rfl, rfl⟩ := hcut
        obtain ⟨w4, rfl⟩ : ∃ w4 : World, w4 = wc := ⟨_, rfl⟩
        go_upto_if 80 with fail
        go_cut [28] from 80 to 89 (fun t28 wq => ∃ pv : Option Addr, t28 = .pointer pv ∧ ((hp = false ∧ pv = none ∧ wq = w4) ∨ (hp = true ∧ pv = some ⟨w4.heap.size, 0, none⟩ ∧ ∃ eA, wq = w4.alloc (.cells eA 44) ∧ eA.size = 489 ∧ eA[389]? = some (.int .u64 p0) ∧ eA[390]? = some (.int .u64 pe) ∧ cut eA 391 32 = cut pr 2 32 ∧ cut eA 99 32 = cut pr 34 32)))
        case first =>
          obtain ⟨f44, h44⟩ := build44
          obtain ⟨e1, e2, e3, e4, e5, e6, -⟩ := h44 p0 pe (cut pr 2 32) (cut pr 34 32) (size_cut _ _ _ (by omega)) (size_cut _ _ _ (by omega)) (hpr1.cut (by omega)) (hpr1.cut (by omega))
          cases hp
          · go_wp2
            go_meet
            case rel => exact ⟨none, rfl, .inl ⟨trivial, rfl, rfl⟩⟩
          · go_wp2
            go_meet
            case rel => exact ⟨_, rfl, .inr ⟨trivial, rfl, _, rfl, e2, e3, e4, e5, e6⟩⟩
        case rest =>
        obtain ⟨pv, rfl, hE⟩ := hcut
        obtain ⟨w5, rfl⟩ : ∃ w5 : World, w5 = wc := ⟨_, rfl⟩
        obtain ⟨f49, h49⟩ := build49
        obtain ⟨g1, g2, g3, g4, g5, g6, g7, g8, g9⟩ := h49 ep pl hd (.map (some (w.heap.size + 1 + 1))) (.slice (some ⟨w2.heap.size, 0, none⟩) n n) (.pointer pv) (.map am) hhs hh1 rfl rfl rfl rfl
        generalize f49 ep pl hd (.map (some (w.heap.size + 1 + 1))) (.slice (some ⟨w2.heap.size, 0, none⟩) n n) (.pointer pv) (.map am) = sA at g1 g2 g3 g4 g5 g6 g7 g8 g9
        have mk := made_mk (ep := ep) (pl := pl) (pe := pe) hss (by omega) M4.1 (M4.2.trans hlen.2) (fun b e => by have := amlt b e; omega) A4.1 (A4.2.trans haml) hG (by omega) aH (by omega) aP cP0 S4 hE g2 g3 g4 g5 g6 g7 g8 g9
        have aH5 : arr w5 w.heap.size = hd := by
          rcases hE with ⟨_, _, rfl⟩ | ⟨_, _, eA, rfl, _⟩
          · exact aH
          · rw [arr_old _ _ _ (by omega)]; exact aH
        have l45 : w4.heap.size ≤ w5.heap.size := by
          rcases hE with ⟨_, _, rfl⟩ | ⟨_, _, eA, rfl, _⟩
          · omega
          · simp
        have hB5 : Below w4.heap.size w4 w5 := by
          rcases hE with ⟨_, _, rfl⟩ | ⟨_, _, eA, rfl, _⟩
          · exact Below.refl _ _
          · exact (Below.refl _ _).alloc (Nat.le_refl _) _
        have HBs : w.heap.size ≤ (w5.alloc (.cells sA 49)).heap.size := by simp; omega
        have HB : Hid (Below w.heap.size w (w5.alloc (.cells sA 49))) :=
          (((((Below.refl _ _).alloc (Nat.le_refl _) _).alloc (by simp) _).trans (hB4.mono (by omega))).trans (hB5.mono (by omega))).alloc (by omega) _
        clear hB5
        have hcd : cut hd 0 32 = hd := cut_all _ _ hhs
        obtain ⟨z53, ⟨z53s, hz53, z531⟩, -, -⟩ := zero53
        clear hE h49 hF2 hlen M4 A4 S4 ham amlt aH aP cP0 cP1
        go_upto_if 123 with (first
          | (go_at_call 5; refine (status_any mk hn hhs hh1 hps hpr1 hsr1).mono ?_; rintro e w6 ⟨stF, c3, c4, rfl, t1, t2, t3, t4, t5, t6, t7, t8, t9, t10, t11⟩; have t3' := get_of t3; have t4' := get_of t4; have t5' := get_of t5; have t7' := get_of t7; have t8' := get_of t8; have mk6 := mk.below t11; have aH6 := mk6.aH; have lH6 := mk6.lH))
        go_upto_if 127 with fail
        go_cut [] from 90 to 163 (fun wq => Below (w5.alloc (.cells sA 49)).heap.size (w5.alloc (.cells sA 49)) wq ∧ w6.heap.size < wq.heap.size ∧ arr wq w6.heap.size = stF ∧ ∀ (F : Nat) (pA : Array Value), w6.heap[F]? = some (.cells pA 58 (0, 0)) → wq.heap[F]? = some (.cells pA 58 (0, 0)))
        case first =>
          have hTB : Below (w5.alloc (.cells sA 49)).heap.size (w5.alloc (.cells sA 49)) (w6.alloc (.cells stF 53)) := t11.alloc t11.size _
          have hFF : ∀ (F : Nat) (pA : Array Value), w6.heap[F]? = some (.cells pA 58 (0, 0)) → (w6.alloc (.cells stF 53)).heap[F]? = some (.cells pA 58 (0, 0)) := fun F pA h => (Below.heap_alloc _ _ _ (Array.getElem?_eq_some_iff.1 h).1).trans h
          rcases t9 with ⟨n0, rfl⟩ | ⟨n0, C, rfl, hC, hCh⟩
          · obtain rfl := n0
            go_wp2
            go_meet
            case rel => exact ⟨hTB, by simp, arr_new _ _ _ _ rfl, hFF⟩
          · have hbn : ((n : Int) == 0) = false := by simp; omega
            rcases mk.src with ⟨h0, _⟩ | ⟨b, off, rfl, lb, hbs, hbc⟩
            · omega
            have lb6 := Nat.lt_of_lt_of_le lb t11.size
            rw [← arr_below t11 lb] at hbs hbc
            have hbC : b ≠ C := by omega
            have lC := (Array.getElem?_eq_some_iff.1 hCh).1
            have aC := arr_of _ _ _ _ _ hCh
            have hsz : (n - 1) * 34 + 34 ≤ n * 34 := by omega
            have nql := nq56 (n - 1) (by omega)
            obtain ⟨la, hla⟩ : ∃ la, cut src ((n - 1) * 34) 34 = la := ⟨_, rfl⟩
            rw [hla] at aC hCh nql
            have las : la.size = 34 := by rw [← hla]; exact size_cut _ _ _ (by omega)
            have lac := cut_all la 34 las
            have hbl : cut (arr w6 b) (off + (n - 1) * 34) 34 = la := by rw [← hla, ← hbc, cut_cut _ _ _ _ _ hbs (by omega)]
            have hbz : off + (n - 1) * 34 + 34 ≤ (arr w6 b).size := by omega
            have lC1 : C < w6.heap.size + 1 := by omega
            go_upto_region 36 with fail
            go_quiet (fail)
            have clg : w6.cell? ⟨b, off + (n - 1) * 34, none⟩ = some (.int .u64 lg) := by
              rw [arr_cell _ _ _ (by omega), ← get_cut _ off (n * 34) _ hbs (by omega), hbc]; exact hlg n0
            have cle : w6.cell? ⟨b, off + (n - 1) * 34 + 1, none⟩ = some (.int .u64 le) := by
              rw [arr_cell _ _ _ (by omega), Nat.add_assoc, ← get_cut _ off (n * 34) _ hbs (by omega), hbc]; exact hle n0
            have rC : rowOk w6 C 34 := ⟨_, _, hCh, las⟩
            have hw1 : IntKind.i64.wrap ((n : Int) - 1) = (n : Int) - 1 := wrap_i64 _ (by omega) (by omega)
            have e1 : ((n : Int) - 1).toNat = n - 1 := by omega
            obtain ⟨f56, h56⟩ := build56
            obtain ⟨o1, o2, o3⟩ := h56 (xorOf lg) (xorOf le)
            generalize f56 (xorOf lg) (xorOf le) = oA at o1 o2 o3
            clear h56 hbl hbz nql lac hla nq56
            go_upto_region 38 with fail
            refine wp_region_held_drew (S := fun w' => w'.cell? ⟨w6.heap.size, 3, none⟩ = some (.pointer (some ⟨C, 0, none⟩)) ∧ w'.cell? ⟨b, off + (n - 1) * 34, none⟩ = some (.int .u64 lg) ∧ w'.cell? ⟨b, off + (n - 1) * 34 + 1, none⟩ = some (.int .u64 le)) (by kernel_rfl) ?_ (fun hHeld => ?_)
            · refine ⟨?_, ?_, ?_⟩ <;> go_simp
            refine wpAnyH_take (i := 0) (oi := { dst := some 146, op := .fieldAddr 53 (.tmp 30) 3, type := 0, pos := _, after := _, guard := _ }) (v := .pointer (some ⟨w6.heap.size, 3, none⟩)) rfl (by kernel_rfl) (by kernel_rfl) (by kernel_rfl) (fun _ _ _ h => h) (Or.inl ⟨by rfl, fun wS hSw => ?_⟩) (by assumption) ?_
            · clear hHeld; dsimp only at hSw; go_simp
            simp only [Act.put, List.setIfInBounds_toArray, List.set_cons_zero, List.set_cons_succ]
            refine wpAnyH_take (i := 1) (oi := { dst := some 147, op := .load 50 (.tmp 146), type := 50, pos := _, after := _, guard := _ }) (v := .pointer (some ⟨C, 0, none⟩)) rfl (by kernel_rfl) (by kernel_rfl) (by kernel_rfl) (fun _ _ _ h => h) (Or.inl ⟨by rfl, fun wS hSw => ?_⟩) (by assumption) ?_
            · clear hHeld; dsimp only at hSw; go_simp
            simp only [Act.put, List.setIfInBounds_toArray, List.set_cons_zero, List.set_cons_succ]
            refine wpAnyH_take (i := 2) (oi := { dst := some 148, op := .move (.tmp 4), type := 26, pos := _, after := _, guard := _ }) (v := .slice (some ⟨b, off, none⟩) n cp) rfl (by kernel_rfl) (by kernel_rfl) (by kernel_rfl) (fun _ _ _ h => h) (Or.inl ⟨by rfl, fun wS hSw => ?_⟩) (by assumption) ?_
            · clear hHeld; dsimp only at hSw; go_simp
            simp only [Act.put, List.setIfInBounds_toArray, List.set_cons_zero, List.set_cons_succ]
            refine wpAnyH_take (i := 3) (oi := { dst := some 149, op := .move (.tmp 31), type := 3, pos := _, after := _, guard := _ }) (v := .int .i64 n) rfl (by kernel_rfl) (by kernel_rfl) (by kernel_rfl) (fun _ _ _ h => h) (Or.inl ⟨by rfl, fun wS hSw => ?_⟩) (by assumption) ?_
            · clear hHeld; dsimp only at hSw; go_simp
            simp only [Act.put, List.setIfInBounds_toArray, List.set_cons_zero, List.set_cons_succ]
            refine wpAnyH_take (i := 4) (oi := { dst := some 150, op := .binOp .sub 3 (.tmp 149) (.const (.int .i64 1)) 3, type := 3, pos := _, after := _, guard := _ }) (v := .int .i64 ((n : Int) - 1)) rfl (by kernel_rfl) (by kernel_rfl) (by kernel_rfl) (fun _ _ _ h => h) (Or.inl ⟨by rfl, fun wS hSw => ?_⟩) (by assumption) ?_
            · clear hHeld; dsimp only at hSw; go_simp
            simp only [Act.put, List.setIfInBounds_toArray, List.set_cons_zero, List.set_cons_succ]
            refine wpAnyH_take (i := 5) (oi := { dst := some 151, op := .indexAddr 26 (.tmp 148) (.tmp 150), type := 0, pos := _, after := _, guard := _ }) (v := .pointer (some ⟨b, off + (n - 1) * 34, none⟩)) rfl (by kernel_rfl) (by kernel_rfl) (by kernel_rfl) (fun _ _ _ h => h) (Or.inl ⟨by rfl, fun wS hSw => ?_⟩) (by assumption) ?_
            · clear hHeld; dsimp only at hSw; go_simp; intro hx; exfalso; omega
            simp only [Act.put, List.setIfInBounds_toArray, List.set_cons_zero, List.set_cons_succ]
            refine wpAnyH_take (i := 6) (oi := { dst := some 152, op := .fieldAddr 56 (.tmp 151) 0, type := 0, pos := _, after := _, guard := _ }) (v := .pointer (some ⟨b, off + (n - 1) * 34, none⟩)) rfl (by kernel_rfl) (by kernel_rfl) (by kernel_rfl) (fun _ _ _ h => h) (Or.inl ⟨by rfl, fun wS hSw => ?_⟩) (by assumption) ?_
            · clear hHeld; dsimp only at hSw; go_simp
            simp only [Act.put, List.setIfInBounds_toArray, List.set_cons_zero, List.set_cons_succ]
            refine wpAnyH_take (i := 7) (oi := { dst := some 153, op := .load 22 (.tmp 152), type := 22, pos := _, after := _, guard := _ }) (v := .int .u64 lg) rfl (by kernel_rfl) (by kernel_rfl) (by kernel_rfl) (fun _ _ _ h => h) (Or.inl ⟨by rfl, fun wS hSw => ?_⟩) (by assumption) ?_
            · clear hHeld; dsimp only at hSw; go_simp
            simp only [Act.put, List.setIfInBounds_toArray, List.set_cons_zero, List.set_cons_succ]
            refine wpAnyH_take (i := 8) (oi := { dst := some 154, op := .unOp .xor 22 (.tmp 153), type := 22, pos := _, after := _, guard := _ }) (v := .int .u64 (xorOf lg)) rfl (by kernel_rfl) (by kernel_rfl) (by kernel_rfl) (fun _ _ _ h => h) (Or.inl ⟨by rfl, fun wS hSw => ?_⟩) (by assumption) ?_
            · clear hHeld; dsimp only at hSw; go_simp
            simp only [Act.put, List.setIfInBounds_toArray, List.set_cons_zero, List.set_cons_succ]
            refine wpAnyH_take (i := 9) (oi := { dst := some 155, op := .move (.tmp 4), type := 26, pos := _, after := _, guard := _ }) (v := .slice (some ⟨b, off, none⟩) n cp) rfl (by kernel_rfl) (by kernel_rfl) (by kernel_rfl) (fun _ _ _ h => h) (Or.inl ⟨by rfl, fun wS hSw => ?_⟩) (by assumption) ?_
            · clear hHeld; dsimp only at hSw; go_simp
            simp only [Act.put, List.setIfInBounds_toArray, List.set_cons_zero, List.set_cons_succ]
            refine wpAnyH_take (i := 10) (oi := { dst := some 156, op := .move (.tmp 31), type := 3, pos := _, after := _, guard := _ }) (v := .int .i64 n) rfl (by kernel_rfl) (by kernel_rfl) (by kernel_rfl) (fun _ _ _ h => h) (Or.inl ⟨by rfl, fun wS hSw => ?_⟩) (by assumption) ?_
            · clear hHeld; dsimp only at hSw; go_simp
            simp only [Act.put, List.setIfInBounds_toArray, List.set_cons_zero, List.set_cons_succ]
            refine wpAnyH_take (i := 11) (oi := { dst := some 157, op := .binOp .sub 3 (.tmp 156) (.const (.int .i64 1)) 3, type := 3, pos := _, after := _, guard := _ }) (v := .int .i64 ((n : Int) - 1)) rfl (by kernel_rfl) (by kernel_rfl) (by kernel_rfl) (fun _ _ _ h => h) (Or.inl ⟨by rfl, fun wS hSw => ?_⟩) (by assumption) ?_
            · clear hHeld; dsimp only at hSw; go_simp
            simp only [Act.put, List.setIfInBounds_toArray, List.set_cons_zero, List.set_cons_succ]
            refine wpAnyH_take (i := 12) (oi := { dst := some 158, op := .indexAddr 26 (.tmp 155) (.tmp 157), type := 0, pos := _, after := _, guard := _ }) (v := .pointer (some ⟨b, off + (n - 1) * 34, none⟩)) rfl (by kernel_rfl) (by kernel_rfl) (by kernel_rfl) (fun _ _ _ h => h) (Or.inl ⟨by rfl, fun wS hSw => ?_⟩) (by assumption) ?_
            · clear hHeld; dsimp only at hSw; go_simp; intro hx; exfalso; omega
            simp only [Act.put, List.setIfInBounds_toArray, List.set_cons_zero, List.set_cons_succ]
            refine wpAnyH_take (i := 13) (oi := { dst := some 159, op := .fieldAddr 56 (.tmp 158) 1, type := 0, pos := _, after := _, guard := _ }) (v := .pointer (some ⟨b, off + (n - 1) * 34 + 1, none⟩)) rfl (by kernel_rfl) (by kernel_rfl) (by kernel_rfl) (fun _ _ _ h => h) (Or.inl ⟨by rfl, fun wS hSw => ?_⟩) (by assumption) ?_
            · clear hHeld; dsimp only at hSw; go_simp
            simp only [Act.put, List.setIfInBounds_toArray, List.set_cons_zero, List.set_cons_succ]
            refine wpAnyH_take (i := 14) (oi := { dst := some 160, op := .load 22 (.tmp 159), type := 22, pos := _, after := _, guard := _ }) (v := .int .u64 le) rfl (by kernel_rfl) (by kernel_rfl) (by kernel_rfl) (fun _ _ _ h => h) (Or.inl ⟨by rfl, fun wS hSw => ?_⟩) (by assumption) ?_
            · clear hHeld; dsimp only at hSw; go_simp
            simp only [Act.put, List.setIfInBounds_toArray, List.set_cons_zero, List.set_cons_succ]
            refine wpAnyH_take (i := 15) (oi := { dst := some 161, op := .unOp .xor 22 (.tmp 160), type := 22, pos := _, after := _, guard := _ }) (v := .int .u64 (xorOf le)) rfl (by kernel_rfl) (by kernel_rfl) (by kernel_rfl) (fun _ _ _ h => h) (Or.inl ⟨by rfl, fun wS hSw => ?_⟩) (by assumption) ?_
            · clear hHeld; dsimp only at hSw; go_simp
            simp only [Act.put, List.setIfInBounds_toArray, List.set_cons_zero, List.set_cons_succ]
            refine wpAnyH_take (i := 16) (oi := { dst := some 162, op := .build 56 #[(0, .tmp 154), (1, .tmp 161)], type := 56, pos := _, after := _, guard := _ }) (v := .agg oA) rfl (by kernel_rfl) (by kernel_rfl) (by kernel_rfl) (fun _ _ _ h => h) (Or.inl ⟨by rfl, fun wS hSw => ?_⟩) (by assumption) ?_
            · clear hHeld; dsimp only at hSw; go_simp
            simp only [Act.put, List.setIfInBounds_toArray, List.set_cons_zero, List.set_cons_succ]
            refine wpAnyH_take (i := 17) (oi := { dst := some 163, op := .nilCheck (.tmp 147), type := 0, pos := _, after := _, guard := _ }) (v := .pointer (some ⟨C, 0, none⟩)) rfl (by kernel_rfl) (by kernel_rfl) (by kernel_rfl) (fun _ _ _ h => h) (Or.inl ⟨by rfl, fun wS hSw => ?_⟩) (by assumption) ?_
            · clear hHeld; dsimp only at hSw; go_simp
            simp only [Act.put, List.setIfInBounds_toArray, List.set_cons_zero, List.set_cons_succ]
            have hTC : w6.heap.size ≠ C := by omega
            refine wpAnyH_ready (rs := [18]) (by kernel_rfl) (by simp) ?_
            refine AllReadyH.cons (o := { dst := none, op := .store 56 (.tmp 163) (.tmp 162), type := _, pos := _, after := _, guard := _ }) rfl (fun K hK => ?_) AllReadyH.nil
            go_simp
            refine hK.out _ _ ?_ (fun hHeld2 => ?_)
            · refine ⟨?_, ?_, ?_⟩ <;> go_simp
            clear hK K hHeld hHeld2
            refine wpAnyH_done (by kernel_rfl) ?_ _
            go_wp2
            go_meet
            case rel => exact meet38 t11 hC hCh
        case rest =>
        obtain ⟨hB7, lT7, aT7, hF7⟩ := hcut
        obtain ⟨w7, rfl⟩ : ∃ w7 : World, w7 = wc := ⟨_, rfl⟩
        have mk7 := mk.below hB7
        go_upto_region 39 with fail
        go_cut [32] from 164 to 170 (fun t32 wq => ∃ u : Bool, t32 = .bool u ∧ wq = w7 ∧ (u = true ↔ (hp = true ∧ (pe != IntKind.u64.wrap (ep + 1)) = false)))
        case first =>
          cases hp
          · go_wp2
            go_meet
            case rel => exact ⟨_, rfl, rfl, by simp⟩
          · go_wp2
            go_meet
            case rel => exact ⟨_, rfl, rfl, by simp⟩
        case rest =>
        obtain ⟨u, rfl, rfl, hup⟩ := hcut
        obtain ⟨w7, rfl⟩ : ∃ w7 : World, w7 = wc := ⟨_, rfl⟩
        go_upto_if 171 with fail
        go_cut [] from 171 to 194 (fun wq => Below (w5.alloc (.cells sA 49)).heap.size (w5.alloc (.cells sA 49)) wq)
        case first =>
          have hcell : ∀ j v, stF[j]? = some v → w7.cell? ⟨w6.heap.size, j, none⟩ = some v := fun j v h => by rw [arr_cell _ _ _ (by rw [aT7]; exact (Array.getElem?_eq_some_iff.1 h).1), aT7, h]
          have cT4 := hcell 4 _ t8
          clear hcell t8' t7' t3' t4' t5'
          rcases t10 with ⟨hu, rfl⟩ | ⟨rfl, hu, F, pA, rfl, hFl, hFh, hb58⟩
          · obtain rfl : u = false := by
              cases u with
              | false => rfl
              | true =>
                obtain ⟨q1, q2⟩ := hup.1 rfl
                rcases hu with hu | hu
                · rw [q1] at hu; cases hu
                · rw [q2] at hu; cases hu
            clear aT7 hup t9
            go_wp2
            go_meet
            case rel => exact hB7
          · obtain rfl : u = true := hup.2 ⟨rfl, hu⟩
            have nqp := nq58 nA pA hnA (by rw [← (show pe = IntKind.u64.wrap (ep + 1) by simpa using hu)]; exact hb58)
            obtain ⟨pA', p1, p2, p3⟩ := B58 p0 pe (cut pr 2 32) (cut pr 34 32) nA (size_cut _ _ _ (by omega)) (size_cut _ _ _ (by omega)) (hpr1.cut (by omega)) (hpr1.cut (by omega))
            obtain rfl : pA' = pA := by
              have := (p1 w).symm.trans (hb58 w)
              simpa using this
            obtain ⟨z58, z58s, hz58, z581⟩ := zero58
            have pac := cut_all pA' 67 p2
            have hF7' := hF7 F pA' hFh
            have aF7 := arr_of _ _ _ _ _ hF7'
            have lF7 := (Array.getElem?_eq_some_iff.1 hF7').1
            have aP7 := mk7.aP
            have cP7 := mk7.cP
            have lP7 := mk7.lP
            clear nq58 hup p1 mk mk6 mk7 t9 nq56 nq nqc nqm hF7
            go_upto_region 42 with fail
            go_quiet (fail)
            go_wp2
            go_meet
            case rel => exact below_drewN (hB7.alloc hB7.size _) _
        case rest =>
        obtain ⟨w8, rfl⟩ : ∃ w8 : World, w8 = wc := ⟨_, rfl⟩
        have mk8 := mk.below hcut
        clear t1 t2 t3 t4 t5 t6 t7 t8 t9 t10 t3' t4' t5' t7' t8' aT7 hF7 mk7 mk6 lT7 hB7 aH6 lH6 t11 aH5
        have c98 := mk8.c98
        have c100 := mk8.c100
        have c101 := mk8.c101
        have c104 := mk8.c104
        have c106 := mk8.c106
        have c107 := mk8.c107
        have sS8 := mk8.sS
        have sh8 := mk8.sh
        have aH8 := mk8.aH
        have oM8 := mk8.oM
        have nM8 := mk8.nM
        have oA8 := mk8.oA
        have nA8 := mk8.nA
        clear mk nq58 hup
        go_upto_region 46 with fail
        go_quiet (fail)
        go_wp2_with fail
        clear c98 c100 c101 c107 sS8 sh8 aH8 oM8 nM8 oA8 nA8
        go_loopw [34] (fun i wr => ∃ j q : Nat, j ≤ n ∧ i = .int .i64 j ∧ wr = w8.drewN q) (fun i _ => n - (intOf i).toNat)
        case atStart => exact ⟨0, _, by omega, rfl, rfl⟩
        case round =>
          obtain ⟨j, q, hj, rfl, rfl⟩ := hrel
          by_cases hlt : j < n
          · rcases mk8.src with ⟨h0, _⟩ | ⟨b, off, rfl, lb, hbs, hbc⟩
            · omega
            have aG8 := mk8.aG
            have nql := nq56 j hlt
            have hjs : j * 34 + 34 ≤ n * 34 := by omega
            obtain ⟨la, hla⟩ : ∃ la, cut src (j * 34) 34 = la := ⟨_, rfl⟩
            rw [hla] at nql
            have hbl : cut (arr w8 b) (off + j * 34) 34 = la := by rw [← hla, ← hbc, cut_cut _ _ _ _ _ hbs (by omega)]
            have hbz : off + j * 34 + 34 ≤ (arr w8 b).size := by omega
            have hgz : j * 34 + 34 ≤ src.size := by omega
            clear nq56
            go_wp2_with fail
            go_quiet (fail)
            go_wp2_with fail
            go_roundw
            case rel => exact ⟨j + 1, _, by omega, by go_num, rfl⟩
            case measure => simp [intOf]; omega
          · obtain rfl : j = n := by omega
            rcases mk8.E with ⟨_, rfl⟩ | ⟨_, E, rfl, lE, aEs, cE0, cE1, cEc, cEm⟩
            · go_wp2_with fail
              go_ret
              exact ⟨rfl, below_drewN (HB.out.trans (hcut.mono HBs)) _⟩
            · have aP8 := mk8.aP
              have cP8 := mk8.cP
              have nqp : ∀ W, (binOp .neq 39 (.pointer (some ⟨E, 0, none⟩)) (.pointer (some ⟨E, 0, none⟩))).run Yba.prog W = .ok (.bool false) W := fun W => neq_ptr W E
              clear nq56 mk8 c104
              go_wp2_with fail
              go_quiet (fail)
              go_wp2_with fail
              go_ret
              exact ⟨rfl, below_drewN (below_drewN (HB.out.trans (hcut.mono HBs)) _) _⟩
end Go.Proofs.Ybulkduwi
