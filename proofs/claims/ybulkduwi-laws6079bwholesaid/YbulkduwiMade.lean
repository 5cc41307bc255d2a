/-
  What the law holds in memory when it calls Status; one contract of 'copy' and one of Status for every input; keys of Accepted and of Pending.
-/
import Derived.Test.YbulkduwiCopy
import Derived.Test.YbulkduwiStatus
import Derived.Test.YbulkduwiSt0n
import Derived.Test.YbulkduwiSt0x
import Derived.Test.YbulkduwiSt0y
import Derived.Test.YbulkduwiStpn
import Derived.Test.YbulkduwiStpx
import Derived.Test.YbulkduwiStpy
namespace Go.Proofs.Ybulkduwi
open Go.RowKit

/-- The slice that came in: empty, or its cells are 'src'. -/
def Src (w : World) (ao : Option Addr) (n : Nat) (src : Array Value) : Prop :=
  (n = 0 ∧ src = #[]) ∨ ∃ b off, ao = some ⟨b, off, none⟩ ∧ b < w.heap.size ∧ off + n * 34 ≤ (arr w b).size ∧ cut (arr w b) off (n * 34) = src

theorem arr_below {B : Nat} {w w' : World} (h : Below B w w') {b : Nat} (hb : b < B) : arr w' b = arr w b := by
  unfold arr; rw [h.block b hb]
theorem Src.below {w w' : World} {ao : Option Addr} {n : Nat} {src : Array Value} (h : Src w ao n src) {B : Nat} (hb : Below B w w') (hB : w.heap.size ≤ B) : Src w' ao n src := by
  rcases h with h | ⟨b, off, rfl, h1, h2, h3⟩
  · exact .inl h
  · have e := arr_below hb (Nat.lt_of_lt_of_le h1 hB)
    exact .inr ⟨b, off, rfl, Nat.lt_of_lt_of_le h1 hb.size, by rw [e]; exact h2, by rw [e]; exact h3⟩

theorem cut_cut (a : Array Value) (o n i k : Nat) (h : o + n ≤ a.size) (hi : i + k ≤ n) : cut (cut a o n) i k = cut a (o + i) k := by
  refine cut_congr (by rw [size_cut _ _ _ h]; exact hi) (by omega) fun j hj => ?_
  rw [get_cut _ _ _ _ h (by omega), Nat.add_assoc]

structure Made (hd pr src : Array Value) (ep pl pe p0 : Int) (n nm nA : Nat) (ao : Option Addr) (hp : Bool) (HD PB M G S : Nat) (am : Option Nat) (pv : Option Addr) (w : World) : Prop where
  lS : S < w.heap.size
  sS : (arr w S).size = 108
  sh : cut (arr w S) 1 32 = hd
  c98 : w.cell? ⟨S, 98, none⟩ = some (.int .u64 ep)
  c100 : w.cell? ⟨S, 100, none⟩ = some (.int .u64 pl)
  c101 : w.cell? ⟨S, 101, none⟩ = some (.map (some M))
  c104 : w.cell? ⟨S, 104, none⟩ = some (.slice (some ⟨G, 0, none⟩) n n)
  c106 : w.cell? ⟨S, 106, none⟩ = some (.pointer pv)
  c107 : w.cell? ⟨S, 107, none⟩ = some (.map am)
  lM : M < w.heap.size
  oM : mOk w (some M)
  nM : mlen w (some M) = nm
  lA : ∀ b, am = some b → b < w.heap.size
  oA : mOk w am
  nA : mlen w am = nA
  lG : G < w.heap.size
  aG : arr w G = src
  zG : src.size = n * 34
  lH : HD < w.heap.size
  aH : arr w HD = hd
  lP : PB < w.heap.size
  aP : arr w PB = pr
  cP : w.cell? ⟨PB, 0, none⟩ = some (.int .u64 p0)
  E : (hp = false ∧ pv = none) ∨ (hp = true ∧ ∃ E, pv = some ⟨E, 0, none⟩ ∧ E < w.heap.size ∧ (arr w E).size = 489 ∧ w.cell? ⟨E, 389, none⟩ = some (.int .u64 p0) ∧ w.cell? ⟨E, 390, none⟩ = some (.int .u64 pe) ∧ cut (arr w E) 391 32 = cut pr 2 32 ∧ cut (arr w E) 99 32 = cut pr 34 32)
  src : Src w ao n src

theorem Made.below {hd pr src : Array Value} {ep pl pe p0 : Int} {n nm nA : Nat} {ao : Option Addr} {hp : Bool} {HD PB M G S : Nat} {am : Option Nat} {pv : Option Addr} {w w' : World}
    (h : Made hd pr src ep pl pe p0 n nm nA ao hp HD PB M G S am pv w) (hb : Below w.heap.size w w') : Made hd pr src ep pl pe p0 n nm nA ao hp HD PB M G S am pv w' := by
  have up : ∀ {x}, x < w.heap.size → x < w'.heap.size := fun hx => Nat.lt_of_lt_of_le hx hb.size
  have ce : ∀ {x j}, x < w.heap.size → w'.cell? ⟨x, j, none⟩ = w.cell? ⟨x, j, none⟩ := fun hx => hb.cell hx
  have ae : ∀ {x}, x < w.heap.size → arr w' x = arr w x := fun hx => arr_below hb hx
  have m1 := m_below hb h.oM (fun b e => by cases e; exact h.lM)
  have m2 := m_below hb h.oA h.lA
  refine ⟨up h.lS, by rw [ae h.lS]; exact h.sS, by rw [ae h.lS]; exact h.sh, (ce h.lS).trans h.c98, (ce h.lS).trans h.c100, (ce h.lS).trans h.c101, (ce h.lS).trans h.c104, (ce h.lS).trans h.c106, (ce h.lS).trans h.c107, up h.lM, m1.1, m1.2.trans h.nM, fun b e => up (h.lA b e), m2.1, m2.2.trans h.nA,
    up h.lG, (ae h.lG).trans h.aG, h.zG, up h.lH, (ae h.lH).trans h.aH, up h.lP, (ae h.lP).trans h.aP, (ce h.lP).trans h.cP, ?_, h.src.below hb (Nat.le_refl _)⟩
  rcases h.E with h1 | ⟨h1, E, h2, h3, h4, h5, h6, h7, h8⟩
  · exact .inl h1
  · exact .inr ⟨h1, E, h2, up h3, by rw [ae h3]; exact h4, (ce h3).trans h5, (ce h3).trans h6, by rw [ae h3]; exact h7, by rw [ae h3]; exact h8⟩

/-- 'copy' of what came in into the row that was just made. -/
theorem wpList_copy56_any {w : World} {ops : Array Oper} {rest : List Oper} {o : Oper} {a : Act} {Q : Exit → Act → World → Prop} (hgd : o.guard = none) (d s : Operand) (ho : o.op = .call { callee := .builtin .copy, args := #[d, s], argTypes := #[26, 26] })
    (g n cp sc : Nat) (ao : Option Addr) (hd : a.eval d = .slice (some ⟨g, 0, none⟩) n cp) (hs : a.eval s = .slice ao n sc) (cur src : Array Value) (hg : w.heap[g]? = some (.cells cur 56 (0, 0))) (hcur : cur.size = n * 34)
    (hsrc : Src w ao n src) (h1 : Ones src)
    (h : ∀ w', w'.heap[g]? = some (.cells src 56 (0, 0)) → Below g w w' → wpList Yba.prog ops Q rest (a.put o.dst (goInt n)) w') : wpList Yba.prog ops Q (o :: rest) a w := by
  rcases hsrc with ⟨rfl, rfl⟩ | ⟨b, off, rfl, hb, hbs, rfl⟩
  · have : cur = #[] := Array.size_eq_zero_iff.1 (by omega)
    subst this
    exact wpList_copy56_none hgd d s ho g cp sc ao hd hs (h w hg (Below.refl _ _))
  · exact wpList_copy56 hgd d s ho g n cp b off sc hd hs cur (arr w b) hg hcur rfl hbs h1 h

/-- Status, for every input. -/
theorem status_any {hd pr src : Array Value} {ep pl pe p0 : Int} {n nm nA : Nat} {ao : Option Addr} {hp : Bool} {HD PB M G S : Nat} {am : Option Nat} {pv : Option Addr} {w : World}
    (h : Made hd pr src ep pl pe p0 n nm nA ao hp HD PB M G S am pv w) (hn : n ≤ 1048576) (hhs : hd.size = 32) (hh1 : Ones hd) (hps : pr.size = 66) (hp1 : Ones pr) (hs1 : Ones src) :
    Calls Yba.prog 5 #[.pointer (some ⟨S, 0, none⟩)] w fun e w' => ∃ stF c3 c4, e = .returned (.agg stF) ∧ stF.size = 37 ∧ Ones stF ∧ stF[0]? = some (.int .u64 ep) ∧ stF[1]? = some (.int .i64 nm) ∧ stF[2]? = some (.int .u64 pl) ∧ cut stF 5 32 = hd ∧
      stF[3]? = some (.pointer c3) ∧ stF[4]? = some (.pointer c4) ∧ ((n = 0 ∧ c3 = none) ∨ (0 < n ∧ ∃ C, c3 = some ⟨C, 0, none⟩ ∧ w.heap.size ≤ C ∧ w'.heap[C]? = some (.cells (cut src ((n - 1) * 34) 34) 56 (0, 0)))) ∧
      (((hp = false ∨ (pe != IntKind.u64.wrap (ep + 1)) = true) ∧ c4 = none) ∨ (hp = true ∧ (pe != IntKind.u64.wrap (ep + 1)) = false ∧ ∃ F pA, c4 = some ⟨F, 0, none⟩ ∧ w.heap.size ≤ F ∧ w'.heap[F]? = some (.cells pA 58 (0, 0)) ∧ ∀ W, (rowBuild 58 #[(0, .int .u64 p0), (1, .int .u64 pe), (2, .agg (cut pr 2 32)), (3, .agg (cut pr 34 32)), (4, .int .i64 nA)]).run Yba.prog W = .ok (.agg pA) W)) ∧ Below w.heap.size w w' := by
  have hz := h.zG
  rcases Nat.eq_zero_or_pos n with hn0 | hn0
  · have h104 := h.c104
    rw [hn0] at h104
    rcases h.E with ⟨e1, e2⟩ | ⟨e1, E, e2, e3, e4, e5, e6, e7, e8⟩
    · refine (status_0n S _ hd ep pl (some M) _ _ w h.lS rfl h.sS h.sh hhs hh1 h.c98 h.c100 h.c101 h.oM h104 (by rw [← e2]; exact h.c106)).mono ?_
      rintro e w' ⟨stF, rfl, a1, a2, a3, a4, a5, a6, a7, a8, a9⟩
      exact ⟨stF, _, _, rfl, a1, a2, a3, by rw [← h.nM]; exact a4, a5, a6, a7, a8, .inl ⟨hn0, rfl⟩, .inl ⟨.inl e1, rfl⟩, a9⟩
    · cases hu : (pe != IntKind.u64.wrap (ep + 1)) with
      | true =>
        refine (status_0x S _ hd ep pl (some M) _ _ E pe w h.lS rfl h.sS h.sh hhs hh1 h.c98 h.c100 h.c101 h.oM h104 (by rw [← e2]; exact h.c106) e3 e6 hu).mono ?_
        rintro e w' ⟨stF, rfl, a1, a2, a3, a4, a5, a6, a7, a8, a9⟩
        exact ⟨stF, _, _, rfl, a1, a2, a3, by rw [← h.nM]; exact a4, a5, a6, a7, a8, .inl ⟨hn0, rfl⟩, .inl ⟨.inr rfl, rfl⟩, a9⟩
      | false =>
        refine (status_0y S _ hd ep pl (some M) _ _ E pe _ _ _ p0 am w h.lS rfl h.sS h.sh hhs hh1 h.c98 h.c100 h.c101 h.oM h104 (by rw [← e2]; exact h.c106) e3 e6 hu rfl e4 e5 e7 e8 (size_cut _ _ _ (by omega)) (size_cut _ _ _ (by omega)) (hp1.cut (by omega)) (hp1.cut (by omega)) h.c107 h.oA).mono ?_
        rintro e w' ⟨stF, rfl, a1, a2, a3, a4, a5, a6, a7, ⟨F, pA, f1, f2, f3, f4⟩, a9⟩
        exact ⟨stF, _, _, rfl, a1, a2, a3, by rw [← h.nM]; exact a4, a5, a6, a7, f1, .inl ⟨hn0, rfl⟩, .inr ⟨e1, rfl, F, pA, rfl, f2, f3, by rw [← h.nA]; exact f4⟩, a9⟩
  · have hsz : (n - 1) * 34 + 34 ≤ src.size := by omega
    rcases h.E with ⟨e1, e2⟩ | ⟨e1, E, e2, e3, e4, e5, e6, e7, e8⟩
    · refine (status_pn S _ hd ep pl (some M) G n n src _ w h.lS rfl h.sS h.sh hhs hh1 h.c98 h.c100 h.c101 h.oM h.c104 hn0 hn h.lG h.aG hsz rfl (hs1.cut hsz) (size_cut _ _ _ hsz) (by rw [← e2]; exact h.c106)).mono ?_
      rintro e w' ⟨stF, rfl, a1, a2, a3, a4, a5, a6, ⟨C, k1, k2, k3⟩, a8, a9⟩
      exact ⟨stF, _, _, rfl, a1, a2, a3, by rw [← h.nM]; exact a4, a5, a6, k1, a8, .inr ⟨hn0, C, rfl, k2, k3⟩, .inl ⟨.inl e1, rfl⟩, a9⟩
    · cases hu : (pe != IntKind.u64.wrap (ep + 1)) with
      | true =>
        refine (status_px S _ hd ep pl (some M) G n n src _ E pe w h.lS rfl h.sS h.sh hhs hh1 h.c98 h.c100 h.c101 h.oM h.c104 hn0 hn h.lG h.aG hsz rfl (hs1.cut hsz) (size_cut _ _ _ hsz) (by rw [← e2]; exact h.c106) e3 e6 hu).mono ?_
        rintro e w' ⟨stF, rfl, a1, a2, a3, a4, a5, a6, ⟨C, k1, k2, k3⟩, a8, a9⟩
        exact ⟨stF, _, _, rfl, a1, a2, a3, by rw [← h.nM]; exact a4, a5, a6, k1, a8, .inr ⟨hn0, C, rfl, k2, k3⟩, .inl ⟨.inr rfl, rfl⟩, a9⟩
      | false =>
        refine (status_py S _ hd ep pl (some M) G n n src _ E pe _ _ _ p0 am w h.lS rfl h.sS h.sh hhs hh1 h.c98 h.c100 h.c101 h.oM h.c104 hn0 hn h.lG h.aG hsz rfl (hs1.cut hsz) (size_cut _ _ _ hsz) (by rw [← e2]; exact h.c106) e3 e6 hu rfl e4 e5 e7 e8 (size_cut _ _ _ (by omega)) (size_cut _ _ _ (by omega)) (hp1.cut (by omega)) (hp1.cut (by omega)) h.c107 h.oA).mono ?_
        rintro e w' ⟨stF, rfl, a1, a2, a3, a4, a5, a6, ⟨C, k1, k2, k3⟩, ⟨F, pA, f1, f2, f3, f4⟩, a9⟩
        exact ⟨stF, _, _, rfl, a1, a2, a3, by rw [← h.nM]; exact a4, a5, a6, k1, f1, .inr ⟨hn0, C, rfl, k2, k3⟩, .inr ⟨e1, rfl, F, pA, rfl, f2, f3, by rw [← h.nA]; exact f4⟩, a9⟩
end Go.Proofs.Ybulkduwi
