/-
  The two loops of the law that fill maps: what a round does to the map, outside the walk.
-/
import Derived.Test.YbulkduwiLens
import Derived.Test.YbulkduwiKeys
namespace Go.Proofs.Ybulkduwi
open Go.RowKit

theorem own_below {w w' : World} {B b n : Nat} {D : DataW Unit} (h : w.ownsMap Yba.prog 24 anyElem b n D) (hb : Below B w w') (hB : b < B) : w'.ownsMap Yba.prog 24 anyElem b n D := by
  obtain ⟨es, clock, hbk, r⟩ := h
  exact ⟨es, clock, (hb.block b hB).trans hbk, r⟩

/-- Block b is a map that holds the keys 0 .. k-1, k of them. -/
def Fills (kl : Nat → Lit) (w : World) (b k : Nat) : Prop := ∃ D, w.ownsMap Yba.prog 24 anyElem b k D ∧ Filled kl k D
theorem fills_made (kl : Nat → Lit) (w : World) (b : Nat) (hb : b = w.heap.size) : Fills kl (w.alloc (.map #[] 0)) b 0 := by
  subst hb; exact ⟨_, World.ownsMap_made w Yba.prog 24 anyElem, filled_start kl⟩
theorem Fills.below {kl : Nat → Lit} {w w' : World} {B b k : Nat} (h : Fills kl w b k) (hb : Below B w w') (hB : b < B) : Fills kl w' b k := by
  obtain ⟨D, h1, h2⟩ := h
  exact ⟨D, own_below h1 hb hB, h2⟩
theorem Fills.lt {kl : Nat → Lit} {w : World} {b k : Nat} (h : Fills kl w b k) : b < w.heap.size := by obtain ⟨D, h1, _⟩ := h; exact h1.lt
theorem Fills.len {kl : Nat → Lit} {w : World} {b k : Nat} (h : Fills kl w b k) : mOk w (some b) ∧ mlen w (some b) = k := by
  obtain ⟨D, h1, h2⟩ := h
  have := m_owns h1
  exact ⟨this.1, this.2.trans h2.2.1⟩

/-- A store at the next key, at either map's type. -/
theorem wpList_fill {w : World} {ops : Array Oper} {rest : List Oper} {o : Oper} {a : Act} {Q : Exit → Act → World → Prop} (hg : o.guard = none) (m x v : Operand) (t e : TypeId) (hop : o.op = Op.mapUpdate t m x v) (ht : Yba.prog.underlying t = some (.map 24 e))
    (kl : Nat → Lit) (hkl : ∀ i, i < 65536 → keyOf Yba.prog 24 (.agg (karr i)) = some (kl i)) (hinj : ∀ i j, i < 65536 → j < 65536 → kl i = kl j → i = j)
    (b k : Nat) (hk : k < 65536) (hm : a.eval m = .map (some b)) (hx : a.eval x = .agg (karr k)) (hF : Fills kl w b k)
    (h : ∀ w', Fills kl w' b (k + 1) → w.grownBy w' (some b) → wpList Yba.prog ops Q rest (a.put o.dst undef) w') : wpList Yba.prog ops Q (o :: rest) a w := by
  obtain ⟨D, h1, h2⟩ := hF
  refine wpList_mapUpdate_own _ hg _ _ _ t hop 24 e law24 ht _ b k _ hm h1 (by unfold maxLen; omega) _ _ _ hx rfl (hkl k hk) _ [] rfl ?_
  intro w' h3 h4
  exact h w' ⟨_, h3, filled_step hk (law24.key (hkl k hk)) hinj h2⟩ h4
end Go.Proofs.Ybulkduwi
