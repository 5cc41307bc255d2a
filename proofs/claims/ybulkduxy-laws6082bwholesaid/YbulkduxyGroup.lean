import Derived.Test.YbulkduxyRows
import Derived.WalkKit
import Derived.WalkSpells
import Derived.WalkLawsBesides
import Derived.Laws.LoneSync
import Derived.LaidEqlPtr
import Derived.Conc.EventLaws
namespace Go.Proofs.Ybulkduxy
open Go.RowKit

section
variable {P : Program} (w : World)

theorem eql_of (t : TypeId) (x y : Value) (r : Bool) (hx : ∀ d : Nat, (Op.equalIn (d + 1) t x y).run P w = .ok r w) (hb : binOp .eql t x y = (do return .bool (← Op.equal t x y))) :
    (binOp .eql t x y).run P w = .ok (.bool r) w := by
  rw [hb]; simp [Op.equal, Op.maxDepth, hx 9999]
theorem neq_of (t : TypeId) (x y : Value) (r : Bool) (hx : ∀ d : Nat, (Op.equalIn (d + 1) t x y).run P w = .ok r w) (hb : binOp .neq t x y = (do return .bool !(← Op.equal t x y))) :
    (binOp .neq t x y).run P w = .ok (.bool !r) w := by
  rw [hb]; simp [Op.equal, Op.maxDepth, hx 9999]

theorem equalIn_chan (d : Nat) {t e : TypeId} {cd : ChanDir} (ht : P.underlying t = some (.chan cd e)) (a b : Option Nat) :
    (Op.equalIn (d + 1) t (.chan a) (.chan b)).run P w = .ok (a == b) w := by simp [Op.equalIn, run_underlying ht]
end

set_option maxHeartbeats 400000 in
theorem parentDone_nil (b : Nat) (w : World) (h : w.cell? ⟨b, 0, none⟩ = some .nilIface) :
    Calls Yba.prog 5 #[.pointer (some ⟨b, 0, none⟩)] w fun e w' => e = .returned (.chan none) ∧ w' = w := by
  go_enter Yba.func5, Yba.ntmps5
  go_wp2
  go_ret
  exact ⟨rfl, rfl⟩

set_option maxHeartbeats 400000 in
theorem boolLoad (b o : Nat) (n : Int) (w : World) (h : w.cell? ⟨b, o, none⟩ = some (.int .u32 n)) :
    Calls Yba.prog 6 #[.pointer (some ⟨b, o, none⟩)] w fun e w' => e = .returned (.bool (n != 0)) ∧ w' = w := by
  have hl := run_call_load (P := Yba.prog) Yba.func12 (by kernel_rfl) (by kernel_rfl) (by kernel_rfl) .u32 (by kernel_rfl) h
  go_enter Yba.func6, Yba.ntmps6
  go_wp2
  go_ret
  exact ⟨rfl, rfl⟩

/-- The zero Group's 185 cells, behind a name: the walk sees the few that are read. -/
theorem zGroup : ∃ z : Array Value, ∃ h : z.size = 185, (∀ w, (zeroValue 65).run Yba.prog w = .ok (.agg z) w) ∧ z[0] = .nilIface ∧ z[1] = .nilFunc ∧ z[2] = (.bool false) ∧ z[3] = .int .u32 0 ∧
    z[4] = .chan none ∧ z[8] = .nilIface ∧ z[9] = .pointer none ∧ z[10] = .pointer none := by
  refine ⟨match (Yba.prog.info? 65).bind (·.zero) with | some (.agg cs) => cs | _ => #[], ?_, fun w => ?_, ?_, ?_, ?_, ?_, ?_, ?_, ?_, ?_⟩
  all_goals kernel_rfl

theorem q66 (W : World) (a b : Option Nat) : (binOp .eql 66 (.chan a) (.chan b)).run Yba.prog W = .ok (.bool (a == b)) W := eql_of W 66 _ _ _ (fun d => equalIn_chan W d Yba.underlying66 a b) rfl
theorem n66 (W : World) (a b : Option Nat) : (binOp .neq 66 (.chan a) (.chan b)).run Yba.prog W = .ok (.bool !(a == b)) W := neq_of W 66 _ _ _ (fun d => equalIn_chan W d Yba.underlying66 a b) rfl
theorem n69 (W : World) (a b : Option Nat) : (binOp .neq 69 (.chan a) (.chan b)).run Yba.prog W = .ok (.bool !(a == b)) W := neq_of W 69 _ _ _ (fun d => equalIn_chan W d Yba.underlying69 a b) rfl
theorem q26 (W : World) : (binOp .eql 26 .nilFunc .nilFunc).run Yba.prog W = .ok (.bool true) W := eql_of W 26 _ _ _ (fun d => by simp [Op.equalIn, run_underlying Yba.underlying26]) rfl

set_option maxHeartbeats 400000 in
theorem done_any (c : Nat) (ch : Option Nat) (n : Int) (w : World) (h0 : w.cell? ⟨c, 0, none⟩ = some (.chan ch)) (h1 : w.cell? ⟨c, 1, none⟩ = some (.int .i64 n)) (hf : w.frozen? ⟨c, 1, none⟩ = false) :
    Calls Yba.prog 37 #[.pointer (some ⟨c, 0, none⟩)] w fun e w' => e = .returned (.chan ch) ∧ w' = w.setCell ⟨c, 1, none⟩ (.int .i64 (wrap64 (n + 1))) := by
  go_enter Yba.func37, Yba.ntmps37
  go_wp2
  go_ret
  exact ⟨rfl, rfl⟩

set_option maxRecDepth 100000 in
set_option maxHeartbeats 400000 in
theorem parentDone_some (b c : Nat) (ch : Option Nat) (n : Int) (w : World) (h : w.cell? ⟨b, 0, none⟩ = some (.iface 70 (.pointer (some ⟨c, 0, none⟩)))) (h0 : w.cell? ⟨c, 0, none⟩ = some (.chan ch)) (h1 : w.cell? ⟨c, 1, none⟩ = some (.int .i64 n)) (hf : w.frozen? ⟨c, 1, none⟩ = false)  :
    Calls Yba.prog 5 #[.pointer (some ⟨b, 0, none⟩)] w fun e w' => e = .returned (.chan ch) ∧ w' = w.setCell ⟨c, 1, none⟩ (.int .i64 (wrap64 (n + 1))) := by
  have hm : ∀ (a : Addr) (w : World), (method 241 70 (.pointer (some a)) "Done").run Yba.prog w = .ok (37, .pointer (some a)) w := fun _ _ => by kernel_rfl
  go_enter Yba.func5, Yba.ntmps5
  go_wp2_with (go_at_call 37; refine (done_any c ch n _ h0 h1 hf).mono ?_; rintro e w1 ⟨rfl, rfl⟩)
  go_ret
  exact ⟨rfl, rfl⟩

theorem make69 (W : World) : (Instr.makeChan 69 (.int .i64 0)).run Yba.prog W = .ok (.chan (some W.heap.size)) (W.alloc (.chan 0 #[] false 0 0 false)) := by kernel_rfl
theorem close_new (W : World) (ts : Array TypeId) (t : TypeId) : (Builtin.close_ ts t #[.chan (some W.heap.size)]).run Yba.prog (W.alloc (.chan 0 #[] false 0 0 false)) = .ok (.tuple #[]) (W.alloc (.chan 0 #[] true 0 0 false)) := by
  rw [run_close_open ts t (heap_alloc_new W _)]
  have e : (W.heap.push (.chan 0 #[] false 0 0 false)).setIfInBounds W.heap.size (.chan 0 #[] true 0 0 false) = W.heap.push (.chan 0 #[] true 0 0 false) := by
    apply Array.ext_getElem?
    intro i
    simp only [Array.getElem?_setIfInBounds, Array.getElem?_push, Array.size_push]
    by_cases h : W.heap.size = i
    · subst h; simp
    · rw [if_neg h, if_neg (by omega), if_neg (by omega)]
  show Result.ok _ { W with heap := (W.heap.push (.chan 0 #[] false 0 0 false)).setIfInBounds W.heap.size (.chan 0 #[] true 0 0 false) } = Result.ok _ { W with heap := W.heap.push (.chan 0 #[] true 0 0 false) }
  rw [e]
theorem q70 (W : World) (a : Addr) : (binOp .eql 70 (.pointer (some a)) (.pointer (some a))).run Yba.prog W = .ok (.bool true) W := by
  obtain ⟨j, hj⟩ := Option.isSome_iff_exists.1 (show (Yba.prog.info? 72).isSome = true by kernel_rfl)
  exact run_eql_ptr_same W a Yba.underlying70 hj
theorem ta70 (a : Addr) (W : World) : (Instr.typeAssert (.iface 70 (.pointer (some a))) 24 70 true).run Yba.prog W = .ok (.tuple #[.pointer (some a), .bool true]) W := by kernel_rfl

end Go.Proofs.Ybulkduxy
