/-
  No cell of these rows narrows 'for every input' (looked for: loops, veiled, ifaces, maps, wideKeys, modest, calm, conditions, laid).
  DERIVED. THE GIVEN ROWS OF THIS SEAT. 2 by the template 'for every input the law returns true; each argument reads behind the call as it read before'; 0 by the template 'total and deterministic' (their statements: YbulkduxyTotals.lean).
  GIVEN WITH THE SEED: the statements are not yours to turn. If you find one false, say at which input.
  Laid BY PROGRAM, IN A SANDBOX (cutbox-rows.mjs): the forced cells as the released guide's own fill.sh prints them over the translation 9593d8715aefae24… (all of the seat's roots in one cut). By AI agents, Wed Nov 11 2026. No macro, syntax, notation, axiom, sorry.
-/
import Derived.Test.YbulkduxyChecked
import GoSem.Claim
import GoSem.ClaimJoined
import GoSem.ClaimMapViews
import Derived.JoinedTies
import Derived.KernelRfl
namespace Go.Proofs.Ybulkduxy
/- THE CELL 'sum', in the pinned program and in every row, IS THE sha256 OF THE DUMP (.gsa) THAT YbulkduxyProg.lean LOADS. Nothing in Lean hashes anything: it is a label: what it is worth is what the hold of that sum in a sandbox is worth. -/
noncomputable def Yba.pinned : Pinned := { name := "ybulkduxy", sum := "9593d8715aefae243df3e2f150dc19bd01f2581dbe31e505cd16eb66f8eaae29", checked := Yba.checked }
namespace Rows
def none {H : Type} : Left H := { results := [], args := [] }

/-- 'fanlatch.LawS6082BWhole': WHATEVER THE INPUT: true; the input reads as it did. -/
def lawS6082BWholeSpec : ChangeSpec := { name := "lawS6082BWhole", fn := fun _ => fun
  | [d1, d2, d3, d4] => { results := [.lit (.bool true)], args := [d1, d2, d3, d4] }
  | _ => none }
def lawS6082BWholeRow : OpenClaim := { program := "ybulkduxy", sum := "9593d8715aefae243df3e2f150dc19bd01f2581dbe31e505cd16eb66f8eaae29", func := "example.com/fanlatch/fanlatch.LawS6082BWhole", spec := "lawS6082BWhole", inPlace := ["sync/atomic.LoadUint32"], unfollowed := true, recurses := true, apart := false }
def LawS6082BWholeSaid : Prop := lawS6082BWholeRow.holds Yba.pinned (OpenSpec.ofChange lawS6082BWholeSpec)

/-- ITS FALSE NEIGHBOUR: 'it returns false'. Refute it at one input. -/
def lawS6082BWholeWrong : ChangeSpec := { name := "lawS6082BWhole", fn := fun _ => fun
  | [d1, d2, d3, d4] => { results := [.lit (.bool false)], args := [d1, d2, d3, d4] }
  | _ => none }
def LawS6082BWholeWrongFalsely : Prop := lawS6082BWholeRow.holds Yba.pinned (OpenSpec.ofChange lawS6082BWholeWrong)

/-- 'fanlatch.LawS6082CWhole': WHATEVER THE INPUT: true; the input reads as it did. -/
def lawS6082CWholeSpec : ChangeSpec := { name := "lawS6082CWhole", fn := fun _ => fun
  | [d1, d2, d3, d4, d5] => { results := [.lit (.bool true)], args := [d1, d2, d3, d4, d5] }
  | _ => none }
def lawS6082CWholeRow : OpenClaim := { program := "ybulkduxy", sum := "9593d8715aefae243df3e2f150dc19bd01f2581dbe31e505cd16eb66f8eaae29", func := "example.com/fanlatch/fanlatch.LawS6082CWhole", spec := "lawS6082CWhole", inPlace := ["sync/atomic.StoreUint32", "sync/atomic.CompareAndSwapUint32", "sync/atomic.LoadUint32", "sync/atomic.LoadPointer"], unfollowed := true, recurses := true, apart := false }
def LawS6082CWholeSaid : Prop := lawS6082CWholeRow.holds Yba.pinned (OpenSpec.ofChange lawS6082CWholeSpec)

/-- ITS FALSE NEIGHBOUR: 'it returns false'. Refute it at one input. -/
def lawS6082CWholeWrong : ChangeSpec := { name := "lawS6082CWhole", fn := fun _ => fun
  | [d1, d2, d3, d4, d5] => { results := [.lit (.bool false)], args := [d1, d2, d3, d4, d5] }
  | _ => none }
def LawS6082CWholeWrongFalsely : Prop := lawS6082CWholeRow.holds Yba.pinned (OpenSpec.ofChange lawS6082CWholeWrong)

end Rows
end Go.Proofs.Ybulkduxy
