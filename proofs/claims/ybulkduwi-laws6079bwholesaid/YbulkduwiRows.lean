/-
  No cell of these rows narrows 'for every input' (looked for: loops, veiled, ifaces, maps, wideKeys, modest, calm, conditions, laid).
  DERIVED. THE GIVEN ROWS OF THIS SEAT. 1 by the template 'for every input the law returns true; each argument reads behind the call as it read before'; 0 by the template 'total and deterministic' (their statements: YbulkduwiTotals.lean).
  GIVEN WITH THE SEED: the statements are not yours to turn. If you find one false, say at which input.
  Laid BY PROGRAM, IN A SANDBOX (cutbox-rows.mjs): the forced cells as the released guide's own fill.sh prints them over the translation 5e529130c7d13fec… (all of the seat's roots in one cut). By AI agents, Wed Nov 11 2026. No macro, syntax, notation, axiom, sorry.
-/
import Derived.Test.YbulkduwiChecked
import GoSem.Claim
import GoSem.ClaimJoined
import GoSem.ClaimMapViews
import Derived.JoinedTies
import Derived.KernelRfl
namespace Go.Proofs.Ybulkduwi
/- THE CELL 'sum', in the pinned program and in every row, IS THE sha256 OF THE DUMP (.gsa) THAT YbulkduwiProg.lean LOADS. Nothing in Lean hashes anything: it is a label: what it is worth is what the hold of that sum in a sandbox is worth. -/
noncomputable def Yba.pinned : Pinned := { name := "ybulkduwi", sum := "5e529130c7d13fec04cf5400feba589513a6b7ad38c08b220f76166dead69448", checked := Yba.checked }
namespace Rows
def none {H : Type} : Left H := { results := [], args := [] }

/-- 'ledger.LawS6079BWhole': WHATEVER THE INPUT: true; the input reads as it did. -/
def lawS6079BWholeSpec : ChangeSpec := { name := "lawS6079BWhole", fn := fun _ => fun
  | [d1, d2, d3, d4, d5, d6, d7, d8, d9, d10] => { results := [.lit (.bool true)], args := [d1, d2, d3, d4, d5, d6, d7, d8, d9, d10] }
  | _ => none }
def lawS6079BWholeRow : OpenClaim := { program := "ybulkduwi", sum := "5e529130c7d13fec04cf5400feba589513a6b7ad38c08b220f76166dead69448", func := "example.com/mrenclave/mrenclave/internal/ledger.LawS6079BWhole", spec := "lawS6079BWhole", plainKeys := false, apart := false }
def LawS6079BWholeSaid : Prop := lawS6079BWholeRow.holds Yba.pinned (OpenSpec.ofChange lawS6079BWholeSpec)

/-- ITS FALSE NEIGHBOUR: 'it returns false'. Refute it at one input. -/
def lawS6079BWholeWrong : ChangeSpec := { name := "lawS6079BWhole", fn := fun _ => fun
  | [d1, d2, d3, d4, d5, d6, d7, d8, d9, d10] => { results := [.lit (.bool false)], args := [d1, d2, d3, d4, d5, d6, d7, d8, d9, d10] }
  | _ => none }
def LawS6079BWholeWrongFalsely : Prop := lawS6079BWholeRow.holds Yba.pinned (OpenSpec.ofChange lawS6079BWholeWrong)

end Rows
end Go.Proofs.Ybulkduwi
