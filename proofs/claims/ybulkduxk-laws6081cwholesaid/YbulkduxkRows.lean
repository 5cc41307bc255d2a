/-
  No cell of these rows narrows 'for every input' (looked for: loops, veiled, ifaces, maps, wideKeys, modest, calm, conditions, laid).
  DERIVED. THE GIVEN ROWS OF THIS SEAT. 1 by the template 'for every input the law returns true; each argument reads behind the call as it read before'; 0 by the template 'total and deterministic' (their statements: YbulkduxkTotals.lean).
  GIVEN WITH THE SEED: the statements are not yours to turn. If you find one false, say at which input.
  Laid BY PROGRAM, IN A SANDBOX (cutbox-rows.mjs): the forced cells as the released guide's own fill.sh prints them over the translation 9a409781c762205c… (all of the seat's roots in one cut). By AI agents, Wed Nov 11 2026. No macro, syntax, notation, axiom, sorry.
-/
import Derived.Test.YbulkduxkChecked
import GoSem.Claim
import GoSem.ClaimJoined
import GoSem.ClaimMapViews
import Derived.JoinedTies
import Derived.KernelRfl
namespace Go.Proofs.Ybulkduxk
/- THE CELL 'sum', in the pinned program and in every row, IS THE sha256 OF THE DUMP (.gsa) THAT YbulkduxkProg.lean LOADS. Nothing in Lean hashes anything: it is a label: what it is worth is what the hold of that sum in a sandbox is worth. -/
noncomputable def Yba.pinned : Pinned := { name := "ybulkduxk", sum := "9a409781c762205c7e7dc16780cead6ca062a77ec1ce8d59ed938f571e5fda48", checked := Yba.checked }
namespace Rows
def none {H : Type} : Left H := { results := [], args := [] }

/-- 'config.LawS6081CWhole': WHATEVER THE INPUT: true; the input reads as it did. -/
def lawS6081CWholeSpec : ChangeSpec := { name := "lawS6081CWhole", fn := fun _ => fun
  | [d] => { results := [.lit (.bool true)], args := [d] }
  | _ => none }
def lawS6081CWholeRow : OpenClaim := { program := "ybulkduxk", sum := "9a409781c762205c7e7dc16780cead6ca062a77ec1ce8d59ed938f571e5fda48", func := "example.com/asterism/asterism/internal/config.LawS6081CWhole", spec := "lawS6081CWhole", apart := false }
def LawS6081CWholeSaid : Prop := lawS6081CWholeRow.holds Yba.pinned (OpenSpec.ofChange lawS6081CWholeSpec)

/-- ITS FALSE NEIGHBOUR: 'it returns false'. Refute it at one input. -/
def lawS6081CWholeWrong : ChangeSpec := { name := "lawS6081CWhole", fn := fun _ => fun
  | [d] => { results := [.lit (.bool false)], args := [d] }
  | _ => none }
def LawS6081CWholeWrongFalsely : Prop := lawS6081CWholeRow.holds Yba.pinned (OpenSpec.ofChange lawS6081CWholeWrong)

end Rows
end Go.Proofs.Ybulkduxk
