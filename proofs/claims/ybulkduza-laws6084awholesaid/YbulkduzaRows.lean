/-
  No cell of these rows narrows 'for every input' (looked for: loops, veiled, ifaces, maps, wideKeys, modest, calm, conditions, laid).
  DERIVED. THE GIVEN ROWS OF THIS SEAT. 1 by the template 'for every input the law returns true; each argument reads behind the call as it read before'; 0 by the template 'total and deterministic' (their statements: YbulkduzaTotals.lean).
  GIVEN WITH THE SEED: the statements are not yours to turn. If you find one false, say at which input.
  Laid BY PROGRAM, IN A SANDBOX (cutbox-rows.mjs): the forced cells as the released guide's own fill.sh prints them over the translation 48aed8710a0b6254… (all of the seat's roots in one cut). By AI agents, Wed Nov 11 2026. No macro, syntax, notation, axiom, sorry.
-/
import Derived.Test.YbulkduzaChecked
import GoSem.Claim
import GoSem.ClaimJoined
import GoSem.ClaimMapViews
import Derived.JoinedTies
import Derived.KernelRfl
namespace Go.Proofs.Ybulkduza
/- THE CELL 'sum', in the pinned program and in every row, IS THE sha256 OF THE DUMP (.gsa) THAT YbulkduzaProg.lean LOADS. Nothing in Lean hashes anything: it is a label: what it is worth is what the hold of that sum in a sandbox is worth. -/
noncomputable def Yba.pinned : Pinned := { name := "ybulkduza", sum := "48aed8710a0b62543443526789613605e34353822d2ba83e46fd2c276674d376", checked := Yba.checked }
namespace Rows
def none {H : Type} : Left H := { results := [], args := [] }

/-- 'sim.LawS6084AWhole': WHATEVER THE INPUT: true; the input reads as it did. -/
def lawS6084AWholeSpec : ChangeSpec := { name := "lawS6084AWhole", fn := fun _ => fun
  | [d1, d2] => { results := [.lit (.bool true)], args := [d1, d2] }
  | _ => none }
def lawS6084AWholeRow : OpenClaim := { program := "ybulkduza", sum := "48aed8710a0b62543443526789613605e34353822d2ba83e46fd2c276674d376", func := "example.com/ferrule/ferrule/sim.LawS6084AWhole", spec := "lawS6084AWhole", inPlace := ["math/big.addVV", "math/bits.Add64", "math/big.subVV", "math/bits.Sub64"], unfollowed := true, recurses := true, plainKeys := false, apart := false }
def LawS6084AWholeSaid : Prop := lawS6084AWholeRow.holds Yba.pinned (OpenSpec.ofChange lawS6084AWholeSpec)

/-- ITS FALSE NEIGHBOUR: 'it returns false'. Refute it at one input. -/
def lawS6084AWholeWrong : ChangeSpec := { name := "lawS6084AWhole", fn := fun _ => fun
  | [d1, d2] => { results := [.lit (.bool false)], args := [d1, d2] }
  | _ => none }
def LawS6084AWholeWrongFalsely : Prop := lawS6084AWholeRow.holds Yba.pinned (OpenSpec.ofChange lawS6084AWholeWrong)

end Rows
end Go.Proofs.Ybulkduza
