/-
  No cell of these rows narrows 'for every input' (looked for: loops, veiled, ifaces, maps, wideKeys, modest, calm, conditions, laid).
  DERIVED. THE GIVEN ROWS OF THIS SEAT. 1 by the template 'for every input the law returns true; each argument reads behind the call as it read before'; 0 by the template 'total and deterministic' (their statements: YbulkdvywTotals.lean).
  GIVEN WITH THE SEED: the statements are not yours to turn. If you find one false, say at which input.
  Laid BY PROGRAM, IN A SANDBOX (cutbox-rows.mjs): the forced cells as the released guide's own fill.sh prints them over the translation d26645f014469833… (all of the seat's roots in one cut). By AI agents, Wed Nov 11 2026. No macro, syntax, notation, axiom, sorry.
-/
import Derived.Test.YbulkdvywChecked
import GoSem.Claim
import GoSem.ClaimJoined
import GoSem.ClaimMapViews
import Derived.JoinedTies
import Derived.KernelRfl
namespace Go.Proofs.Ybulkdvyw
/- THE CELL 'sum', in the pinned program and in every row, IS THE sha256 OF THE DUMP (.gsa) THAT YbulkdvywProg.lean LOADS. Nothing in Lean hashes anything: it is a label: what it is worth is what the hold of that sum in a sandbox is worth. -/
noncomputable def Yba.pinned : Pinned := { name := "ybulkdvyw", sum := "d26645f014469833482515acd3faef39a26ea94a49bac627e4bec570100f5610", checked := Yba.checked }
namespace Rows
def none {H : Type} : Left H := { results := [], args := [] }

/-- 'nearset.LawS6132AWhole': WHATEVER THE INPUT: true; the input reads as it did. -/
def lawS6132AWholeSpec : ChangeSpec := { name := "lawS6132AWhole", fn := fun _ => fun
  | [d1, d2, d3] => { results := [.lit (.bool true)], args := [d1, d2, d3] }
  | _ => none }
def lawS6132AWholeRow : OpenClaim := { program := "ybulkdvyw", sum := "d26645f014469833482515acd3faef39a26ea94a49bac627e4bec570100f5610", func := "example.com/meshwright/meshwright/internal/nearset.LawS6132AWhole", spec := "lawS6132AWhole", apart := false }
def LawS6132AWholeSaid : Prop := lawS6132AWholeRow.holds Yba.pinned (OpenSpec.ofChange lawS6132AWholeSpec)

/-- ITS FALSE NEIGHBOUR: 'it returns false'. Refute it at one input. -/
def lawS6132AWholeWrong : ChangeSpec := { name := "lawS6132AWhole", fn := fun _ => fun
  | [d1, d2, d3] => { results := [.lit (.bool false)], args := [d1, d2, d3] }
  | _ => none }
def LawS6132AWholeWrongFalsely : Prop := lawS6132AWholeRow.holds Yba.pinned (OpenSpec.ofChange lawS6132AWholeWrong)

end Rows
end Go.Proofs.Ybulkdvyw
