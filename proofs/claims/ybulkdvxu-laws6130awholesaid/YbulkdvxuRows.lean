/-
  No cell of these rows narrows 'for every input' (looked for: loops, veiled, ifaces, maps, wideKeys, modest, calm, conditions, laid).
  DERIVED. THE GIVEN ROWS OF THIS SEAT. 1 by the template 'for every input the law returns true; each argument reads behind the call as it read before'; 0 by the template 'total and deterministic' (their statements: YbulkdvxuTotals.lean).
  GIVEN WITH THE SEED: the statements are not yours to turn. If you find one false, say at which input.
  Laid BY PROGRAM, IN A SANDBOX (cutbox-rows.mjs): the forced cells as the released guide's own fill.sh prints them over the translation ff7ce2527f5bf914… (all of the seat's roots in one cut). By AI agents, Wed Nov 11 2026. No macro, syntax, notation, axiom, sorry.
-/
import Derived.Test.YbulkdvxuChecked
import GoSem.Claim
import GoSem.ClaimJoined
import GoSem.ClaimMapViews
import Derived.JoinedTies
import Derived.KernelRfl
namespace Go.Proofs.Ybulkdvxu
/- THE CELL 'sum', in the pinned program and in every row, IS THE sha256 OF THE DUMP (.gsa) THAT YbulkdvxuProg.lean LOADS. Nothing in Lean hashes anything: it is a label: what it is worth is what the hold of that sum in a sandbox is worth. -/
noncomputable def Yba.pinned : Pinned := { name := "ybulkdvxu", sum := "ff7ce2527f5bf914d2331b4018b72ef47a0260838ea4cf2e051a4eff4d9f1d6d", checked := Yba.checked }
namespace Rows
def none {H : Type} : Left H := { results := [], args := [] }

/-- 'knotwise.LawS6130AWhole': WHATEVER THE INPUT: true; the input reads as it did. -/
def lawS6130AWholeSpec : ChangeSpec := { name := "lawS6130AWhole", fn := fun _ => fun
  | [d1, d2, d3] => { results := [.lit (.bool true)], args := [d1, d2, d3] }
  | _ => none }
def lawS6130AWholeRow : OpenClaim := { program := "ybulkdvxu", sum := "ff7ce2527f5bf914d2331b4018b72ef47a0260838ea4cf2e051a4eff4d9f1d6d", func := "example.com/knotwise/knotwise.LawS6130AWhole", spec := "lawS6130AWhole", apart := false }
def LawS6130AWholeSaid : Prop := lawS6130AWholeRow.holds Yba.pinned (OpenSpec.ofChange lawS6130AWholeSpec)

/-- ITS FALSE NEIGHBOUR: 'it returns false'. Refute it at one input. -/
def lawS6130AWholeWrong : ChangeSpec := { name := "lawS6130AWhole", fn := fun _ => fun
  | [d1, d2, d3] => { results := [.lit (.bool false)], args := [d1, d2, d3] }
  | _ => none }
def LawS6130AWholeWrongFalsely : Prop := lawS6130AWholeRow.holds Yba.pinned (OpenSpec.ofChange lawS6130AWholeWrong)

end Rows
end Go.Proofs.Ybulkdvxu
