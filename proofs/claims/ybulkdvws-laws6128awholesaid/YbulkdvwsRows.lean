/-
  No cell of these rows narrows 'for every input' (looked for: loops, veiled, ifaces, maps, wideKeys, modest, calm, conditions, laid).
  DERIVED. THE GIVEN ROWS OF THIS SEAT. 1 by the template 'for every input the law returns true; each argument reads behind the call as it read before'; 0 by the template 'total and deterministic' (their statements: YbulkdvwsTotals.lean).
  GIVEN WITH THE SEED: the statements are not yours to turn. If you find one false, say at which input.
  Laid BY PROGRAM, IN A SANDBOX (cutbox-rows.mjs): the forced cells as the released guide's own fill.sh prints them over the translation fa27108490115154… (all of the seat's roots in one cut). By AI agents, Wed Nov 11 2026. No macro, syntax, notation, axiom, sorry.
-/
import Derived.Test.YbulkdvwsChecked
import GoSem.Claim
import GoSem.ClaimJoined
import GoSem.ClaimMapViews
import Derived.JoinedTies
import Derived.KernelRfl
namespace Go.Proofs.Ybulkdvws
/- THE CELL 'sum', in the pinned program and in every row, IS THE sha256 OF THE DUMP (.gsa) THAT YbulkdvwsProg.lean LOADS. Nothing in Lean hashes anything: it is a label: what it is worth is what the hold of that sum in a sandbox is worth. -/
noncomputable def Yba.pinned : Pinned := { name := "ybulkdvws", sum := "fa271084901151541c1539d9c33a89145343be904086179b82679c8a05742492", checked := Yba.checked }
namespace Rows
def none {H : Type} : Left H := { results := [], args := [] }

/-- 'jsregexp.LawS6128AWhole': WHATEVER THE INPUT: true; the input reads as it did. -/
def lawS6128AWholeSpec : ChangeSpec := { name := "lawS6128AWhole", fn := fun _ => fun
  | [d1, d2, d3, d4, d5, d6, d7, d8] => { results := [.lit (.bool true)], args := [d1, d2, d3, d4, d5, d6, d7, d8] }
  | _ => none }
def lawS6128AWholeRow : OpenClaim := { program := "ybulkdvws", sum := "fa271084901151541c1539d9c33a89145343be904086179b82679c8a05742492", func := "example.com/causalis/causalis/internal/jsregexp.LawS6128AWhole", spec := "lawS6128AWhole", apart := false }
def LawS6128AWholeSaid : Prop := lawS6128AWholeRow.holds Yba.pinned (OpenSpec.ofChange lawS6128AWholeSpec)

/-- ITS FALSE NEIGHBOUR: 'it returns false'. Refute it at one input. -/
def lawS6128AWholeWrong : ChangeSpec := { name := "lawS6128AWhole", fn := fun _ => fun
  | [d1, d2, d3, d4, d5, d6, d7, d8] => { results := [.lit (.bool false)], args := [d1, d2, d3, d4, d5, d6, d7, d8] }
  | _ => none }
def LawS6128AWholeWrongFalsely : Prop := lawS6128AWholeRow.holds Yba.pinned (OpenSpec.ofChange lawS6128AWholeWrong)

end Rows
end Go.Proofs.Ybulkdvws
