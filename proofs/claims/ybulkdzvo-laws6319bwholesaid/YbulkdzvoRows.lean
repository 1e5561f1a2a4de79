/-
  No cell of these rows narrows 'for every input' (looked for: loops, veiled, ifaces, maps, wideKeys, modest, calm, conditions, laid).
  DERIVED. THE GIVEN ROWS OF THIS SEAT. 1 by the template 'for every input the law returns true; each argument reads behind the call as it read before'; 0 by the template 'total and deterministic' (their statements: YbulkdzvoTotals.lean).
  GIVEN WITH THE SEED: the statements are not yours to turn. If you find one false, say at which input.
  Laid BY PROGRAM, IN A SANDBOX (cutbox-rows.mjs): the forced cells as the released guide's own fill.sh prints them over the translation ec947c9754c4be61… (all of the seat's roots in one cut). By AI agents, Wed Nov 11 2026. No macro, syntax, notation, axiom, sorry.
-/
import Derived.Test.YbulkdzvoChecked
import GoSem.Claim
import GoSem.ClaimJoined
import GoSem.ClaimMapViews
import Derived.JoinedTies
import Derived.KernelRfl
namespace Go.Proofs.Ybulkdzvo
/- THE CELL 'sum', in the pinned program and in every row, IS THE sha256 OF THE DUMP (.gsa) THAT YbulkdzvoProg.lean LOADS. Nothing in Lean hashes anything: it is a label: what it is worth is what the hold of that sum in a sandbox is worth. -/
noncomputable def Yba.pinned : Pinned := { name := "ybulkdzvo", sum := "ec947c9754c4be61a310398e608f152f2301c96bf5d4ea0fd41e9e2ac5b0abd1", checked := Yba.checked }
namespace Rows
def none {H : Type} : Left H := { results := [], args := [] }

/-- 'titagged.LawS6319BWhole': WHATEVER THE INPUT: true; the input reads as it did. -/
def lawS6319BWholeSpec : ChangeSpec := { name := "lawS6319BWhole", fn := fun _ => fun
  | [d1, d2, d3, d4, d5, d6] => { results := [.lit (.bool true)], args := [d1, d2, d3, d4, d5, d6] }
  | _ => none }
def lawS6319BWholeRow : OpenClaim := { program := "ybulkdzvo", sum := "ec947c9754c4be61a310398e608f152f2301c96bf5d4ea0fd41e9e2ac5b0abd1", func := "example.com/nibblesum/nibblesum/titagged.LawS6319BWhole", spec := "lawS6319BWhole", apart := false }
def LawS6319BWholeSaid : Prop := lawS6319BWholeRow.holds Yba.pinned (OpenSpec.ofChange lawS6319BWholeSpec)

/-- ITS FALSE NEIGHBOUR: 'it returns false'. Refute it at one input. -/
def lawS6319BWholeWrong : ChangeSpec := { name := "lawS6319BWhole", fn := fun _ => fun
  | [d1, d2, d3, d4, d5, d6] => { results := [.lit (.bool false)], args := [d1, d2, d3, d4, d5, d6] }
  | _ => none }
def LawS6319BWholeWrongFalsely : Prop := lawS6319BWholeRow.holds Yba.pinned (OpenSpec.ofChange lawS6319BWholeWrong)

end Rows
end Go.Proofs.Ybulkdzvo
