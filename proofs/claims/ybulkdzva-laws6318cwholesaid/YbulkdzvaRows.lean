/-
  No cell of these rows narrows 'for every input' (looked for: loops, veiled, ifaces, maps, wideKeys, modest, calm, conditions, laid).
  DERIVED. THE GIVEN ROWS OF THIS SEAT. 1 by the template 'for every input the law returns true; each argument reads behind the call as it read before'; 0 by the template 'total and deterministic' (their statements: YbulkdzvaTotals.lean).
  GIVEN WITH THE SEED: the statements are not yours to turn. If you find one false, say at which input.
  Laid BY PROGRAM, IN A SANDBOX (cutbox-rows.mjs): the forced cells as the released guide's own fill.sh prints them over the translation ea754d5c763f6486… (all of the seat's roots in one cut). By AI agents, Wed Nov 11 2026. No macro, syntax, notation, axiom, sorry.
-/
import Derived.Test.YbulkdzvaChecked
import GoSem.Claim
import GoSem.ClaimJoined
import GoSem.ClaimMapViews
import Derived.JoinedTies
import Derived.KernelRfl
namespace Go.Proofs.Ybulkdzva
/- THE CELL 'sum', in the pinned program and in every row, IS THE sha256 OF THE DUMP (.gsa) THAT YbulkdzvaProg.lean LOADS. Nothing in Lean hashes anything: it is a label: what it is worth is what the hold of that sum in a sandbox is worth. -/
noncomputable def Yba.pinned : Pinned := { name := "ybulkdzva", sum := "ea754d5c763f648686b26b99d9f9ab433506017d71ceac3888f629fedb11ffd3", checked := Yba.checked }
namespace Rows
def none {H : Type} : Left H := { results := [], args := [] }

/-- 'handoff.LawS6318CWhole': WHATEVER THE INPUT: true; the input reads as it did. -/
def lawS6318CWholeSpec : ChangeSpec := { name := "lawS6318CWhole", fn := fun _ => fun
  | [d1, d2, d3] => { results := [.lit (.bool true)], args := [d1, d2, d3] }
  | _ => none }
def lawS6318CWholeRow : OpenClaim := { program := "ybulkdzva", sum := "ea754d5c763f648686b26b99d9f9ab433506017d71ceac3888f629fedb11ffd3", func := "example.com/handover/handover/handoff.LawS6318CWhole", spec := "lawS6318CWhole", unfollowed := true, recurses := true, apart := false }
def LawS6318CWholeSaid : Prop := lawS6318CWholeRow.holds Yba.pinned (OpenSpec.ofChange lawS6318CWholeSpec)

/-- ITS FALSE NEIGHBOUR: 'it returns false'. Refute it at one input. -/
def lawS6318CWholeWrong : ChangeSpec := { name := "lawS6318CWhole", fn := fun _ => fun
  | [d1, d2, d3] => { results := [.lit (.bool false)], args := [d1, d2, d3] }
  | _ => none }
def LawS6318CWholeWrongFalsely : Prop := lawS6318CWholeRow.holds Yba.pinned (OpenSpec.ofChange lawS6318CWholeWrong)

end Rows
end Go.Proofs.Ybulkdzva
