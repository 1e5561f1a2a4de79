/-
  No cell of these rows narrows 'for every input' (looked for: loops, veiled, ifaces, maps, wideKeys, modest, calm, conditions, laid).
  DERIVED. THE GIVEN ROWS OF THIS SEAT. 3 by the template 'for every input the law returns true; each argument reads behind the call as it read before'; 0 by the template 'total and deterministic' (their statements: YbulkdzxsTotals.lean).
  GIVEN WITH THE SEED: the statements are not yours to turn. If you find one false, say at which input.
  Laid BY PROGRAM, IN A SANDBOX (cutbox-rows.mjs): the forced cells as the released guide's own fill.sh prints them over the translation edfff056ba1509ca… (all of the seat's roots in one cut). By AI agents, Wed Nov 11 2026. No macro, syntax, notation, axiom, sorry.
-/
import Derived.Test.YbulkdzxsChecked
import GoSem.Claim
import GoSem.ClaimJoined
import GoSem.ClaimMapViews
import Derived.JoinedTies
import Derived.KernelRfl
namespace Go.Proofs.Ybulkdzxs
/- THE CELL 'sum', in the pinned program and in every row, IS THE sha256 OF THE DUMP (.gsa) THAT YbulkdzxsProg.lean LOADS. Nothing in Lean hashes anything: it is a label: what it is worth is what the hold of that sum in a sandbox is worth. -/
noncomputable def Yba.pinned : Pinned := { name := "ybulkdzxs", sum := "edfff056ba1509cabd38bc72af4273d1dab86b5a517713be8a9a700f57998277", checked := Yba.checked }
namespace Rows
def none {H : Type} : Left H := { results := [], args := [] }

/-- 'itsetup.LawS6323AWhole': WHATEVER THE INPUT: true; the input reads as it did. -/
def lawS6323AWholeSpec : ChangeSpec := { name := "lawS6323AWhole", fn := fun _ => fun
  | [d] => { results := [.lit (.bool true)], args := [d] }
  | _ => none }
def lawS6323AWholeRow : OpenClaim := { program := "ybulkdzxs", sum := "edfff056ba1509cabd38bc72af4273d1dab86b5a517713be8a9a700f57998277", func := "example.com/crier/crier/itsetup.LawS6323AWhole", spec := "lawS6323AWhole", named := ["encoding/binary.BigEndian"], apart := false }
def LawS6323AWholeSaid : Prop := lawS6323AWholeRow.holds Yba.pinned (OpenSpec.ofChange lawS6323AWholeSpec)

/-- ITS FALSE NEIGHBOUR: 'it returns false'. Refute it at one input. -/
def lawS6323AWholeWrong : ChangeSpec := { name := "lawS6323AWhole", fn := fun _ => fun
  | [d] => { results := [.lit (.bool false)], args := [d] }
  | _ => none }
def LawS6323AWholeWrongFalsely : Prop := lawS6323AWholeRow.holds Yba.pinned (OpenSpec.ofChange lawS6323AWholeWrong)

/-- 'ideal.LawS6323BWhole': WHATEVER THE INPUT: true; the input reads as it did. -/
def lawS6323BWholeSpec : ChangeSpec := { name := "lawS6323BWhole", fn := fun _ => fun
  | [d1, d2, d3, d4, d5, d6] => { results := [.lit (.bool true)], args := [d1, d2, d3, d4, d5, d6] }
  | _ => none }
def lawS6323BWholeRow : OpenClaim := { program := "ybulkdzxs", sum := "edfff056ba1509cabd38bc72af4273d1dab86b5a517713be8a9a700f57998277", func := "example.com/crier/crier/ideal.LawS6323BWhole", spec := "lawS6323BWhole", apart := false }
def LawS6323BWholeSaid : Prop := lawS6323BWholeRow.holds Yba.pinned (OpenSpec.ofChange lawS6323BWholeSpec)

/-- ITS FALSE NEIGHBOUR: 'it returns false'. Refute it at one input. -/
def lawS6323BWholeWrong : ChangeSpec := { name := "lawS6323BWhole", fn := fun _ => fun
  | [d1, d2, d3, d4, d5, d6] => { results := [.lit (.bool false)], args := [d1, d2, d3, d4, d5, d6] }
  | _ => none }
def LawS6323BWholeWrongFalsely : Prop := lawS6323BWholeRow.holds Yba.pinned (OpenSpec.ofChange lawS6323BWholeWrong)

/-- 'amplify.LawS6323CWhole': WHATEVER THE INPUT: true; the input reads as it did. -/
def lawS6323CWholeSpec : ChangeSpec := { name := "lawS6323CWhole", fn := fun _ => fun
  | [d1, d2, d3] => { results := [.lit (.bool true)], args := [d1, d2, d3] }
  | _ => none }
def lawS6323CWholeRow : OpenClaim := { program := "ybulkdzxs", sum := "edfff056ba1509cabd38bc72af4273d1dab86b5a517713be8a9a700f57998277", func := "example.com/crier/crier/amplify.LawS6323CWhole", spec := "lawS6323CWhole", apart := false }
def LawS6323CWholeSaid : Prop := lawS6323CWholeRow.holds Yba.pinned (OpenSpec.ofChange lawS6323CWholeSpec)

/-- ITS FALSE NEIGHBOUR: 'it returns false'. Refute it at one input. -/
def lawS6323CWholeWrong : ChangeSpec := { name := "lawS6323CWhole", fn := fun _ => fun
  | [d1, d2, d3] => { results := [.lit (.bool false)], args := [d1, d2, d3] }
  | _ => none }
def LawS6323CWholeWrongFalsely : Prop := lawS6323CWholeRow.holds Yba.pinned (OpenSpec.ofChange lawS6323CWholeWrong)

end Rows
end Go.Proofs.Ybulkdzxs
