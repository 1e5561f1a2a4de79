/-
  No cell of these rows narrows 'for every input' (looked for: loops, veiled, ifaces, maps, wideKeys, modest, calm, conditions, laid).
  DERIVED. THE GIVEN ROWS OF THIS SEAT. 3 by the template 'for every input the law returns true; each argument reads behind the call as it read before'; 0 by the template 'total and deterministic' (their statements: YbulkdzumTotals.lean).
  GIVEN WITH THE SEED: the statements are not yours to turn. If you find one false, say at which input.
  Laid BY PROGRAM, IN A SANDBOX (cutbox-rows.mjs): the forced cells as the released guide's own fill.sh prints them over the translation af3a31de278b5cb6… (all of the seat's roots in one cut). By AI agents, Wed Nov 11 2026. No macro, syntax, notation, axiom, sorry.
-/
import Derived.Test.YbulkdzumChecked
import GoSem.Claim
import GoSem.ClaimJoined
import GoSem.ClaimMapViews
import Derived.JoinedTies
import Derived.KernelRfl
namespace Go.Proofs.Ybulkdzum
/- THE CELL 'sum', in the pinned program and in every row, IS THE sha256 OF THE DUMP (.gsa) THAT YbulkdzumProg.lean LOADS. Nothing in Lean hashes anything: it is a label: what it is worth is what the hold of that sum in a sandbox is worth. -/
noncomputable def Yba.pinned : Pinned := { name := "ybulkdzum", sum := "af3a31de278b5cb6498215c18ce0fe04b5e8ca7ab6d3c3898f0c3630b4413ddc", checked := Yba.checked }
namespace Rows
def none {H : Type} : Left H := { results := [], args := [] }

/-- 'iron-bucket.LawS6317AWhole': WHATEVER THE INPUT: true; the input reads as it did. -/
def lawS6317AWholeSpec : ChangeSpec := { name := "lawS6317AWhole", fn := fun _ => fun
  | [d1, d2, d3, d4, d5, d6, d7, d8, d9] => { results := [.lit (.bool true)], args := [d1, d2, d3, d4, d5, d6, d7, d8, d9] }
  | _ => none }
def lawS6317AWholeRow : OpenClaim := { program := "ybulkdzum", sum := "af3a31de278b5cb6498215c18ce0fe04b5e8ca7ab6d3c3898f0c3630b4413ddc", func := "example.com/iron-bucket/iron-bucket.LawS6317AWhole", spec := "lawS6317AWhole", unfollowed := true, recurses := true, apart := false }
def LawS6317AWholeSaid : Prop := lawS6317AWholeRow.holds Yba.pinned (OpenSpec.ofChange lawS6317AWholeSpec)

/-- ITS FALSE NEIGHBOUR: 'it returns false'. Refute it at one input. -/
def lawS6317AWholeWrong : ChangeSpec := { name := "lawS6317AWhole", fn := fun _ => fun
  | [d1, d2, d3, d4, d5, d6, d7, d8, d9] => { results := [.lit (.bool false)], args := [d1, d2, d3, d4, d5, d6, d7, d8, d9] }
  | _ => none }
def LawS6317AWholeWrongFalsely : Prop := lawS6317AWholeRow.holds Yba.pinned (OpenSpec.ofChange lawS6317AWholeWrong)

/-- 'iron-bucket.LawS6317BWhole': WHATEVER THE INPUT: true; the input reads as it did. -/
def lawS6317BWholeSpec : ChangeSpec := { name := "lawS6317BWhole", fn := fun _ => fun
  | [d1, d2, d3] => { results := [.lit (.bool true)], args := [d1, d2, d3] }
  | _ => none }
def lawS6317BWholeRow : OpenClaim := { program := "ybulkdzum", sum := "af3a31de278b5cb6498215c18ce0fe04b5e8ca7ab6d3c3898f0c3630b4413ddc", func := "example.com/iron-bucket/iron-bucket.LawS6317BWhole", spec := "lawS6317BWhole", unfollowed := true, recurses := true, apart := false }
def LawS6317BWholeSaid : Prop := lawS6317BWholeRow.holds Yba.pinned (OpenSpec.ofChange lawS6317BWholeSpec)

/-- ITS FALSE NEIGHBOUR: 'it returns false'. Refute it at one input. -/
def lawS6317BWholeWrong : ChangeSpec := { name := "lawS6317BWhole", fn := fun _ => fun
  | [d1, d2, d3] => { results := [.lit (.bool false)], args := [d1, d2, d3] }
  | _ => none }
def LawS6317BWholeWrongFalsely : Prop := lawS6317BWholeRow.holds Yba.pinned (OpenSpec.ofChange lawS6317BWholeWrong)

/-- 'iron-bucket.LawS6317CWhole': WHATEVER THE INPUT: true; the input reads as it did. -/
def lawS6317CWholeSpec : ChangeSpec := { name := "lawS6317CWhole", fn := fun _ => fun
  | [d1, d2, d3, d4] => { results := [.lit (.bool true)], args := [d1, d2, d3, d4] }
  | _ => none }
def lawS6317CWholeRow : OpenClaim := { program := "ybulkdzum", sum := "af3a31de278b5cb6498215c18ce0fe04b5e8ca7ab6d3c3898f0c3630b4413ddc", func := "example.com/iron-bucket/iron-bucket.LawS6317CWhole", spec := "lawS6317CWhole", inPlace := ["math/bits.Add64", "math/bits.Sub64"], named := ["math/bits.divideError", "math/bits.overflowError"], apart := false }
def LawS6317CWholeSaid : Prop := lawS6317CWholeRow.holds Yba.pinned (OpenSpec.ofChange lawS6317CWholeSpec)

/-- ITS FALSE NEIGHBOUR: 'it returns false'. Refute it at one input. -/
def lawS6317CWholeWrong : ChangeSpec := { name := "lawS6317CWhole", fn := fun _ => fun
  | [d1, d2, d3, d4] => { results := [.lit (.bool false)], args := [d1, d2, d3, d4] }
  | _ => none }
def LawS6317CWholeWrongFalsely : Prop := lawS6317CWholeRow.holds Yba.pinned (OpenSpec.ofChange lawS6317CWholeWrong)

end Rows
end Go.Proofs.Ybulkdzum
