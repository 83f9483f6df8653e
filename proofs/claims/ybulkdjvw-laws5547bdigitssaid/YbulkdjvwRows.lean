/-
  No cell of these rows narrows 'for every input' (looked for: loops, veiled, ifaces, maps, wideKeys, modest, calm, conditions, laid).
  DERIVED. THE GIVEN ROWS OF THIS SEAT. 3 by the template 'for every input the law returns true; each argument reads behind the call as it read before'; 0 by the template 'total and deterministic' (their statements: YbulkdjvwTotals.lean).
  GIVEN WITH THE SEED: the statements are not yours to turn. If you find one false, say at which input.
  Laid BY PROGRAM, IN A SANDBOX (cutbox-rows.mjs): the forced cells as the released guide's own fill.sh prints them over the translation 6072fd5b0306de9f… (all of the seat's roots in one cut). By AI agents, Wed Nov 11 2026. No macro, syntax, notation, axiom, sorry.
-/
import Derived.Test.YbulkdjvwChecked
import GoSem.Claim
import GoSem.ClaimJoined
import GoSem.ClaimMapViews
import Derived.JoinedTies
import Derived.KernelRfl
namespace Go.Proofs.Ybulkdjvw
/- THE CELL 'sum', in the pinned program and in every row, IS THE sha256 OF THE DUMP (.gsa) THAT YbulkdjvwProg.lean LOADS. Nothing in Lean hashes anything: it is a label: what it is worth is what the hold of that sum in a sandbox is worth. -/
noncomputable def Yba.pinned : Pinned := { name := "ybulkdjvw", sum := "6072fd5b0306de9f0c7d81206d926f2028445f2f2885bd3a744430cd14c14bbc", checked := Yba.checked }
namespace Rows
def none {H : Type} : Left H := { results := [], args := [] }

/-- 'jsonform.LawS5547AWhole': WHATEVER THE INPUT: true; the input reads as it did. -/
def lawS5547AWholeSpec : ChangeSpec := { name := "lawS5547AWhole", fn := fun _ => fun
  | [d] => { results := [.lit (.bool true)], args := [d] }
  | _ => none }
def lawS5547AWholeRow : OpenClaim := { program := "ybulkdjvw", sum := "6072fd5b0306de9f0c7d81206d926f2028445f2f2885bd3a744430cd14c14bbc", func := "example.com/tagwire/tagwire/jsonform.LawS5547AWhole", spec := "lawS5547AWhole", apart := false }
def LawS5547AWholeSaid : Prop := lawS5547AWholeRow.holds Yba.pinned (OpenSpec.ofChange lawS5547AWholeSpec)

/-- ITS FALSE NEIGHBOUR: 'it returns false'. Refute it at one input. -/
def lawS5547AWholeWrong : ChangeSpec := { name := "lawS5547AWhole", fn := fun _ => fun
  | [d] => { results := [.lit (.bool false)], args := [d] }
  | _ => none }
def LawS5547AWholeWrongFalsely : Prop := lawS5547AWholeRow.holds Yba.pinned (OpenSpec.ofChange lawS5547AWholeWrong)

/-- 'jsonform.LawS5547BWhole': WHATEVER THE INPUT: true; the input reads as it did. -/
def lawS5547BWholeSpec : ChangeSpec := { name := "lawS5547BWhole", fn := fun _ => fun
  | [d1, d2, d3] => { results := [.lit (.bool true)], args := [d1, d2, d3] }
  | _ => none }
def lawS5547BWholeRow : OpenClaim := { program := "ybulkdjvw", sum := "6072fd5b0306de9f0c7d81206d926f2028445f2f2885bd3a744430cd14c14bbc", func := "example.com/tagwire/tagwire/jsonform.LawS5547BWhole", spec := "lawS5547BWhole", apart := false }
def LawS5547BWholeSaid : Prop := lawS5547BWholeRow.holds Yba.pinned (OpenSpec.ofChange lawS5547BWholeSpec)

/-- ITS FALSE NEIGHBOUR: 'it returns false'. Refute it at one input. -/
def lawS5547BWholeWrong : ChangeSpec := { name := "lawS5547BWhole", fn := fun _ => fun
  | [d1, d2, d3] => { results := [.lit (.bool false)], args := [d1, d2, d3] }
  | _ => none }
def LawS5547BWholeWrongFalsely : Prop := lawS5547BWholeRow.holds Yba.pinned (OpenSpec.ofChange lawS5547BWholeWrong)

/-- 'jsonform.LawS5547BDigits': WHATEVER THE INPUT: true; the input reads as it did. -/
def lawS5547BDigitsSpec : ChangeSpec := { name := "lawS5547BDigits", fn := fun _ => fun
  | [d1, d2, d3] => { results := [.lit (.bool true)], args := [d1, d2, d3] }
  | _ => none }
def lawS5547BDigitsRow : OpenClaim := { program := "ybulkdjvw", sum := "6072fd5b0306de9f0c7d81206d926f2028445f2f2885bd3a744430cd14c14bbc", func := "example.com/tagwire/tagwire/jsonform.LawS5547BDigits", spec := "lawS5547BDigits", apart := false }
def LawS5547BDigitsSaid : Prop := lawS5547BDigitsRow.holds Yba.pinned (OpenSpec.ofChange lawS5547BDigitsSpec)

/-- ITS FALSE NEIGHBOUR: 'it returns false'. Refute it at one input. -/
def lawS5547BDigitsWrong : ChangeSpec := { name := "lawS5547BDigits", fn := fun _ => fun
  | [d1, d2, d3] => { results := [.lit (.bool false)], args := [d1, d2, d3] }
  | _ => none }
def LawS5547BDigitsWrongFalsely : Prop := lawS5547BDigitsRow.holds Yba.pinned (OpenSpec.ofChange lawS5547BDigitsWrong)

end Rows
end Go.Proofs.Ybulkdjvw
