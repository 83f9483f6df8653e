/-
  No cell of these rows narrows 'for every input' (looked for: loops, veiled, ifaces, maps, wideKeys, modest, calm, conditions, laid).
  DERIVED. THE GIVEN ROWS OF THIS SEAT. 1 by the template 'for every input the law returns true; each argument reads behind the call as it read before'; 0 by the template 'total and deterministic' (their statements: YbulkdjuuTotals.lean).
  GIVEN WITH THE SEED: the statements are not yours to turn. If you find one false, say at which input.
  Laid BY PROGRAM, IN A SANDBOX (cutbox-rows.mjs): the forced cells as the released guide's own fill.sh prints them over the translation 8591c8039f966616… (all of the seat's roots in one cut). By AI agents, Wed Nov 11 2026. No macro, syntax, notation, axiom, sorry.
-/
import Derived.Test.YbulkdjuuChecked
import GoSem.Claim
import GoSem.ClaimJoined
import GoSem.ClaimMapViews
import Derived.JoinedTies
import Derived.KernelRfl
namespace Go.Proofs.Ybulkdjuu
/- THE CELL 'sum', in the pinned program and in every row, IS THE sha256 OF THE DUMP (.gsa) THAT YbulkdjuuProg.lean LOADS. Nothing in Lean hashes anything: it is a label: what it is worth is what the hold of that sum in a sandbox is worth. -/
noncomputable def Yba.pinned : Pinned := { name := "ybulkdjuu", sum := "8591c8039f966616aed1af924a03b1233f63628e35da8a516b8d514187d4be49", checked := Yba.checked }
namespace Rows
def none {H : Type} : Left H := { results := [], args := [] }

/-- 'game.LawS5545BWhole': WHATEVER THE INPUT: true; the input reads as it did. -/
def lawS5545BWholeSpec : ChangeSpec := { name := "lawS5545BWhole", fn := fun _ => fun
  | [d1, d2] => { results := [.lit (.bool true)], args := [d1, d2] }
  | _ => none }
def lawS5545BWholeRow : OpenClaim := { program := "ybulkdjuu", sum := "8591c8039f966616aed1af924a03b1233f63628e35da8a516b8d514187d4be49", func := "example.com/turnforge/turnforge/internal/game.LawS5545BWhole", spec := "lawS5545BWhole", apart := false }
def LawS5545BWholeSaid : Prop := lawS5545BWholeRow.holds Yba.pinned (OpenSpec.ofChange lawS5545BWholeSpec)

/-- ITS FALSE NEIGHBOUR: 'it returns false'. Refute it at one input. -/
def lawS5545BWholeWrong : ChangeSpec := { name := "lawS5545BWhole", fn := fun _ => fun
  | [d1, d2] => { results := [.lit (.bool false)], args := [d1, d2] }
  | _ => none }
def LawS5545BWholeWrongFalsely : Prop := lawS5545BWholeRow.holds Yba.pinned (OpenSpec.ofChange lawS5545BWholeWrong)

end Rows
end Go.Proofs.Ybulkdjuu
