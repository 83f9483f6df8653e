/-
  No cell of these rows narrows 'for every input' (looked for: loops, veiled, ifaces, maps, wideKeys, modest, calm, conditions, laid).
  DERIVED. THE GIVEN ROWS OF THIS SEAT. 1 by the template 'for every input the law returns true; each argument reads behind the call as it read before'; 0 by the template 'total and deterministic' (their statements: YbulkdjyoTotals.lean).
  GIVEN WITH THE SEED: the statements are not yours to turn. If you find one false, say at which input.
  Laid BY PROGRAM, IN A SANDBOX (cutbox-rows.mjs): the forced cells as the released guide's own fill.sh prints them over the translation 40c581a2a57e6300… (all of the seat's roots in one cut). By AI agents, Wed Nov 11 2026. No macro, syntax, notation, axiom, sorry.
-/
import Derived.Test.YbulkdjyoChecked
import GoSem.Claim
import GoSem.ClaimJoined
import GoSem.ClaimMapViews
import Derived.JoinedTies
import Derived.KernelRfl
namespace Go.Proofs.Ybulkdjyo
/- THE CELL 'sum', in the pinned program and in every row, IS THE sha256 OF THE DUMP (.gsa) THAT YbulkdjyoProg.lean LOADS. Nothing in Lean hashes anything: it is a label: what it is worth is what the hold of that sum in a sandbox is worth. -/
noncomputable def Yba.pinned : Pinned := { name := "ybulkdjyo", sum := "40c581a2a57e63001afd27615ac2dd896a712257366538cfa1be21b55c99e4da", checked := Yba.checked }
namespace Rows
def none {H : Type} : Left H := { results := [], args := [] }

/-- 'search.LawS5552BWhole': WHATEVER THE INPUT: true; the input reads as it did. -/
def lawS5552BWholeSpec : ChangeSpec := { name := "lawS5552BWhole", fn := fun _ => fun
  | [d] => { results := [.lit (.bool true)], args := [d] }
  | _ => none }
def lawS5552BWholeRow : OpenClaim := { program := "ybulkdjyo", sum := "40c581a2a57e63001afd27615ac2dd896a712257366538cfa1be21b55c99e4da", func := "example.com/percolith/percolith/search.LawS5552BWhole", spec := "lawS5552BWhole", inPlace := ["math.Float64frombits", "math.Float64bits"], apart := false }
def LawS5552BWholeSaid : Prop := lawS5552BWholeRow.holds Yba.pinned (OpenSpec.ofChange lawS5552BWholeSpec)

/-- ITS FALSE NEIGHBOUR: 'it returns false'. Refute it at one input. -/
def lawS5552BWholeWrong : ChangeSpec := { name := "lawS5552BWhole", fn := fun _ => fun
  | [d] => { results := [.lit (.bool false)], args := [d] }
  | _ => none }
def LawS5552BWholeWrongFalsely : Prop := lawS5552BWholeRow.holds Yba.pinned (OpenSpec.ofChange lawS5552BWholeWrong)

end Rows
end Go.Proofs.Ybulkdjyo
