/-
  No cell of these rows narrows 'for every input' (looked for: loops, veiled, ifaces, maps, wideKeys, modest, calm, conditions, laid).
  DERIVED. THE GIVEN ROWS OF THIS SEAT. 2 by the template 'for every input the law returns true; each argument reads behind the call as it read before'; 0 by the template 'total and deterministic' (their statements: YbulkdjyaTotals.lean).
  GIVEN WITH THE SEED: the statements are not yours to turn. If you find one false, say at which input.
  Laid BY PROGRAM, IN A SANDBOX (cutbox-rows.mjs): the forced cells as the released guide's own fill.sh prints them over the translation 64fb5403fd902cc8… (all of the seat's roots in one cut). By AI agents, Wed Nov 11 2026. No macro, syntax, notation, axiom, sorry.
-/
import Derived.Test.YbulkdjyaChecked
import GoSem.Claim
import GoSem.ClaimJoined
import GoSem.ClaimMapViews
import Derived.JoinedTies
import Derived.KernelRfl
namespace Go.Proofs.Ybulkdjya
/- THE CELL 'sum', in the pinned program and in every row, IS THE sha256 OF THE DUMP (.gsa) THAT YbulkdjyaProg.lean LOADS. Nothing in Lean hashes anything: it is a label: what it is worth is what the hold of that sum in a sandbox is worth. -/
noncomputable def Yba.pinned : Pinned := { name := "ybulkdjya", sum := "64fb5403fd902cc8c41256be2ace6faa612cd9ac32894cc11619a2e0d4c59cc8", checked := Yba.checked }
namespace Rows
def none {H : Type} : Left H := { results := [], args := [] }

/-- 'dolev.LawS5551BWhole': WHATEVER THE INPUT: true; the input reads as it did. -/
def lawS5551BWholeSpec : ChangeSpec := { name := "lawS5551BWhole", fn := fun _ => fun
  | [d] => { results := [.lit (.bool true)], args := [d] }
  | _ => none }
def lawS5551BWholeRow : OpenClaim := { program := "ybulkdjya", sum := "64fb5403fd902cc8c41256be2ace6faa612cd9ac32894cc11619a2e0d4c59cc8", func := "example.com/truehop/truehop/pkg/dolev.LawS5551BWhole", spec := "lawS5551BWhole", apart := false }
def LawS5551BWholeSaid : Prop := lawS5551BWholeRow.holds Yba.pinned (OpenSpec.ofChange lawS5551BWholeSpec)

/-- ITS FALSE NEIGHBOUR: 'it returns false'. Refute it at one input. -/
def lawS5551BWholeWrong : ChangeSpec := { name := "lawS5551BWhole", fn := fun _ => fun
  | [d] => { results := [.lit (.bool false)], args := [d] }
  | _ => none }
def LawS5551BWholeWrongFalsely : Prop := lawS5551BWholeRow.holds Yba.pinned (OpenSpec.ofChange lawS5551BWholeWrong)

/-- 'dolev.LawS5551BSorted': WHATEVER THE INPUT: true; the input reads as it did. -/
def lawS5551BSortedSpec : ChangeSpec := { name := "lawS5551BSorted", fn := fun _ => fun
  | [d] => { results := [.lit (.bool true)], args := [d] }
  | _ => none }
def lawS5551BSortedRow : OpenClaim := { program := "ybulkdjya", sum := "64fb5403fd902cc8c41256be2ace6faa612cd9ac32894cc11619a2e0d4c59cc8", func := "example.com/truehop/truehop/pkg/dolev.LawS5551BSorted", spec := "lawS5551BSorted", apart := false }
def LawS5551BSortedSaid : Prop := lawS5551BSortedRow.holds Yba.pinned (OpenSpec.ofChange lawS5551BSortedSpec)

/-- ITS FALSE NEIGHBOUR: 'it returns false'. Refute it at one input. -/
def lawS5551BSortedWrong : ChangeSpec := { name := "lawS5551BSorted", fn := fun _ => fun
  | [d] => { results := [.lit (.bool false)], args := [d] }
  | _ => none }
def LawS5551BSortedWrongFalsely : Prop := lawS5551BSortedRow.holds Yba.pinned (OpenSpec.ofChange lawS5551BSortedWrong)

end Rows
end Go.Proofs.Ybulkdjya
