/-
  No cell of these rows narrows 'for every input' (looked for: loops, veiled, ifaces, maps, wideKeys, modest, calm, conditions, laid).
  DERIVED. THE GIVEN ROWS OF THIS SEAT. 1 by the template 'for every input the law returns true; each argument reads behind the call as it read before'; 0 by the template 'total and deterministic' (their statements: YbulkdqteTotals.lean).
  GIVEN WITH THE SEED: the statements are not yours to turn. If you find one false, say at which input.
  Laid BY PROGRAM, IN A SANDBOX (cutbox-rows.mjs): the forced cells as the released guide's own fill.sh prints them over the translation ee64ec518bcdbe63… (all of the seat's roots in one cut). By AI agents, Wed Nov 11 2026. No macro, syntax, notation, axiom, sorry.
-/
import Derived.Test.YbulkdqteChecked
import GoSem.Claim
import GoSem.ClaimJoined
import GoSem.ClaimMapViews
import Derived.JoinedTies
import Derived.KernelRfl
namespace Go.Proofs.Ybulkdqte
/- THE CELL 'sum', in the pinned program and in every row, IS THE sha256 OF THE DUMP (.gsa) THAT YbulkdqteProg.lean LOADS. Nothing in Lean hashes anything: it is a label: what it is worth is what the hold of that sum in a sandbox is worth. -/
noncomputable def Yba.pinned : Pinned := { name := "ybulkdqte", sum := "ee64ec518bcdbe634d749814018103f954ec1ad4a2bdbe15f977a5d22eb46693", checked := Yba.checked }
namespace Rows
def none {H : Type} : Left H := { results := [], args := [] }

/-- 'book.LawS5880AWhole': WHATEVER THE INPUT: true; the input reads as it did. -/
def lawS5880AWholeSpec : ChangeSpec := { name := "lawS5880AWhole", fn := fun _ => fun
  | [d1, d2, d3] => { results := [.lit (.bool true)], args := [d1, d2, d3] }
  | _ => none }
def lawS5880AWholeRow : OpenClaim := { program := "ybulkdqte", sum := "ee64ec518bcdbe634d749814018103f954ec1ad4a2bdbe15f977a5d22eb46693", func := "example.com/crossbook/crossbook/book.LawS5880AWhole", spec := "lawS5880AWhole", plainKeys := false, apart := false }
def LawS5880AWholeSaid : Prop := lawS5880AWholeRow.holds Yba.pinned (OpenSpec.ofChange lawS5880AWholeSpec)

/-- ITS FALSE NEIGHBOUR: 'it returns false'. Refute it at one input. -/
def lawS5880AWholeWrong : ChangeSpec := { name := "lawS5880AWhole", fn := fun _ => fun
  | [d1, d2, d3] => { results := [.lit (.bool false)], args := [d1, d2, d3] }
  | _ => none }
def LawS5880AWholeWrongFalsely : Prop := lawS5880AWholeRow.holds Yba.pinned (OpenSpec.ofChange lawS5880AWholeWrong)

end Rows
end Go.Proofs.Ybulkdqte
