/-
  No cell of these rows narrows 'for every input' (looked for: loops, veiled, ifaces, maps, wideKeys, modest, calm, conditions, laid).
  DERIVED. THE GIVEN ROWS OF THIS SEAT. 1 by the template 'for every input the law returns true; each argument reads behind the call as it read before'; 0 by the template 'total and deterministic' (their statements: YbulkdqwyTotals.lean).
  GIVEN WITH THE SEED: the statements are not yours to turn. If you find one false, say at which input.
  Laid BY PROGRAM, IN A SANDBOX (cutbox-rows.mjs): the forced cells as the released guide's own fill.sh prints them over the translation 8f97a7efbeceee11… (all of the seat's roots in one cut). By AI agents, Wed Nov 11 2026. No macro, syntax, notation, axiom, sorry.
-/
import Derived.Test.YbulkdqwyChecked
import GoSem.Claim
import GoSem.ClaimJoined
import GoSem.ClaimMapViews
import Derived.JoinedTies
import Derived.KernelRfl
namespace Go.Proofs.Ybulkdqwy
/- THE CELL 'sum', in the pinned program and in every row, IS THE sha256 OF THE DUMP (.gsa) THAT YbulkdqwyProg.lean LOADS. Nothing in Lean hashes anything: it is a label: what it is worth is what the hold of that sum in a sandbox is worth. -/
noncomputable def Yba.pinned : Pinned := { name := "ybulkdqwy", sum := "8f97a7efbeceee11d2d0cf5b83b3f17a2f6a84f244cb7ebf65e0691d6088b800", checked := Yba.checked }
namespace Rows
def none {H : Type} : Left H := { results := [], args := [] }

/-- 'limits.LawS5887BWhole': WHATEVER THE INPUT: true; the input reads as it did. -/
def lawS5887BWholeSpec : ChangeSpec := { name := "lawS5887BWhole", fn := fun _ => fun
  | [d1, d2, d3, d4] => { results := [.lit (.bool true)], args := [d1, d2, d3, d4] }
  | _ => none }
def lawS5887BWholeRow : OpenClaim := { program := "ybulkdqwy", sum := "8f97a7efbeceee11d2d0cf5b83b3f17a2f6a84f244cb7ebf65e0691d6088b800", func := "example.com/tenorguard/tenorguard/limits.LawS5887BWhole", spec := "lawS5887BWhole", inPlace := ["math/big.addVV", "math/bits.Add64", "math/big.subVV", "math/bits.Sub64"], recurses := true, apart := false }
def LawS5887BWholeSaid : Prop := lawS5887BWholeRow.holds Yba.pinned (OpenSpec.ofChange lawS5887BWholeSpec)

/-- ITS FALSE NEIGHBOUR: 'it returns false'. Refute it at one input. -/
def lawS5887BWholeWrong : ChangeSpec := { name := "lawS5887BWhole", fn := fun _ => fun
  | [d1, d2, d3, d4] => { results := [.lit (.bool false)], args := [d1, d2, d3, d4] }
  | _ => none }
def LawS5887BWholeWrongFalsely : Prop := lawS5887BWholeRow.holds Yba.pinned (OpenSpec.ofChange lawS5887BWholeWrong)

end Rows
end Go.Proofs.Ybulkdqwy
