/-
  No cell of these rows narrows 'for every input' (looked for: loops, veiled, ifaces, maps, wideKeys, modest, calm, conditions, laid).
  DERIVED. THE GIVEN ROWS OF THIS SEAT. 2 by the template 'for every input the law returns true; each argument reads behind the call as it read before'; 0 by the template 'total and deterministic' (their statements: YbulkdqugTotals.lean).
  GIVEN WITH THE SEED: the statements are not yours to turn. If you find one false, say at which input.
  Laid BY PROGRAM, IN A SANDBOX (cutbox-rows.mjs): the forced cells as the released guide's own fill.sh prints them over the translation 4199de8084d911c7… (all of the seat's roots in one cut). By AI agents, Wed Nov 11 2026. No macro, syntax, notation, axiom, sorry.
-/
import Derived.Test.YbulkdqugChecked
import GoSem.Claim
import GoSem.ClaimJoined
import GoSem.ClaimMapViews
import Derived.JoinedTies
import Derived.KernelRfl
namespace Go.Proofs.Ybulkdqug
/- THE CELL 'sum', in the pinned program and in every row, IS THE sha256 OF THE DUMP (.gsa) THAT YbulkdqugProg.lean LOADS. Nothing in Lean hashes anything: it is a label: what it is worth is what the hold of that sum in a sandbox is worth. -/
noncomputable def Yba.pinned : Pinned := { name := "ybulkdqug", sum := "4199de8084d911c7b6214c0ded5cfa5c148047beb5e7894306a47863a98003ec", checked := Yba.checked }
namespace Rows
def none {H : Type} : Left H := { results := [], args := [] }

/-- 'torusbell.LawS5882BWhole': WHATEVER THE INPUT: true; the input reads as it did. -/
def lawS5882BWholeSpec : ChangeSpec := { name := "lawS5882BWhole", fn := fun _ => fun
  | [d1, d2, d3, d4, d5, d6, d7] => { results := [.lit (.bool true)], args := [d1, d2, d3, d4, d5, d6, d7] }
  | _ => none }
def lawS5882BWholeRow : OpenClaim := { program := "ybulkdqug", sum := "4199de8084d911c7b6214c0ded5cfa5c148047beb5e7894306a47863a98003ec", func := "example.com/torusbell/torusbell.LawS5882BWhole", spec := "lawS5882BWhole", unfollowed := true, recurses := true, plainKeys := false, apart := false }
def LawS5882BWholeSaid : Prop := lawS5882BWholeRow.holds Yba.pinned (OpenSpec.ofChange lawS5882BWholeSpec)

/-- ITS FALSE NEIGHBOUR: 'it returns false'. Refute it at one input. -/
def lawS5882BWholeWrong : ChangeSpec := { name := "lawS5882BWhole", fn := fun _ => fun
  | [d1, d2, d3, d4, d5, d6, d7] => { results := [.lit (.bool false)], args := [d1, d2, d3, d4, d5, d6, d7] }
  | _ => none }
def LawS5882BWholeWrongFalsely : Prop := lawS5882BWholeRow.holds Yba.pinned (OpenSpec.ofChange lawS5882BWholeWrong)

/-- 'torusbell.LawS5882CWhole': WHATEVER THE INPUT: true; the input reads as it did. -/
def lawS5882CWholeSpec : ChangeSpec := { name := "lawS5882CWhole", fn := fun _ => fun
  | [d1, d2, d3, d4] => { results := [.lit (.bool true)], args := [d1, d2, d3, d4] }
  | _ => none }
def lawS5882CWholeRow : OpenClaim := { program := "ybulkdqug", sum := "4199de8084d911c7b6214c0ded5cfa5c148047beb5e7894306a47863a98003ec", func := "example.com/torusbell/torusbell.LawS5882CWhole", spec := "lawS5882CWhole", plainKeys := false, apart := false }
def LawS5882CWholeSaid : Prop := lawS5882CWholeRow.holds Yba.pinned (OpenSpec.ofChange lawS5882CWholeSpec)

/-- ITS FALSE NEIGHBOUR: 'it returns false'. Refute it at one input. -/
def lawS5882CWholeWrong : ChangeSpec := { name := "lawS5882CWhole", fn := fun _ => fun
  | [d1, d2, d3, d4] => { results := [.lit (.bool false)], args := [d1, d2, d3, d4] }
  | _ => none }
def LawS5882CWholeWrongFalsely : Prop := lawS5882CWholeRow.holds Yba.pinned (OpenSpec.ofChange lawS5882CWholeWrong)

end Rows
end Go.Proofs.Ybulkdqug
