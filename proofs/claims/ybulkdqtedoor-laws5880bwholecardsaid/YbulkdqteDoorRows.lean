/-
  NARROWER THAN 'FOR EVERY INPUT', by the rows' own cells (each row's printed sentence says how): LawS5880BWhole: laid.
  DERIVED. THE GIVEN ROWS OF THIS SEAT. 1 by the template 'for every input the law returns true; each argument reads behind the call as it read before'; 0 by the template 'total and deterministic' (their statements: YbulkdqteDoorTotals.lean).
  GIVEN WITH THE SEED: the statements are not yours to turn. If you find one false, say at which input.
  Laid BY PROGRAM, IN A SANDBOX (cutbox-rows.mjs): the forced cells as the released guide's own fill.sh prints them over the translation 56733afecfa11b0d… (all of the seat's roots in one cut). By AI agents, Wed Nov 11 2026. No macro, syntax, notation, axiom, sorry.
-/
import Derived.Test.YbulkdqteDoorChecked
import GoSem.Claim
import GoSem.ClaimJoined
import GoSem.ClaimMapViews
import Derived.JoinedTies
import Derived.KernelRfl
namespace Go.Proofs.YbulkdqteDoor
/- THE CELL 'sum', in the pinned program and in every row, IS THE sha256 OF THE DUMP (.gsa) THAT YbulkdqteDoorProg.lean LOADS. Nothing in Lean hashes anything: it is a label: what it is worth is what the hold of that sum in a sandbox is worth. -/
noncomputable def Ybad.pinned : Pinned := { name := "ybulkdqtedoor", sum := "56733afecfa11b0de14fbbb0f5b804eb3685369f974ca95b6f1ab06a37e4fd4f", checked := Ybad.checked }
namespace Rows
def none {H : Type} : Left H := { results := [], args := [] }

/- WHAT THE LISTED PACKAGE-LEVEL VARIABLES READ AS WHEN THE CALL BEGINS. Each datum BY PROGRAM (the guide's laid-datum.mjs) off the statement by which the dump's own 'gosem.cut.vars' lays the variable. In a bare row this is a premise. The card (YbulkdqteDoorCards.lean) ties it to the program's text. -/
def laid_example_com_crossbook_crossbook_amount_powers {H : Type} : DataW H := .agg [.lit (.int .u64 1), .lit (.int .u64 10), .lit (.int .u64 100), .lit (.int .u64 1000), .lit (.int .u64 10000), .lit (.int .u64 100000), .lit (.int .u64 1000000), .lit (.int .u64 10000000), .lit (.int .u64 100000000), .lit (.int .u64 1000000000), .lit (.int .u64 10000000000), .lit (.int .u64 100000000000), .lit (.int .u64 1000000000000), .lit (.int .u64 10000000000000), .lit (.int .u64 100000000000000), .lit (.int .u64 1000000000000000), .lit (.int .u64 10000000000000000), .lit (.int .u64 100000000000000000), .lit (.int .u64 1000000000000000000)]

/-- 'book.LawS5880BWhole': WHATEVER THE INPUT: true; the input reads as it did. -/
def lawS5880BWholeSpec : ChangeSpec := { name := "lawS5880BWhole", vars := ["example.com/crossbook/crossbook/amount.powers"], fn := fun _ => fun
  | [d1, d2, d3, d4, d5, g1] => { results := [.lit (.bool true)], args := [d1, d2, d3, d4, d5], vars := [g1] }
  | _ => none }
def lawS5880BWholeRow : OpenClaim := { program := "ybulkdqtedoor", sum := "56733afecfa11b0de14fbbb0f5b804eb3685369f974ca95b6f1ab06a37e4fd4f", func := "example.com/crossbook/crossbook/book.LawS5880BWhole", spec := "lawS5880BWhole", named := ["example.com/crossbook/crossbook/amount.powers"], plainKeys := false, apart := false, laid := [("example.com/crossbook/crossbook/amount.powers", laid_example_com_crossbook_crossbook_amount_powers)] }
def LawS5880BWholeSaid : Prop := lawS5880BWholeRow.holds Ybad.pinned (OpenSpec.ofChange lawS5880BWholeSpec)

/-- ITS FALSE NEIGHBOUR: 'it returns false'. Refute it at one input. -/
def lawS5880BWholeWrong : ChangeSpec := { name := "lawS5880BWhole", vars := ["example.com/crossbook/crossbook/amount.powers"], fn := fun _ => fun
  | [d1, d2, d3, d4, d5, g1] => { results := [.lit (.bool false)], args := [d1, d2, d3, d4, d5], vars := [g1] }
  | _ => none }
def LawS5880BWholeWrongFalsely : Prop := lawS5880BWholeRow.holds Ybad.pinned (OpenSpec.ofChange lawS5880BWholeWrong)

end Rows
end Go.Proofs.YbulkdqteDoor
