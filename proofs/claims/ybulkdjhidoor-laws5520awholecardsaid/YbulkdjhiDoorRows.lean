/-
  NARROWER THAN 'FOR EVERY INPUT', by the rows' own cells (each row's printed sentence says how): LawS5520AWhole: laid.
  DERIVED. THE GIVEN ROWS OF THIS SEAT. 1 by the template 'for every input the law returns true; each argument reads behind the call as it read before'; 0 by the template 'total and deterministic' (their statements: YbulkdjhiDoorTotals.lean).
  GIVEN WITH THE SEED: the statements are not yours to turn. If you find one false, say at which input.
  Laid BY PROGRAM, IN A SANDBOX (cutbox-rows.mjs): the forced cells as the released guide's own fill.sh prints them over the translation 1bea98b8a0d09426… (all of the seat's roots in one cut). By AI agents, Wed Nov 11 2026. No macro, syntax, notation, axiom, sorry.
-/
import Derived.Test.YbulkdjhiDoorChecked
import GoSem.Claim
import GoSem.ClaimJoined
import GoSem.ClaimMapViews
import Derived.JoinedTies
import Derived.KernelRfl
namespace Go.Proofs.YbulkdjhiDoor
/- THE CELL 'sum', in the pinned program and in every row, IS THE sha256 OF THE DUMP (.gsa) THAT YbulkdjhiDoorProg.lean LOADS. Nothing in Lean hashes anything: it is a label: what it is worth is what the hold of that sum in a sandbox is worth. -/
noncomputable def Ybad.pinned : Pinned := { name := "ybulkdjhidoor", sum := "1bea98b8a0d094262957dec64394e601cd7ff6306e11425349ed123a280d56b9", checked := Ybad.checked }
namespace Rows
def none {H : Type} : Left H := { results := [], args := [] }

/- WHAT THE LISTED PACKAGE-LEVEL VARIABLES READ AS WHEN THE CALL BEGINS. Each datum BY PROGRAM (the guide's laid-datum.mjs) off the statement by which the dump's own 'gosem.cut.vars' lays the variable. In a bare row this is a premise. The card (YbulkdjhiDoorCards.lean) ties it to the program's text. -/
def laid_example_com_octetwise_octetwise_rateRanges {H : Type} : DataW H := .agg [.agg [.lit (.int .i64 0), .lit (.int .u8 1), .lit (.int .u64 1), .lit (.int .u64 63), .lit (.int .u64 1)], .agg [.lit (.int .i64 0), .lit (.int .u8 64), .lit (.int .u64 64), .lit (.int .u64 568), .lit (.int .u64 8)], .agg [.lit (.int .i64 0), .lit (.int .u8 128), .lit (.int .u64 576), .lit (.int .u64 8640), .lit (.int .u64 64)], .agg [.lit (.int .i64 1), .lit (.int .u8 1), .lit (.int .u64 8700), .lit (.int .u64 16000), .lit (.int .u64 100)], .agg [.lit (.int .i64 1), .lit (.int .u8 75), .lit (.int .u64 17000), .lit (.int .u64 128000), .lit (.int .u64 1000)], .agg [.lit (.int .i64 1), .lit (.int .u8 187), .lit (.int .u64 130000), .lit (.int .u64 256000), .lit (.int .u64 2000)], .agg [.lit (.int .i64 2), .lit (.int .u8 1), .lit (.int .u64 260000), .lit (.int .u64 500000), .lit (.int .u64 4000)], .agg [.lit (.int .i64 2), .lit (.int .u8 62), .lit (.int .u64 510000), .lit (.int .u64 1500000), .lit (.int .u64 10000)], .agg [.lit (.int .i64 2), .lit (.int .u8 162), .lit (.int .u64 1600000), .lit (.int .u64 10000000), .lit (.int .u64 100000)]]

/-- 'octetwise.LawS5520AWhole': WHATEVER THE INPUT: true; the input reads as it did. -/
def lawS5520AWholeSpec : ChangeSpec := { name := "lawS5520AWhole", vars := ["example.com/octetwise/octetwise.rateRanges"], fn := fun _ => fun
  | [d1, d2, g1] => { results := [.lit (.bool true)], args := [d1, d2], vars := [g1] }
  | _ => none }
def lawS5520AWholeRow : OpenClaim := { program := "ybulkdjhidoor", sum := "1bea98b8a0d094262957dec64394e601cd7ff6306e11425349ed123a280d56b9", func := "example.com/octetwise/octetwise.LawS5520AWhole", spec := "lawS5520AWhole", named := ["example.com/octetwise/octetwise.rateRanges"], apart := false, laid := [("example.com/octetwise/octetwise.rateRanges", laid_example_com_octetwise_octetwise_rateRanges)] }
def LawS5520AWholeSaid : Prop := lawS5520AWholeRow.holds Ybad.pinned (OpenSpec.ofChange lawS5520AWholeSpec)

/-- ITS FALSE NEIGHBOUR: 'it returns false'. Refute it at one input. -/
def lawS5520AWholeWrong : ChangeSpec := { name := "lawS5520AWhole", vars := ["example.com/octetwise/octetwise.rateRanges"], fn := fun _ => fun
  | [d1, d2, g1] => { results := [.lit (.bool false)], args := [d1, d2], vars := [g1] }
  | _ => none }
def LawS5520AWholeWrongFalsely : Prop := lawS5520AWholeRow.holds Ybad.pinned (OpenSpec.ofChange lawS5520AWholeWrong)

end Rows
end Go.Proofs.YbulkdjhiDoor
