/-
  No cell of these rows narrows 'for every input' (looked for: loops, veiled, ifaces, maps, wideKeys, modest, calm, conditions, laid).
  DERIVED. THE GIVEN ROWS OF THIS SEAT. 2 by the template 'for every input the law returns true; each argument reads behind the call as it read before'; 0 by the template 'total and deterministic' (their statements: YbulkdjhwTotals.lean).
  GIVEN WITH THE SEED: the statements are not yours to turn. If you find one false, say at which input.
  Laid BY PROGRAM, IN A SANDBOX (cutbox-rows.mjs): the forced cells as the released guide's own fill.sh prints them over the translation 5380f8271fbd055c… (all of the seat's roots in one cut). By AI agents, Wed Nov 11 2026. No macro, syntax, notation, axiom, sorry.
-/
import Derived.Test.YbulkdjhwChecked
import GoSem.Claim
import GoSem.ClaimJoined
import GoSem.ClaimMapViews
import Derived.JoinedTies
import Derived.KernelRfl
namespace Go.Proofs.Ybulkdjhw
/- THE CELL 'sum', in the pinned program and in every row, IS THE sha256 OF THE DUMP (.gsa) THAT YbulkdjhwProg.lean LOADS. Nothing in Lean hashes anything: it is a label: what it is worth is what the hold of that sum in a sandbox is worth. -/
noncomputable def Yba.pinned : Pinned := { name := "ybulkdjhw", sum := "5380f8271fbd055cb947e92419999d3a7cc94f50e57407702efd226401471465", checked := Yba.checked }
namespace Rows
def none {H : Type} : Left H := { results := [], args := [] }

/-- 'ucd.LawS5521AWhole': WHATEVER THE INPUT: true; the input reads as it did. -/
def lawS5521AWholeSpec : ChangeSpec := { name := "lawS5521AWhole", fn := fun _ => fun
  | [d1, d2, d3, d4, d5, d6, d7] => { results := [.lit (.bool true)], args := [d1, d2, d3, d4, d5, d6, d7] }
  | _ => none }
def lawS5521AWholeRow : OpenClaim := { program := "ybulkdjhw", sum := "5380f8271fbd055cb947e92419999d3a7cc94f50e57407702efd226401471465", func := "example.com/labelgate/labelgate/internal/ucd.LawS5521AWhole", spec := "lawS5521AWhole", recurses := true, plainKeys := false, apart := false }
def LawS5521AWholeSaid : Prop := lawS5521AWholeRow.holds Yba.pinned (OpenSpec.ofChange lawS5521AWholeSpec)

/-- ITS FALSE NEIGHBOUR: 'it returns false'. Refute it at one input. -/
def lawS5521AWholeWrong : ChangeSpec := { name := "lawS5521AWhole", fn := fun _ => fun
  | [d1, d2, d3, d4, d5, d6, d7] => { results := [.lit (.bool false)], args := [d1, d2, d3, d4, d5, d6, d7] }
  | _ => none }
def LawS5521AWholeWrongFalsely : Prop := lawS5521AWholeRow.holds Yba.pinned (OpenSpec.ofChange lawS5521AWholeWrong)

/-- 'labelgate.LawS5521CPart': WHATEVER THE INPUT: true; the input reads as it did. -/
def lawS5521CPartSpec : ChangeSpec := { name := "lawS5521CPart", fn := fun _ => fun
  | [d] => { results := [.lit (.bool true)], args := [d] }
  | _ => none }
def lawS5521CPartRow : OpenClaim := { program := "ybulkdjhw", sum := "5380f8271fbd055cb947e92419999d3a7cc94f50e57407702efd226401471465", func := "example.com/labelgate/labelgate.LawS5521CPart", spec := "lawS5521CPart", unfollowed := true, recurses := true, plainKeys := false, apart := false }
def LawS5521CPartSaid : Prop := lawS5521CPartRow.holds Yba.pinned (OpenSpec.ofChange lawS5521CPartSpec)

/-- ITS FALSE NEIGHBOUR: 'it returns false'. Refute it at one input. -/
def lawS5521CPartWrong : ChangeSpec := { name := "lawS5521CPart", fn := fun _ => fun
  | [d] => { results := [.lit (.bool false)], args := [d] }
  | _ => none }
def LawS5521CPartWrongFalsely : Prop := lawS5521CPartRow.holds Yba.pinned (OpenSpec.ofChange lawS5521CPartWrong)

end Rows
end Go.Proofs.Ybulkdjhw
