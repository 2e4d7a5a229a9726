/-
  No cell of these rows narrows 'for every input' (looked for: loops, veiled, ifaces, maps, wideKeys, modest, calm, conditions, laid).
  DERIVED. THE GIVEN ROWS OF THIS SEAT. 1 by the template 'for every input the law returns true; each argument reads behind the call as it read before'; 0 by the template 'total and deterministic' (their statements: YbulkdjikTotals.lean).
  GIVEN WITH THE SEED: the statements are not yours to turn. If you find one false, say at which input.
  Laid BY PROGRAM, IN A SANDBOX (cutbox-rows.mjs): the forced cells as the released guide's own fill.sh prints them over the translation 1c7b77f68dac8b5b… (all of the seat's roots in one cut). By AI agents, Wed Nov 11 2026. No macro, syntax, notation, axiom, sorry.
-/
import Derived.Test.YbulkdjikChecked
import GoSem.Claim
import GoSem.ClaimJoined
import GoSem.ClaimMapViews
import Derived.JoinedTies
import Derived.KernelRfl
namespace Go.Proofs.Ybulkdjik
/- THE CELL 'sum', in the pinned program and in every row, IS THE sha256 OF THE DUMP (.gsa) THAT YbulkdjikProg.lean LOADS. Nothing in Lean hashes anything: it is a label: what it is worth is what the hold of that sum in a sandbox is worth. -/
noncomputable def Yba.pinned : Pinned := { name := "ybulkdjik", sum := "1c7b77f68dac8b5bfbaf3afaacbf635276e3d3adaf9a88585c6ef46b6236a106", checked := Yba.checked }
namespace Rows
def none {H : Type} : Left H := { results := [], args := [] }

/-- 'modulonze.LawS5522CWhole': WHATEVER THE INPUT: true; the input reads as it did. -/
def lawS5522CWholeSpec : ChangeSpec := { name := "lawS5522CWhole", fn := fun _ => fun
  | [d1, d2, d3] => { results := [.lit (.bool true)], args := [d1, d2, d3] }
  | _ => none }
def lawS5522CWholeRow : OpenClaim := { program := "ybulkdjik", sum := "1c7b77f68dac8b5bfbaf3afaacbf635276e3d3adaf9a88585c6ef46b6236a106", func := "example.com/modulonze/modulonze.LawS5522CWhole", spec := "lawS5522CWhole", inPlace := ["internal/abi.NoEscape", "internal/bytealg.MakeNoZero"], apart := false }
def LawS5522CWholeSaid : Prop := lawS5522CWholeRow.holds Yba.pinned (OpenSpec.ofChange lawS5522CWholeSpec)

/-- ITS FALSE NEIGHBOUR: 'it returns false'. Refute it at one input. -/
def lawS5522CWholeWrong : ChangeSpec := { name := "lawS5522CWhole", fn := fun _ => fun
  | [d1, d2, d3] => { results := [.lit (.bool false)], args := [d1, d2, d3] }
  | _ => none }
def LawS5522CWholeWrongFalsely : Prop := lawS5522CWholeRow.holds Yba.pinned (OpenSpec.ofChange lawS5522CWholeWrong)

end Rows
end Go.Proofs.Ybulkdjik
