/-
  No cell of these rows narrows 'for every input' (looked for: loops, veiled, ifaces, maps, wideKeys, modest, calm, conditions, laid).
  DERIVED. THE GIVEN ROWS OF THIS SEAT. 1 by the template 'for every input the law returns true; each argument reads behind the call as it read before'; 0 by the template 'total and deterministic' (their statements: YbulkdjhiTotals.lean).
  GIVEN WITH THE SEED: the statements are not yours to turn. If you find one false, say at which input.
  Laid BY PROGRAM, IN A SANDBOX (cutbox-rows.mjs): the forced cells as the released guide's own fill.sh prints them over the translation cd9533a0706977b6… (all of the seat's roots in one cut). By AI agents, Wed Nov 11 2026. No macro, syntax, notation, axiom, sorry.
-/
import Derived.Test.YbulkdjhiChecked
import GoSem.Claim
import GoSem.ClaimJoined
import GoSem.ClaimMapViews
import Derived.JoinedTies
import Derived.KernelRfl
namespace Go.Proofs.Ybulkdjhi
/- THE CELL 'sum', in the pinned program and in every row, IS THE sha256 OF THE DUMP (.gsa) THAT YbulkdjhiProg.lean LOADS. Nothing in Lean hashes anything: it is a label: what it is worth is what the hold of that sum in a sandbox is worth. -/
noncomputable def Yba.pinned : Pinned := { name := "ybulkdjhi", sum := "cd9533a0706977b60f2e7642a94f9b7d237981bfef0fc04d22ca8546a23809bc", checked := Yba.checked }
namespace Rows
def none {H : Type} : Left H := { results := [], args := [] }

/-- 'octetwise.LawS5520CWhole': WHATEVER THE INPUT: true; the input reads as it did. -/
def lawS5520CWholeSpec : ChangeSpec := { name := "lawS5520CWhole", fn := fun _ => fun
  | [d] => { results := [.lit (.bool true)], args := [d] }
  | _ => none }
def lawS5520CWholeRow : OpenClaim := { program := "ybulkdjhi", sum := "cd9533a0706977b60f2e7642a94f9b7d237981bfef0fc04d22ca8546a23809bc", func := "example.com/octetwise/octetwise.LawS5520CWhole", spec := "lawS5520CWhole", apart := false }
def LawS5520CWholeSaid : Prop := lawS5520CWholeRow.holds Yba.pinned (OpenSpec.ofChange lawS5520CWholeSpec)

/-- ITS FALSE NEIGHBOUR: 'it returns false'. Refute it at one input. -/
def lawS5520CWholeWrong : ChangeSpec := { name := "lawS5520CWhole", fn := fun _ => fun
  | [d] => { results := [.lit (.bool false)], args := [d] }
  | _ => none }
def LawS5520CWholeWrongFalsely : Prop := lawS5520CWholeRow.holds Yba.pinned (OpenSpec.ofChange lawS5520CWholeWrong)

end Rows
end Go.Proofs.Ybulkdjhi
