/-
  No cell of these rows narrows 'for every input' (looked for: loops, veiled, ifaces, maps, wideKeys, modest, calm, conditions, laid).
  DERIVED. THE GIVEN ROWS OF THIS SEAT. 1 by the template 'for every input the law returns true; each argument reads behind the call as it read before'; 0 by the template 'total and deterministic' (their statements: YbulkexpteTotals.lean).
  GIVEN WITH THE SEED: the statements are not yours to turn. If you find one false, say at which input.
  Laid BY PROGRAM, IN A SANDBOX (cutbox-rows.mjs): the forced cells as the released guide's own fill.sh prints them over the translation 669e5cf424633cb2… (all of the seat's roots in one cut). By AI agents, Wed Nov 11 2026. No macro, syntax, notation, axiom, sorry.
-/
import Derived.Test.YbulkexpteChecked
import GoSem.Claim
import GoSem.ClaimJoined
import GoSem.ClaimMapViews
import Derived.JoinedTies
import Derived.KernelRfl
namespace Go.Proofs.Ybulkexpte
/- THE CELL 'sum', in the pinned program and in every row, IS THE sha256 OF THE DUMP (.gsa) THAT YbulkexpteProg.lean LOADS. Nothing in Lean hashes anything: it is a label: what it is worth is what the hold of that sum in a sandbox is worth. -/
noncomputable def Yba.pinned : Pinned := { name := "ybulkexpte", sum := "669e5cf424633cb2370b0f7d2116d46dacf4c63eb30be1acdb421245c4aa5491", checked := Yba.checked }
namespace Rows
def none {H : Type} : Left H := { results := [], args := [] }

/-- 'nas.LawS194146CWhole': WHATEVER THE INPUT: true; the input reads as it did. -/
def lawS194146CWholeSpec : ChangeSpec := { name := "lawS194146CWhole", fn := fun _ => fun
  | [d1, d2] => { results := [.lit (.bool true)], args := [d1, d2] }
  | _ => none }
def lawS194146CWholeRow : OpenClaim := { program := "ybulkexpte", sum := "669e5cf424633cb2370b0f7d2116d46dacf4c63eb30be1acdb421245c4aa5491", func := "example.com/corelith/corelith/internal/nas.LawS194146CWhole", spec := "lawS194146CWhole", named := ["encoding/binary.BigEndian"], apart := false }
def LawS194146CWholeSaid : Prop := lawS194146CWholeRow.holds Yba.pinned (OpenSpec.ofChange lawS194146CWholeSpec)

/-- ITS FALSE NEIGHBOUR: 'it returns false'. Refute it at one input. -/
def lawS194146CWholeWrong : ChangeSpec := { name := "lawS194146CWhole", fn := fun _ => fun
  | [d1, d2] => { results := [.lit (.bool false)], args := [d1, d2] }
  | _ => none }
def LawS194146CWholeWrongFalsely : Prop := lawS194146CWholeRow.holds Yba.pinned (OpenSpec.ofChange lawS194146CWholeWrong)

end Rows
end Go.Proofs.Ybulkexpte
