/-
  No cell of these rows narrows 'for every input' (looked for: loops, veiled, ifaces, maps, wideKeys, modest, calm, conditions, laid).
  DERIVED. THE GIVEN ROWS OF THIS SEAT. 2 by the template 'for every input the law returns true; each argument reads behind the call as it read before'; 0 by the template 'total and deterministic' (their statements: YbulkexpwkTotals.lean).
  GIVEN WITH THE SEED: the statements are not yours to turn. If you find one false, say at which input.
  Laid BY PROGRAM, IN A SANDBOX (cutbox-rows.mjs): the forced cells as the released guide's own fill.sh prints them over the translation d116cbe586f8e5ae… (all of the seat's roots in one cut). By AI agents, Wed Nov 11 2026. No macro, syntax, notation, axiom, sorry.
-/
import Derived.Test.YbulkexpwkChecked
import GoSem.Claim
import GoSem.ClaimJoined
import GoSem.ClaimMapViews
import Derived.JoinedTies
import Derived.KernelRfl
namespace Go.Proofs.Ybulkexpwk
/- THE CELL 'sum', in the pinned program and in every row, IS THE sha256 OF THE DUMP (.gsa) THAT YbulkexpwkProg.lean LOADS. Nothing in Lean hashes anything: it is a label: what it is worth is what the hold of that sum in a sandbox is worth. -/
noncomputable def Yba.pinned : Pinned := { name := "ybulkexpwk", sum := "d116cbe586f8e5aed4a4d2b4c5646a62d3898e478885fefb0d864b9688f2a0a5", checked := Yba.checked }
namespace Rows
def none {H : Type} : Left H := { results := [], args := [] }

/-- 'sorted.LawS194152BWhole': WHATEVER THE INPUT: true; the input reads as it did. -/
def lawS194152BWholeSpec : ChangeSpec := { name := "lawS194152BWhole", fn := fun _ => fun
  | [d1, d2, d3, d4, d5, d6, d7] => { results := [.lit (.bool true)], args := [d1, d2, d3, d4, d5, d6, d7] }
  | _ => none }
def lawS194152BWholeRow : OpenClaim := { program := "ybulkexpwk", sum := "d116cbe586f8e5aed4a4d2b4c5646a62d3898e478885fefb0d864b9688f2a0a5", func := "example.com/tideline/tideline/pkg/sorted.LawS194152BWhole", spec := "lawS194152BWhole", inPlace := ["math.Float64frombits"], unfollowed := true, recurses := true, apart := false }
def LawS194152BWholeSaid : Prop := lawS194152BWholeRow.holds Yba.pinned (OpenSpec.ofChange lawS194152BWholeSpec)

/-- ITS FALSE NEIGHBOUR: 'it returns false'. Refute it at one input. -/
def lawS194152BWholeWrong : ChangeSpec := { name := "lawS194152BWhole", fn := fun _ => fun
  | [d1, d2, d3, d4, d5, d6, d7] => { results := [.lit (.bool false)], args := [d1, d2, d3, d4, d5, d6, d7] }
  | _ => none }
def LawS194152BWholeWrongFalsely : Prop := lawS194152BWholeRow.holds Yba.pinned (OpenSpec.ofChange lawS194152BWholeWrong)

/-- 'replay.LawS194152CWhole': WHATEVER THE INPUT: true; the input reads as it did. -/
def lawS194152CWholeSpec : ChangeSpec := { name := "lawS194152CWhole", fn := fun _ => fun
  | [d1, d2, d3] => { results := [.lit (.bool true)], args := [d1, d2, d3] }
  | _ => none }
def lawS194152CWholeRow : OpenClaim := { program := "ybulkexpwk", sum := "d116cbe586f8e5aed4a4d2b4c5646a62d3898e478885fefb0d864b9688f2a0a5", func := "example.com/tideline/tideline/pkg/replay.LawS194152CWhole", spec := "lawS194152CWhole", apart := false }
def LawS194152CWholeSaid : Prop := lawS194152CWholeRow.holds Yba.pinned (OpenSpec.ofChange lawS194152CWholeSpec)

/-- ITS FALSE NEIGHBOUR: 'it returns false'. Refute it at one input. -/
def lawS194152CWholeWrong : ChangeSpec := { name := "lawS194152CWhole", fn := fun _ => fun
  | [d1, d2, d3] => { results := [.lit (.bool false)], args := [d1, d2, d3] }
  | _ => none }
def LawS194152CWholeWrongFalsely : Prop := lawS194152CWholeRow.holds Yba.pinned (OpenSpec.ofChange lawS194152CWholeWrong)

end Rows
end Go.Proofs.Ybulkexpwk
