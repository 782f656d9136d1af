/-
  No cell of these rows narrows 'for every input' (looked for: loops, veiled, ifaces, maps, wideKeys, modest, calm, conditions, laid).
  DERIVED. THE GIVEN ROWS OF THIS SEAT. 2 by the template 'for every input the law returns true; each argument reads behind the call as it read before'; 0 by the template 'total and deterministic' (their statements: YbulkexpwyTotals.lean).
  GIVEN WITH THE SEED: the statements are not yours to turn. If you find one false, say at which input.
  Laid BY PROGRAM, IN A SANDBOX (cutbox-rows.mjs): the forced cells as the released guide's own fill.sh prints them over the translation 5b6924a8c04e7b4b… (all of the seat's roots in one cut). By AI agents, Wed Nov 11 2026. No macro, syntax, notation, axiom, sorry.
-/
import Derived.Test.YbulkexpwyChecked
import GoSem.Claim
import GoSem.ClaimJoined
import GoSem.ClaimMapViews
import Derived.JoinedTies
import Derived.KernelRfl
namespace Go.Proofs.Ybulkexpwy
/- THE CELL 'sum', in the pinned program and in every row, IS THE sha256 OF THE DUMP (.gsa) THAT YbulkexpwyProg.lean LOADS. Nothing in Lean hashes anything: it is a label: what it is worth is what the hold of that sum in a sandbox is worth. -/
noncomputable def Yba.pinned : Pinned := { name := "ybulkexpwy", sum := "5b6924a8c04e7b4be782b715bb95633117d160c987a035ae9eab6396021e882d", checked := Yba.checked }
namespace Rows
def none {H : Type} : Left H := { results := [], args := [] }

/-- 'eval.LawS194153AWhole': WHATEVER THE INPUT: true; the input reads as it did. -/
def lawS194153AWholeSpec : ChangeSpec := { name := "lawS194153AWhole", fn := fun _ => fun
  | [d1, d2, d3, d4, d5, d6] => { results := [.lit (.bool true)], args := [d1, d2, d3, d4, d5, d6] }
  | _ => none }
def lawS194153AWholeRow : OpenClaim := { program := "ybulkexpwy", sum := "5b6924a8c04e7b4be782b715bb95633117d160c987a035ae9eab6396021e882d", func := "example.com/planwarden/planwarden/eval.LawS194153AWhole", spec := "lawS194153AWhole", inPlace := ["math.Float64bits", "math.archTrunc", "math.Float64frombits"], plainKeys := false, apart := false }
def LawS194153AWholeSaid : Prop := lawS194153AWholeRow.holds Yba.pinned (OpenSpec.ofChange lawS194153AWholeSpec)

/-- ITS FALSE NEIGHBOUR: 'it returns false'. Refute it at one input. -/
def lawS194153AWholeWrong : ChangeSpec := { name := "lawS194153AWhole", fn := fun _ => fun
  | [d1, d2, d3, d4, d5, d6] => { results := [.lit (.bool false)], args := [d1, d2, d3, d4, d5, d6] }
  | _ => none }
def LawS194153AWholeWrongFalsely : Prop := lawS194153AWholeRow.holds Yba.pinned (OpenSpec.ofChange lawS194153AWholeWrong)

/-- 'syntax.LawS194153CWhole': WHATEVER THE INPUT: true; the input reads as it did. -/
def lawS194153CWholeSpec : ChangeSpec := { name := "lawS194153CWhole", fn := fun _ => fun
  | [d1, d2, d3] => { results := [.lit (.bool true)], args := [d1, d2, d3] }
  | _ => none }
def lawS194153CWholeRow : OpenClaim := { program := "ybulkexpwy", sum := "5b6924a8c04e7b4be782b715bb95633117d160c987a035ae9eab6396021e882d", func := "example.com/planwarden/planwarden/syntax.LawS194153CWhole", spec := "lawS194153CWhole", plainKeys := false, apart := false }
def LawS194153CWholeSaid : Prop := lawS194153CWholeRow.holds Yba.pinned (OpenSpec.ofChange lawS194153CWholeSpec)

/-- ITS FALSE NEIGHBOUR: 'it returns false'. Refute it at one input. -/
def lawS194153CWholeWrong : ChangeSpec := { name := "lawS194153CWhole", fn := fun _ => fun
  | [d1, d2, d3] => { results := [.lit (.bool false)], args := [d1, d2, d3] }
  | _ => none }
def LawS194153CWholeWrongFalsely : Prop := lawS194153CWholeRow.holds Yba.pinned (OpenSpec.ofChange lawS194153CWholeWrong)

end Rows
end Go.Proofs.Ybulkexpwy
