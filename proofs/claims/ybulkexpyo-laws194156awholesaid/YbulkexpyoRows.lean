/-
  No cell of these rows narrows 'for every input' (looked for: loops, veiled, ifaces, maps, wideKeys, modest, calm, conditions, laid).
  DERIVED. THE GIVEN ROWS OF THIS SEAT. 2 by the template 'for every input the law returns true; each argument reads behind the call as it read before'; 0 by the template 'total and deterministic' (their statements: YbulkexpyoTotals.lean).
  GIVEN WITH THE SEED: the statements are not yours to turn. If you find one false, say at which input.
  Laid BY PROGRAM, IN A SANDBOX (cutbox-rows.mjs): the forced cells as the released guide's own fill.sh prints them over the translation 0546f9ddee2a2cc4… (all of the seat's roots in one cut). By AI agents, Wed Nov 11 2026. No macro, syntax, notation, axiom, sorry.
-/
import Derived.Test.YbulkexpyoChecked
import GoSem.Claim
import GoSem.ClaimJoined
import GoSem.ClaimMapViews
import Derived.JoinedTies
import Derived.KernelRfl
namespace Go.Proofs.Ybulkexpyo
/- THE CELL 'sum', in the pinned program and in every row, IS THE sha256 OF THE DUMP (.gsa) THAT YbulkexpyoProg.lean LOADS. Nothing in Lean hashes anything: it is a label: what it is worth is what the hold of that sum in a sandbox is worth. -/
noncomputable def Yba.pinned : Pinned := { name := "ybulkexpyo", sum := "0546f9ddee2a2cc4ffaabb8e3d8e8e625280247529416df4fec8d6e411ed2037", checked := Yba.checked }
namespace Rows
def none {H : Type} : Left H := { results := [], args := [] }

/-- 'prolog.LawS194156AWhole': WHATEVER THE INPUT: true; the input reads as it did. -/
def lawS194156AWholeSpec : ChangeSpec := { name := "lawS194156AWhole", fn := fun _ => fun
  | [d1, d2, d3, d4, d5] => { results := [.lit (.bool true)], args := [d1, d2, d3, d4, d5] }
  | _ => none }
def lawS194156AWholeRow : OpenClaim := { program := "ybulkexpyo", sum := "0546f9ddee2a2cc4ffaabb8e3d8e8e625280247529416df4fec8d6e411ed2037", func := "example.com/quorate/quorate/internal/prolog.LawS194156AWhole", spec := "lawS194156AWhole", plainKeys := false, apart := false }
def LawS194156AWholeSaid : Prop := lawS194156AWholeRow.holds Yba.pinned (OpenSpec.ofChange lawS194156AWholeSpec)

/-- ITS FALSE NEIGHBOUR: 'it returns false'. Refute it at one input. -/
def lawS194156AWholeWrong : ChangeSpec := { name := "lawS194156AWhole", fn := fun _ => fun
  | [d1, d2, d3, d4, d5] => { results := [.lit (.bool false)], args := [d1, d2, d3, d4, d5] }
  | _ => none }
def LawS194156AWholeWrongFalsely : Prop := lawS194156AWholeRow.holds Yba.pinned (OpenSpec.ofChange lawS194156AWholeWrong)

/-- 'jregex.LawS194156CWhole': WHATEVER THE INPUT: true; the input reads as it did. -/
def lawS194156CWholeSpec : ChangeSpec := { name := "lawS194156CWhole", fn := fun _ => fun
  | [d1, d2, d3, d4] => { results := [.lit (.bool true)], args := [d1, d2, d3, d4] }
  | _ => none }
def lawS194156CWholeRow : OpenClaim := { program := "ybulkexpyo", sum := "0546f9ddee2a2cc4ffaabb8e3d8e8e625280247529416df4fec8d6e411ed2037", func := "example.com/quorate/quorate/internal/jregex.LawS194156CWhole", spec := "lawS194156CWhole", plainKeys := false, apart := false }
def LawS194156CWholeSaid : Prop := lawS194156CWholeRow.holds Yba.pinned (OpenSpec.ofChange lawS194156CWholeSpec)

/-- ITS FALSE NEIGHBOUR: 'it returns false'. Refute it at one input. -/
def lawS194156CWholeWrong : ChangeSpec := { name := "lawS194156CWhole", fn := fun _ => fun
  | [d1, d2, d3, d4] => { results := [.lit (.bool false)], args := [d1, d2, d3, d4] }
  | _ => none }
def LawS194156CWholeWrongFalsely : Prop := lawS194156CWholeRow.holds Yba.pinned (OpenSpec.ofChange lawS194156CWholeWrong)

end Rows
end Go.Proofs.Ybulkexpyo
