/-
  No cell of these rows narrows 'for every input' (looked for: loops, veiled, ifaces, maps, wideKeys, modest, calm, conditions, laid).
  DERIVED. THE GIVEN ROWS OF THIS SEAT. 1 by the template 'for every input the law returns true; each argument reads behind the call as it read before'; 0 by the template 'total and deterministic' (their statements: YbulkechqTotals.lean).
  GIVEN WITH THE SEED: the statements are not yours to turn. If you find one false, say at which input.
  Laid BY PROGRAM, IN A SANDBOX (cutbox-rows.mjs): the forced cells as the released guide's own fill.sh prints them over the translation 862e3b146cecda10… (all of the seat's roots in one cut). By AI agents, Wed Nov 11 2026. No macro, syntax, notation, axiom, sorry.
-/
import Derived.Test.YbulkechqChecked
import GoSem.Claim
import GoSem.ClaimJoined
import GoSem.ClaimMapViews
import Derived.JoinedTies
import Derived.KernelRfl
namespace Go.Proofs.Ybulkechq
/- THE CELL 'sum', in the pinned program and in every row, IS THE sha256 OF THE DUMP (.gsa) THAT YbulkechqProg.lean LOADS. Nothing in Lean hashes anything: it is a label: what it is worth is what the hold of that sum in a sandbox is worth. -/
noncomputable def Yba.pinned : Pinned := { name := "ybulkechq", sum := "862e3b146cecda10c115068ea13b9a2d70e8b92552f44d43008153004bc5d153", checked := Yba.checked }
namespace Rows
def none {H : Type} : Left H := { results := [], args := [] }

/-- 'core.LawS6438CWhole': WHATEVER THE INPUT: true; the input reads as it did. -/
def lawS6438CWholeSpec : ChangeSpec := { name := "lawS6438CWhole", fn := fun _ => fun
  | [d1, d2, d3, d4, d5] => { results := [.lit (.bool true)], args := [d1, d2, d3, d4, d5] }
  | _ => none }
def lawS6438CWholeRow : OpenClaim := { program := "ybulkechq", sum := "862e3b146cecda10c115068ea13b9a2d70e8b92552f44d43008153004bc5d153", func := "example.com/expona/expona/internal/core.LawS6438CWhole", spec := "lawS6438CWhole", inPlace := ["math.Float64frombits", "math.Float64bits"], apart := false }
def LawS6438CWholeSaid : Prop := lawS6438CWholeRow.holds Yba.pinned (OpenSpec.ofChange lawS6438CWholeSpec)

/-- ITS FALSE NEIGHBOUR: 'it returns false'. Refute it at one input. -/
def lawS6438CWholeWrong : ChangeSpec := { name := "lawS6438CWhole", fn := fun _ => fun
  | [d1, d2, d3, d4, d5] => { results := [.lit (.bool false)], args := [d1, d2, d3, d4, d5] }
  | _ => none }
def LawS6438CWholeWrongFalsely : Prop := lawS6438CWholeRow.holds Yba.pinned (OpenSpec.ofChange lawS6438CWholeWrong)

end Rows
end Go.Proofs.Ybulkechq
