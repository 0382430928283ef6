/-
  No cell of these rows narrows 'for every input' (looked for: loops, veiled, ifaces, maps, wideKeys, modest, calm, conditions, laid).
  DERIVED. THE GIVEN ROWS OF THIS SEAT. 2 by the template 'for every input the law returns true; each argument reads behind the call as it read before'; 0 by the template 'total and deterministic' (their statements: YbulkecdiTotals.lean).
  GIVEN WITH THE SEED: the statements are not yours to turn. If you find one false, say at which input.
  Laid BY PROGRAM, IN A SANDBOX (cutbox-rows.mjs): the forced cells as the released guide's own fill.sh prints them over the translation 11885eaa2f6951da… (all of the seat's roots in one cut). By AI agents, Wed Nov 11 2026. No macro, syntax, notation, axiom, sorry.
-/
import Derived.Test.YbulkecdiChecked
import GoSem.Claim
import GoSem.ClaimJoined
import GoSem.ClaimMapViews
import Derived.JoinedTies
import Derived.KernelRfl
namespace Go.Proofs.Ybulkecdi
/- THE CELL 'sum', in the pinned program and in every row, IS THE sha256 OF THE DUMP (.gsa) THAT YbulkecdiProg.lean LOADS. Nothing in Lean hashes anything: it is a label: what it is worth is what the hold of that sum in a sandbox is worth. -/
noncomputable def Yba.pinned : Pinned := { name := "ybulkecdi", sum := "11885eaa2f6951da1fa3bfb88b6b88e897fe438b7142c55b03b41586b76cdd0e", checked := Yba.checked }
namespace Rows
def none {H : Type} : Left H := { results := [], args := [] }

/-- 'rendezvous.LawS6430AWhole': WHATEVER THE INPUT: true; the input reads as it did. -/
def lawS6430AWholeSpec : ChangeSpec := { name := "lawS6430AWhole", fn := fun _ => fun
  | [d1, d2, d3, d4] => { results := [.lit (.bool true)], args := [d1, d2, d3, d4] }
  | _ => none }
def lawS6430AWholeRow : OpenClaim := { program := "ybulkecdi", sum := "11885eaa2f6951da1fa3bfb88b6b88e897fe438b7142c55b03b41586b76cdd0e", func := "example.com/rendezvous/rendezvous.LawS6430AWhole", spec := "lawS6430AWhole", apart := false }
def LawS6430AWholeSaid : Prop := lawS6430AWholeRow.holds Yba.pinned (OpenSpec.ofChange lawS6430AWholeSpec)

/-- ITS FALSE NEIGHBOUR: 'it returns false'. Refute it at one input. -/
def lawS6430AWholeWrong : ChangeSpec := { name := "lawS6430AWhole", fn := fun _ => fun
  | [d1, d2, d3, d4] => { results := [.lit (.bool false)], args := [d1, d2, d3, d4] }
  | _ => none }
def LawS6430AWholeWrongFalsely : Prop := lawS6430AWholeRow.holds Yba.pinned (OpenSpec.ofChange lawS6430AWholeWrong)

/-- 'rendezvous.LawS6430CWhole': WHATEVER THE INPUT: true; the input reads as it did. -/
def lawS6430CWholeSpec : ChangeSpec := { name := "lawS6430CWhole", fn := fun _ => fun
  | [d] => { results := [.lit (.bool true)], args := [d] }
  | _ => none }
def lawS6430CWholeRow : OpenClaim := { program := "ybulkecdi", sum := "11885eaa2f6951da1fa3bfb88b6b88e897fe438b7142c55b03b41586b76cdd0e", func := "example.com/rendezvous/rendezvous.LawS6430CWhole", spec := "lawS6430CWhole", apart := false }
def LawS6430CWholeSaid : Prop := lawS6430CWholeRow.holds Yba.pinned (OpenSpec.ofChange lawS6430CWholeSpec)

/-- ITS FALSE NEIGHBOUR: 'it returns false'. Refute it at one input. -/
def lawS6430CWholeWrong : ChangeSpec := { name := "lawS6430CWhole", fn := fun _ => fun
  | [d] => { results := [.lit (.bool false)], args := [d] }
  | _ => none }
def LawS6430CWholeWrongFalsely : Prop := lawS6430CWholeRow.holds Yba.pinned (OpenSpec.ofChange lawS6430CWholeWrong)

end Rows
end Go.Proofs.Ybulkecdi
