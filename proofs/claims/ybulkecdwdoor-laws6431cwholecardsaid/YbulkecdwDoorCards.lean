/-
  DERIVED. GIVEN WITH THE SEED: THE CARDS: each row of YbulkecdwDoorRows.lean that lists a variable, with what it lists TIED to the program's text (the seventh form; the later family's looks); each row that meets fmt, with fmt's text TOLD by the authors' own Lean function (tested against real Go, not proved from fmt's source: count such statements apart). THE CARD IS WHAT COUNTS. Prove the row's statement (the work); the ties are given (YbulkecdwDoorTie.lean); close each card by the builder's one call (the guide's Derived/Test/ToyasCard.lean, 'card_holds'). Laid BY PROGRAM, IN A SANDBOX (cutbox-door.mjs). By AI agents, Wed Nov 11 2026. No macro, syntax, notation, axiom, sorry.
-/
import Derived.Test.YbulkecdwDoorRows
import GoSem.ClaimSeven
namespace Go.Proofs.YbulkecdwDoor
namespace Rows

/-- THE TIED CARD OF 'figure.LawS6431CWhole'. -/
def lawS6431CWholeCard : Claim7 := { stood := { row := lawS6431CWholeRow, standIns := [], harness := (true, "43174e2e1db2afd4e68fafc241f7733c192a4200dde9734926a4f7444ad4bb7f"), looks := false }, kinds := [], alts := [], laidByText := true, laidKinds := [.called], laidTests := true, laidLooks := .later }
def LawS6431CWholeCardSaid : Prop := Claim7.holds Ybad.pinned (.plain (OpenSpec.ofChange lawS6431CWholeSpec)) lawS6431CWholeCard

/-- THE TIED CARD OF 'figure.LawS6431CHit'. -/
def lawS6431CHitCard : Claim7 := { stood := { row := lawS6431CHitRow, standIns := [], harness := (true, "43174e2e1db2afd4e68fafc241f7733c192a4200dde9734926a4f7444ad4bb7f"), looks := false }, kinds := [], alts := [], laidByText := true, laidKinds := [.called], laidTests := true, laidLooks := .later }
def LawS6431CHitCardSaid : Prop := Claim7.holds Ybad.pinned (.plain (OpenSpec.ofChange lawS6431CHitSpec)) lawS6431CHitCard
end Rows
end Go.Proofs.YbulkecdwDoor
