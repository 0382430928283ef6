/-
  NARROWER THAN 'FOR EVERY INPUT', by the rows' own cells (each row's printed sentence says how): LawS6431CWhole: laid · LawS6431CHit: laid.
  DERIVED. THE GIVEN ROWS OF THIS SEAT. 2 by the template 'for every input the law returns true; each argument reads behind the call as it read before'; 0 by the template 'total and deterministic' (their statements: YbulkecdwDoorTotals.lean).
  GIVEN WITH THE SEED: the statements are not yours to turn. If you find one false, say at which input.
  Laid BY PROGRAM, IN A SANDBOX (cutbox-rows.mjs): the forced cells as the released guide's own fill.sh prints them over the translation baec8c612a43a5f8… (all of the seat's roots in one cut). By AI agents, Wed Nov 11 2026. No macro, syntax, notation, axiom, sorry.
-/
import Derived.Test.YbulkecdwDoorChecked
import GoSem.Claim
import GoSem.ClaimJoined
import GoSem.ClaimMapViews
import Derived.JoinedTies
import Derived.KernelRfl
namespace Go.Proofs.YbulkecdwDoor
/- THE CELL 'sum', in the pinned program and in every row, IS THE sha256 OF THE DUMP (.gsa) THAT YbulkecdwDoorProg.lean LOADS. Nothing in Lean hashes anything: it is a label: what it is worth is what the hold of that sum in a sandbox is worth. -/
noncomputable def Ybad.pinned : Pinned := { name := "ybulkecdwdoor", sum := "baec8c612a43a5f8749b702cfc32c94cc64c8acffc8ac5a5cf08bc94fbe1333b", checked := Ybad.checked }
namespace Rows
def none {H : Type} : Left H := { results := [], args := [] }

/- WHAT THE LISTED PACKAGE-LEVEL VARIABLES READ AS WHEN THE CALL BEGINS. Each datum BY PROGRAM (the guide's laid-datum.mjs) off the statement by which the dump's own 'gosem.cut.vars' lays the variable. In a bare row this is a premise. The card (YbulkecdwDoorCards.lean) ties it to the program's text. -/
def laid_example_com_matchrate_matchrate_figure_pow10Float {H : Type} : DataW H := .agg [.lit (.float .f64 4607182418800017408), .lit (.float .f64 4621819117588971520), .lit (.float .f64 4636737291354636288), .lit (.float .f64 4652007308841189376), .lit (.float .f64 4666723172467343360), .lit (.float .f64 4681608360884174848), .lit (.float .f64 4696837146684686336), .lit (.float .f64 4711630319722168320), .lit (.float .f64 4726483295884279808), .lit (.float .f64 4741671816366391296), .lit (.float .f64 4756540486875873280), .lit (.float .f64 4771362005757984768), .lit (.float .f64 4786511204640096256), .lit (.float .f64 4801453603149578240), .lit (.float .f64 4816244402031689728), .lit (.float .f64 4831355200913801216), .lit (.float .f64 4846369599423283200), .lit (.float .f64 4861130398305394688), .lit (.float .f64 4876203697187506176), .lit (.float .f64 4891288408196988160), .lit (.float .f64 4906019910204099648)]

/-- 'figure.LawS6431CWhole': WHATEVER THE INPUT: true; the input reads as it did. -/
def lawS6431CWholeSpec : ChangeSpec := { name := "lawS6431CWhole", vars := ["example.com/matchrate/matchrate/figure.pow10Float"], fn := fun _ => fun
  | [d1, d2, g1] => { results := [.lit (.bool true)], args := [d1, d2], vars := [g1] }
  | _ => none }
def lawS6431CWholeRow : OpenClaim := { program := "ybulkecdwdoor", sum := "baec8c612a43a5f8749b702cfc32c94cc64c8acffc8ac5a5cf08bc94fbe1333b", func := "example.com/matchrate/matchrate/figure.LawS6431CWhole", spec := "lawS6431CWhole", inPlace := ["math.Float64bits", "math.Float64frombits", "math.FMA"], named := ["example.com/matchrate/matchrate/figure.pow10Float"], apart := false, laid := [("example.com/matchrate/matchrate/figure.pow10Float", laid_example_com_matchrate_matchrate_figure_pow10Float)] }
def LawS6431CWholeSaid : Prop := lawS6431CWholeRow.holds Ybad.pinned (OpenSpec.ofChange lawS6431CWholeSpec)

/-- ITS FALSE NEIGHBOUR: 'it returns false'. Refute it at one input. -/
def lawS6431CWholeWrong : ChangeSpec := { name := "lawS6431CWhole", vars := ["example.com/matchrate/matchrate/figure.pow10Float"], fn := fun _ => fun
  | [d1, d2, g1] => { results := [.lit (.bool false)], args := [d1, d2], vars := [g1] }
  | _ => none }
def LawS6431CWholeWrongFalsely : Prop := lawS6431CWholeRow.holds Ybad.pinned (OpenSpec.ofChange lawS6431CWholeWrong)

/-- 'figure.LawS6431CHit': WHATEVER THE INPUT: true; the input reads as it did. -/
def lawS6431CHitSpec : ChangeSpec := { name := "lawS6431CHit", vars := ["example.com/matchrate/matchrate/figure.pow10Float"], fn := fun _ => fun
  | [d1, d2, g1] => { results := [.lit (.bool true)], args := [d1, d2], vars := [g1] }
  | _ => none }
def lawS6431CHitRow : OpenClaim := { program := "ybulkecdwdoor", sum := "baec8c612a43a5f8749b702cfc32c94cc64c8acffc8ac5a5cf08bc94fbe1333b", func := "example.com/matchrate/matchrate/figure.LawS6431CHit", spec := "lawS6431CHit", inPlace := ["math.Float64bits", "math.Float64frombits", "math.FMA"], named := ["example.com/matchrate/matchrate/figure.pow10Float"], apart := false, laid := [("example.com/matchrate/matchrate/figure.pow10Float", laid_example_com_matchrate_matchrate_figure_pow10Float)] }
def LawS6431CHitSaid : Prop := lawS6431CHitRow.holds Ybad.pinned (OpenSpec.ofChange lawS6431CHitSpec)

/-- ITS FALSE NEIGHBOUR: 'it returns false'. Refute it at one input. -/
def lawS6431CHitWrong : ChangeSpec := { name := "lawS6431CHit", vars := ["example.com/matchrate/matchrate/figure.pow10Float"], fn := fun _ => fun
  | [d1, d2, g1] => { results := [.lit (.bool false)], args := [d1, d2], vars := [g1] }
  | _ => none }
def LawS6431CHitWrongFalsely : Prop := lawS6431CHitRow.holds Ybad.pinned (OpenSpec.ofChange lawS6431CHitWrong)

end Rows
end Go.Proofs.YbulkecdwDoor
