/-
  NARROWER THAN 'FOR EVERY INPUT', by the rows' own cells (each row's printed sentence says how): LawS5696CWhole: laid.
  DERIVED. THE GIVEN ROWS OF THIS SEAT. 1 by the template 'for every input the law returns true; each argument reads behind the call as it read before'; 0 by the template 'total and deterministic' (their statements: YbulkdmycDoorTotals.lean).
  GIVEN WITH THE SEED: the statements are not yours to turn. If you find one false, say at which input.
  Laid BY PROGRAM, IN A SANDBOX (cutbox-rows.mjs): the forced cells as the released guide's own fill.sh prints them over the translation fb04d4e7136f0e59… (all of the seat's roots in one cut). By AI agents, Wed Nov 11 2026. No macro, syntax, notation, axiom, sorry.
-/
import Derived.Test.YbulkdmycDoorChecked
import GoSem.Claim
import GoSem.ClaimJoined
import GoSem.ClaimMapViews
import Derived.JoinedTies
import Derived.KernelRfl
namespace Go.Proofs.YbulkdmycDoor
/- THE CELL 'sum', in the pinned program and in every row, IS THE sha256 OF THE DUMP (.gsa) THAT YbulkdmycDoorProg.lean LOADS. Nothing in Lean hashes anything: it is a label: what it is worth is what the hold of that sum in a sandbox is worth. -/
noncomputable def Ybad.pinned : Pinned := { name := "ybulkdmycdoor", sum := "fb04d4e7136f0e592ca1d26fd5def8906fe609a423e91d91773479989f1fc736", checked := Ybad.checked }
namespace Rows
def none {H : Type} : Left H := { results := [], args := [] }

/- WHAT THE LISTED PACKAGE-LEVEL VARIABLES READ AS WHEN THE CALL BEGINS. Each datum BY PROGRAM (the guide's laid-datum.mjs) off the statement by which the dump's own 'gosem.cut.vars' lays the variable. In a bare row this is a premise. The card (YbulkdmycDoorCards.lean) ties it to the program's text. -/
def laid_example_com_tundrakey_tundrakey_mgm_lanes {H : Type} : DataW H := .agg [.lit (.int .u64 1190112520884487201), .lit (.int .u64 2380225041768974402), .lit (.int .u64 4760450083537948804), .lit (.int .u64 9520900167075897608), .lit (.int .u64 595056260442243600)]

/-- 'mgm.LawS5696CWhole': WHATEVER THE INPUT: true; the input reads as it did. -/
def lawS5696CWholeSpec : ChangeSpec := { name := "lawS5696CWhole", vars := ["example.com/tundrakey/tundrakey/mgm.lanes"], fn := fun _ => fun
  | [d1, d2, d3, d4, g1] => { results := [.lit (.bool true)], args := [d1, d2, d3, d4], vars := [g1] }
  | _ => none }
def lawS5696CWholeRow : OpenClaim := { program := "ybulkdmycdoor", sum := "fb04d4e7136f0e592ca1d26fd5def8906fe609a423e91d91773479989f1fc736", func := "example.com/tundrakey/tundrakey/mgm.LawS5696CWhole", spec := "lawS5696CWhole", named := ["example.com/tundrakey/tundrakey/mgm.lanes"], apart := false, laid := [("example.com/tundrakey/tundrakey/mgm.lanes", laid_example_com_tundrakey_tundrakey_mgm_lanes)] }
def LawS5696CWholeSaid : Prop := lawS5696CWholeRow.holds Ybad.pinned (OpenSpec.ofChange lawS5696CWholeSpec)

/-- ITS FALSE NEIGHBOUR: 'it returns false'. Refute it at one input. -/
def lawS5696CWholeWrong : ChangeSpec := { name := "lawS5696CWhole", vars := ["example.com/tundrakey/tundrakey/mgm.lanes"], fn := fun _ => fun
  | [d1, d2, d3, d4, g1] => { results := [.lit (.bool false)], args := [d1, d2, d3, d4], vars := [g1] }
  | _ => none }
def LawS5696CWholeWrongFalsely : Prop := lawS5696CWholeRow.holds Ybad.pinned (OpenSpec.ofChange lawS5696CWholeWrong)

end Rows
end Go.Proofs.YbulkdmycDoor
