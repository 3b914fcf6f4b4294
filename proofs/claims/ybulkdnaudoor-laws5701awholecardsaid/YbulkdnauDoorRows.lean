/-
  NARROWER THAN 'FOR EVERY INPUT', by the rows' own cells (each row's printed sentence says how): LawS5701AWhole: laid.
  DERIVED. THE GIVEN ROWS OF THIS SEAT. 1 by the template 'for every input the law returns true; each argument reads behind the call as it read before'; 0 by the template 'total and deterministic' (their statements: YbulkdnauDoorTotals.lean).
  GIVEN WITH THE SEED: the statements are not yours to turn. If you find one false, say at which input.
  Laid BY PROGRAM, IN A SANDBOX (cutbox-rows.mjs): the forced cells as the released guide's own fill.sh prints them over the translation 54c6216c328cf793… (all of the seat's roots in one cut). By AI agents, Wed Nov 11 2026. No macro, syntax, notation, axiom, sorry.
-/
import Derived.Test.YbulkdnauDoorChecked
import GoSem.Claim
import GoSem.ClaimJoined
import GoSem.ClaimMapViews
import Derived.JoinedTies
import Derived.KernelRfl
namespace Go.Proofs.YbulkdnauDoor
/- THE CELL 'sum', in the pinned program and in every row, IS THE sha256 OF THE DUMP (.gsa) THAT YbulkdnauDoorProg.lean LOADS. Nothing in Lean hashes anything: it is a label: what it is worth is what the hold of that sum in a sandbox is worth. -/
noncomputable def Ybad.pinned : Pinned := { name := "ybulkdnaudoor", sum := "54c6216c328cf79331b8b9051f01fbb3942e2332f686b7e02a9aa23032420f2d", checked := Ybad.checked }
namespace Rows
def none {H : Type} : Left H := { results := [], args := [] }

/- WHAT THE LISTED PACKAGE-LEVEL VARIABLES READ AS WHEN THE CALL BEGINS. Each datum BY PROGRAM (the guide's laid-datum.mjs) off the statement by which the dump's own 'gosem.cut.vars' lays the variable. In a bare row this is a premise. The card (YbulkdnauDoorCards.lean) ties it to the program's text. -/
def laid_example_com_wary_policy_wary_policy_internal_document_indicators {H : Type} : DataW H := .agg [.lit (.string []), .lit (.string []), .lit (.string []), .lit (.string []), .lit (.string []), .lit (.string []), .lit (.string []), .lit (.string []), .lit (.string []), .lit (.string [45, 45, 45]), .lit (.string [46, 46, 46]), .lit (.string [45]), .lit (.string [63]), .lit (.string [58]), .lit (.string [91]), .lit (.string [93]), .lit (.string [123]), .lit (.string [125]), .lit (.string [44])]

/-- 'document.LawS5701AWhole': WHATEVER THE INPUT: true; the input reads as it did. -/
def lawS5701AWholeSpec : ChangeSpec := { name := "lawS5701AWhole", vars := ["example.com/wary-policy/wary-policy/internal/document.indicators"], fn := fun _ => fun
  | [d1, d2, d3, d4, d5, d6, d7, d8, d9, d10, d11, g1] => { results := [.lit (.bool true)], args := [d1, d2, d3, d4, d5, d6, d7, d8, d9, d10, d11], vars := [g1] }
  | _ => none }
def lawS5701AWholeRow : OpenClaim := { program := "ybulkdnaudoor", sum := "54c6216c328cf79331b8b9051f01fbb3942e2332f686b7e02a9aa23032420f2d", func := "example.com/wary-policy/wary-policy/internal/document.LawS5701AWhole", spec := "lawS5701AWhole", named := ["example.com/wary-policy/wary-policy/internal/document.indicators"], apart := false, laid := [("example.com/wary-policy/wary-policy/internal/document.indicators", laid_example_com_wary_policy_wary_policy_internal_document_indicators)] }
def LawS5701AWholeSaid : Prop := lawS5701AWholeRow.holds Ybad.pinned (OpenSpec.ofChange lawS5701AWholeSpec)

/-- ITS FALSE NEIGHBOUR: 'it returns false'. Refute it at one input. -/
def lawS5701AWholeWrong : ChangeSpec := { name := "lawS5701AWhole", vars := ["example.com/wary-policy/wary-policy/internal/document.indicators"], fn := fun _ => fun
  | [d1, d2, d3, d4, d5, d6, d7, d8, d9, d10, d11, g1] => { results := [.lit (.bool false)], args := [d1, d2, d3, d4, d5, d6, d7, d8, d9, d10, d11], vars := [g1] }
  | _ => none }
def LawS5701AWholeWrongFalsely : Prop := lawS5701AWholeRow.holds Ybad.pinned (OpenSpec.ofChange lawS5701AWholeWrong)

end Rows
end Go.Proofs.YbulkdnauDoor
