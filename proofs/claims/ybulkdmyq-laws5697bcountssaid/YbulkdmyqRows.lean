/-
  No cell of these rows narrows 'for every input' (looked for: loops, veiled, ifaces, maps, wideKeys, modest, calm, conditions, laid).
  DERIVED. THE GIVEN ROWS OF THIS SEAT. 2 by the template 'for every input the law returns true; each argument reads behind the call as it read before'; 0 by the template 'total and deterministic' (their statements: YbulkdmyqTotals.lean).
  GIVEN WITH THE SEED: the statements are not yours to turn. If you find one false, say at which input.
  Laid BY PROGRAM, IN A SANDBOX (cutbox-rows.mjs): the forced cells as the released guide's own fill.sh prints them over the translation 55ca979968fba49d… (all of the seat's roots in one cut). By AI agents, Wed Nov 11 2026. No macro, syntax, notation, axiom, sorry.
-/
import Derived.Test.YbulkdmyqChecked
import GoSem.Claim
import GoSem.ClaimJoined
import GoSem.ClaimMapViews
import Derived.JoinedTies
import Derived.KernelRfl
namespace Go.Proofs.Ybulkdmyq
/- THE CELL 'sum', in the pinned program and in every row, IS THE sha256 OF THE DUMP (.gsa) THAT YbulkdmyqProg.lean LOADS. Nothing in Lean hashes anything: it is a label: what it is worth is what the hold of that sum in a sandbox is worth. -/
noncomputable def Yba.pinned : Pinned := { name := "ybulkdmyq", sum := "55ca979968fba49d86669c79e76879cc2ebb413adc7146a77b8a72b47d93180f", checked := Yba.checked }
namespace Rows
def none {H : Type} : Left H := { results := [], args := [] }

/-- 'punycode.LawS5697BWhole': WHATEVER THE INPUT: true; the input reads as it did. -/
def lawS5697BWholeSpec : ChangeSpec := { name := "lawS5697BWhole", fn := fun _ => fun
  | [d1, d2, d3] => { results := [.lit (.bool true)], args := [d1, d2, d3] }
  | _ => none }
def lawS5697BWholeRow : OpenClaim := { program := "ybulkdmyq", sum := "55ca979968fba49d86669c79e76879cc2ebb413adc7146a77b8a72b47d93180f", func := "nameloom.example/nameloom/punycode.LawS5697BWhole", spec := "lawS5697BWhole", apart := false }
def LawS5697BWholeSaid : Prop := lawS5697BWholeRow.holds Yba.pinned (OpenSpec.ofChange lawS5697BWholeSpec)

/-- ITS FALSE NEIGHBOUR: 'it returns false'. Refute it at one input. -/
def lawS5697BWholeWrong : ChangeSpec := { name := "lawS5697BWhole", fn := fun _ => fun
  | [d1, d2, d3] => { results := [.lit (.bool false)], args := [d1, d2, d3] }
  | _ => none }
def LawS5697BWholeWrongFalsely : Prop := lawS5697BWholeRow.holds Yba.pinned (OpenSpec.ofChange lawS5697BWholeWrong)

/-- 'punycode.LawS5697BCounts': WHATEVER THE INPUT: true; the input reads as it did. -/
def lawS5697BCountsSpec : ChangeSpec := { name := "lawS5697BCounts", fn := fun _ => fun
  | [d1, d2] => { results := [.lit (.bool true)], args := [d1, d2] }
  | _ => none }
def lawS5697BCountsRow : OpenClaim := { program := "ybulkdmyq", sum := "55ca979968fba49d86669c79e76879cc2ebb413adc7146a77b8a72b47d93180f", func := "nameloom.example/nameloom/punycode.LawS5697BCounts", spec := "lawS5697BCounts", apart := false }
def LawS5697BCountsSaid : Prop := lawS5697BCountsRow.holds Yba.pinned (OpenSpec.ofChange lawS5697BCountsSpec)

/-- ITS FALSE NEIGHBOUR: 'it returns false'. Refute it at one input. -/
def lawS5697BCountsWrong : ChangeSpec := { name := "lawS5697BCounts", fn := fun _ => fun
  | [d1, d2] => { results := [.lit (.bool false)], args := [d1, d2] }
  | _ => none }
def LawS5697BCountsWrongFalsely : Prop := lawS5697BCountsRow.holds Yba.pinned (OpenSpec.ofChange lawS5697BCountsWrong)

end Rows
end Go.Proofs.Ybulkdmyq
