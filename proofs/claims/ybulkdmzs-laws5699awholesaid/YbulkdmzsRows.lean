/-
  No cell of these rows narrows 'for every input' (looked for: loops, veiled, ifaces, maps, wideKeys, modest, calm, conditions, laid).
  DERIVED. THE GIVEN ROWS OF THIS SEAT. 1 by the template 'for every input the law returns true; each argument reads behind the call as it read before'; 0 by the template 'total and deterministic' (their statements: YbulkdmzsTotals.lean).
  GIVEN WITH THE SEED: the statements are not yours to turn. If you find one false, say at which input.
  Laid BY PROGRAM, IN A SANDBOX (cutbox-rows.mjs): the forced cells as the released guide's own fill.sh prints them over the translation 2dad53b885b0e9f5… (all of the seat's roots in one cut). By AI agents, Wed Nov 11 2026. No macro, syntax, notation, axiom, sorry.
-/
import Derived.Test.YbulkdmzsChecked
import GoSem.Claim
import GoSem.ClaimJoined
import GoSem.ClaimMapViews
import Derived.JoinedTies
import Derived.KernelRfl
namespace Go.Proofs.Ybulkdmzs
/- THE CELL 'sum', in the pinned program and in every row, IS THE sha256 OF THE DUMP (.gsa) THAT YbulkdmzsProg.lean LOADS. Nothing in Lean hashes anything: it is a label: what it is worth is what the hold of that sum in a sandbox is worth. -/
noncomputable def Yba.pinned : Pinned := { name := "ybulkdmzs", sum := "2dad53b885b0e9f534ec426e8cdd5aa25b1e847069f4469d3293b83fb4d8ed72", checked := Yba.checked }
namespace Rows
def none {H : Type} : Left H := { results := [], args := [] }

/-- 'btree.LawS5699AWhole': WHATEVER THE INPUT: true; the input reads as it did. -/
def lawS5699AWholeSpec : ChangeSpec := { name := "lawS5699AWhole", fn := fun _ => fun
  | [d1, d2, d3] => { results := [.lit (.bool true)], args := [d1, d2, d3] }
  | _ => none }
def lawS5699AWholeRow : OpenClaim := { program := "ybulkdmzs", sum := "2dad53b885b0e9f534ec426e8cdd5aa25b1e847069f4469d3293b83fb4d8ed72", func := "example.com/sevenbyte/sevenbyte/btree.LawS5699AWhole", spec := "lawS5699AWhole", apart := false }
def LawS5699AWholeSaid : Prop := lawS5699AWholeRow.holds Yba.pinned (OpenSpec.ofChange lawS5699AWholeSpec)

/-- ITS FALSE NEIGHBOUR: 'it returns false'. Refute it at one input. -/
def lawS5699AWholeWrong : ChangeSpec := { name := "lawS5699AWhole", fn := fun _ => fun
  | [d1, d2, d3] => { results := [.lit (.bool false)], args := [d1, d2, d3] }
  | _ => none }
def LawS5699AWholeWrongFalsely : Prop := lawS5699AWholeRow.holds Yba.pinned (OpenSpec.ofChange lawS5699AWholeWrong)

end Rows
end Go.Proofs.Ybulkdmzs
