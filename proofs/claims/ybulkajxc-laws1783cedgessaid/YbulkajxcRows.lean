/-
  No cell of these rows narrows 'for every input' (looked for: loops, veiled, ifaces, maps, wideKeys, modest, calm, conditions, laid).
  DERIVED. THE GIVEN ROWS OF THIS SEAT. 2 by the template 'for every input the law returns true; each argument reads behind the call as it read before'; 0 by the template 'total and deterministic' (their statements: YbulkajxcTotals.lean).
  GIVEN WITH THE SEED: the statements are not yours to turn. If you find one false, say at which input.
  Laid BY PROGRAM, IN A SANDBOX (cutbox-rows.mjs): the forced cells as the released guide's own fill.sh prints them over the translation b86ca9f145f0bd9f… (all of the seat's roots in one cut). By AI agents, Wed Nov 11 2026. No macro, syntax, notation, axiom, sorry.
-/
import Derived.Test.YbulkajxcChecked
import GoSem.Claim
import GoSem.ClaimJoined
import GoSem.ClaimMapViews
import Derived.JoinedTies
import Derived.KernelRfl
namespace Go.Proofs.Ybulkajxc
/- THE CELL 'sum', in the pinned program and in every row, IS THE sha256 OF THE DUMP (.gsa) THAT YbulkajxcProg.lean LOADS. Nothing in Lean hashes anything: it is a label: what it is worth is what the hold of that sum in a sandbox is worth. -/
noncomputable def Yba.pinned : Pinned := { name := "ybulkajxc", sum := "b86ca9f145f0bd9fc35264afc0c51eae4ffa1b586867285950bd397d7e7dde1b", checked := Yba.checked }
namespace Rows
def none {H : Type} : Left H := { results := [], args := [] }

/-- 'journal.LawS1783CExact': WHATEVER THE INPUT: true; the input reads as it did. -/
def lawS1783CExactSpec : ChangeSpec := { name := "lawS1783CExact", fn := fun _ => fun
  | [d1, d2, d3] => { results := [.lit (.bool true)], args := [d1, d2, d3] }
  | _ => none }
def lawS1783CExactRow : OpenClaim := { program := "ybulkajxc", sum := "b86ca9f145f0bd9fc35264afc0c51eae4ffa1b586867285950bd397d7e7dde1b", func := "example.com/shortline/shortline/internal/journal.LawS1783CExact", spec := "lawS1783CExact", named := ["encoding/binary.LittleEndian"], apart := false }
def LawS1783CExactSaid : Prop := lawS1783CExactRow.holds Yba.pinned (OpenSpec.ofChange lawS1783CExactSpec)

/-- ITS FALSE NEIGHBOUR: 'it returns false'. Refute it at one input. -/
def lawS1783CExactWrong : ChangeSpec := { name := "lawS1783CExact", fn := fun _ => fun
  | [d1, d2, d3] => { results := [.lit (.bool false)], args := [d1, d2, d3] }
  | _ => none }
def LawS1783CExactWrongFalsely : Prop := lawS1783CExactRow.holds Yba.pinned (OpenSpec.ofChange lawS1783CExactWrong)

/-- 'journal.LawS1783CEdges': WHATEVER THE INPUT: true; the input reads as it did. -/
def lawS1783CEdgesSpec : ChangeSpec := { name := "lawS1783CEdges", fn := fun _ => fun
  | [d1, d2, d3, d4] => { results := [.lit (.bool true)], args := [d1, d2, d3, d4] }
  | _ => none }
def lawS1783CEdgesRow : OpenClaim := { program := "ybulkajxc", sum := "b86ca9f145f0bd9fc35264afc0c51eae4ffa1b586867285950bd397d7e7dde1b", func := "example.com/shortline/shortline/internal/journal.LawS1783CEdges", spec := "lawS1783CEdges", named := ["encoding/binary.LittleEndian"], apart := false }
def LawS1783CEdgesSaid : Prop := lawS1783CEdgesRow.holds Yba.pinned (OpenSpec.ofChange lawS1783CEdgesSpec)

/-- ITS FALSE NEIGHBOUR: 'it returns false'. Refute it at one input. -/
def lawS1783CEdgesWrong : ChangeSpec := { name := "lawS1783CEdges", fn := fun _ => fun
  | [d1, d2, d3, d4] => { results := [.lit (.bool false)], args := [d1, d2, d3, d4] }
  | _ => none }
def LawS1783CEdgesWrongFalsely : Prop := lawS1783CEdgesRow.holds Yba.pinned (OpenSpec.ofChange lawS1783CEdgesWrong)

end Rows
end Go.Proofs.Ybulkajxc
