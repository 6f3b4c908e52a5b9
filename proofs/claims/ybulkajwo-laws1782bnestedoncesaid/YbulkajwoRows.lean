/-
  No cell of these rows narrows 'for every input' (looked for: loops, veiled, ifaces, maps, wideKeys, modest, calm, conditions, laid).
  DERIVED. THE GIVEN ROWS OF THIS SEAT. 2 by the template 'for every input the law returns true; each argument reads behind the call as it read before'; 0 by the template 'total and deterministic' (their statements: YbulkajwoTotals.lean).
  GIVEN WITH THE SEED: the statements are not yours to turn. If you find one false, say at which input.
  Laid BY PROGRAM, IN A SANDBOX (cutbox-rows.mjs): the forced cells as the released guide's own fill.sh prints them over the translation aa83cc61c6063511… (all of the seat's roots in one cut). By AI agents, Wed Nov 11 2026. No macro, syntax, notation, axiom, sorry.
-/
import Derived.Test.YbulkajwoChecked
import GoSem.Claim
import GoSem.ClaimJoined
import GoSem.ClaimMapViews
import Derived.JoinedTies
import Derived.KernelRfl
namespace Go.Proofs.Ybulkajwo
/- THE CELL 'sum', in the pinned program and in every row, IS THE sha256 OF THE DUMP (.gsa) THAT YbulkajwoProg.lean LOADS. Nothing in Lean hashes anything: it is a label: what it is worth is what the hold of that sum in a sandbox is worth. -/
noncomputable def Yba.pinned : Pinned := { name := "ybulkajwo", sum := "aa83cc61c6063511cb5f528c4f399353a40373c0e7d7017d3f881c73a1246188", checked := Yba.checked }
namespace Rows
def none {H : Type} : Left H := { results := [], args := [] }

/-- 'linnet.LawS1782BRunsInOrder': WHATEVER THE INPUT: true; the input reads as it did. -/
def lawS1782BRunsInOrderSpec : ChangeSpec := { name := "lawS1782BRunsInOrder", fn := fun _ => fun
  | [d1, d2, d3] => { results := [.lit (.bool true)], args := [d1, d2, d3] }
  | _ => none }
def lawS1782BRunsInOrderRow : OpenClaim := { program := "ybulkajwo", sum := "aa83cc61c6063511cb5f528c4f399353a40373c0e7d7017d3f881c73a1246188", func := "example.com/linnet/linnet.LawS1782BRunsInOrder", spec := "lawS1782BRunsInOrder", unfollowed := true, recurses := true, apart := false }
def LawS1782BRunsInOrderSaid : Prop := lawS1782BRunsInOrderRow.holds Yba.pinned (OpenSpec.ofChange lawS1782BRunsInOrderSpec)

/-- ITS FALSE NEIGHBOUR: 'it returns false'. Refute it at one input. -/
def lawS1782BRunsInOrderWrong : ChangeSpec := { name := "lawS1782BRunsInOrder", fn := fun _ => fun
  | [d1, d2, d3] => { results := [.lit (.bool false)], args := [d1, d2, d3] }
  | _ => none }
def LawS1782BRunsInOrderWrongFalsely : Prop := lawS1782BRunsInOrderRow.holds Yba.pinned (OpenSpec.ofChange lawS1782BRunsInOrderWrong)

/-- 'linnet.LawS1782BNestedOnce': WHATEVER THE INPUT: true; the input reads as it did. -/
def lawS1782BNestedOnceSpec : ChangeSpec := { name := "lawS1782BNestedOnce", fn := fun _ => fun
  | [d1, d2, d3, d4] => { results := [.lit (.bool true)], args := [d1, d2, d3, d4] }
  | _ => none }
def lawS1782BNestedOnceRow : OpenClaim := { program := "ybulkajwo", sum := "aa83cc61c6063511cb5f528c4f399353a40373c0e7d7017d3f881c73a1246188", func := "example.com/linnet/linnet.LawS1782BNestedOnce", spec := "lawS1782BNestedOnce", unfollowed := true, recurses := true, apart := false }
def LawS1782BNestedOnceSaid : Prop := lawS1782BNestedOnceRow.holds Yba.pinned (OpenSpec.ofChange lawS1782BNestedOnceSpec)

/-- ITS FALSE NEIGHBOUR: 'it returns false'. Refute it at one input. -/
def lawS1782BNestedOnceWrong : ChangeSpec := { name := "lawS1782BNestedOnce", fn := fun _ => fun
  | [d1, d2, d3, d4] => { results := [.lit (.bool false)], args := [d1, d2, d3, d4] }
  | _ => none }
def LawS1782BNestedOnceWrongFalsely : Prop := lawS1782BNestedOnceRow.holds Yba.pinned (OpenSpec.ofChange lawS1782BNestedOnceWrong)

end Rows
end Go.Proofs.Ybulkajwo
