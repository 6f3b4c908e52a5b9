/-
  No cell of these rows narrows 'for every input' (looked for: loops, veiled, ifaces, maps, wideKeys, modest, calm, conditions, laid).
  DERIVED. THE GIVEN ROWS OF THIS SEAT. 2 by the template 'for every input the law returns true; each argument reads behind the call as it read before'; 0 by the template 'total and deterministic' (their statements: YbulkajysTotals.lean).
  GIVEN WITH THE SEED: the statements are not yours to turn. If you find one false, say at which input.
  Laid BY PROGRAM, IN A SANDBOX (cutbox-rows.mjs): the forced cells as the released guide's own fill.sh prints them over the translation 114bffff62ec1562… (all of the seat's roots in one cut). By AI agents, Wed Nov 11 2026. No macro, syntax, notation, axiom, sorry.
-/
import Derived.Test.YbulkajysChecked
import GoSem.Claim
import GoSem.ClaimJoined
import GoSem.ClaimMapViews
import Derived.JoinedTies
import Derived.KernelRfl
namespace Go.Proofs.Ybulkajys
/- THE CELL 'sum', in the pinned program and in every row, IS THE sha256 OF THE DUMP (.gsa) THAT YbulkajysProg.lean LOADS. Nothing in Lean hashes anything: it is a label: what it is worth is what the hold of that sum in a sandbox is worth. -/
noncomputable def Yba.pinned : Pinned := { name := "ybulkajys", sum := "114bffff62ec1562b156f95f042652e2bb84f8d1e1b1ab3fd42f9c6ac917c800", checked := Yba.checked }
namespace Rows
def none {H : Type} : Left H := { results := [], args := [] }

/-- 'cocles.LawS1786CFree': WHATEVER THE INPUT: true; the input reads as it did. -/
def lawS1786CFreeSpec : ChangeSpec := { name := "lawS1786CFree", fn := fun _ => fun
  | [d1, d2] => { results := [.lit (.bool true)], args := [d1, d2] }
  | _ => none }
def lawS1786CFreeRow : OpenClaim := { program := "ybulkajys", sum := "114bffff62ec1562b156f95f042652e2bb84f8d1e1b1ab3fd42f9c6ac917c800", func := "example.com/cocles/cocles.LawS1786CFree", spec := "lawS1786CFree", inPlace := ["sync/atomic.LoadInt32", "runtime.Gosched", "sync/atomic.CompareAndSwapInt32", "sync/atomic.AddInt32", "sync/atomic.StoreInt32"], unfollowed := true, recurses := true, apart := false }
def LawS1786CFreeSaid : Prop := lawS1786CFreeRow.holds Yba.pinned (OpenSpec.ofChange lawS1786CFreeSpec)

/-- ITS FALSE NEIGHBOUR: 'it returns false'. Refute it at one input. -/
def lawS1786CFreeWrong : ChangeSpec := { name := "lawS1786CFree", fn := fun _ => fun
  | [d1, d2] => { results := [.lit (.bool false)], args := [d1, d2] }
  | _ => none }
def LawS1786CFreeWrongFalsely : Prop := lawS1786CFreeRow.holds Yba.pinned (OpenSpec.ofChange lawS1786CFreeWrong)

/-- 'cocles.LawS1786CWake': WHATEVER THE INPUT: true; the input reads as it did. -/
def lawS1786CWakeSpec : ChangeSpec := { name := "lawS1786CWake", fn := fun _ => fun
  | [d1, d2] => { results := [.lit (.bool true)], args := [d1, d2] }
  | _ => none }
def lawS1786CWakeRow : OpenClaim := { program := "ybulkajys", sum := "114bffff62ec1562b156f95f042652e2bb84f8d1e1b1ab3fd42f9c6ac917c800", func := "example.com/cocles/cocles.LawS1786CWake", spec := "lawS1786CWake", inPlace := ["sync/atomic.LoadInt32", "runtime.Gosched", "sync/atomic.CompareAndSwapInt32", "sync/atomic.AddInt32", "sync/atomic.StoreInt32"], unfollowed := true, recurses := true, apart := false }
def LawS1786CWakeSaid : Prop := lawS1786CWakeRow.holds Yba.pinned (OpenSpec.ofChange lawS1786CWakeSpec)

/-- ITS FALSE NEIGHBOUR: 'it returns false'. Refute it at one input. -/
def lawS1786CWakeWrong : ChangeSpec := { name := "lawS1786CWake", fn := fun _ => fun
  | [d1, d2] => { results := [.lit (.bool false)], args := [d1, d2] }
  | _ => none }
def LawS1786CWakeWrongFalsely : Prop := lawS1786CWakeRow.holds Yba.pinned (OpenSpec.ofChange lawS1786CWakeWrong)

end Rows
end Go.Proofs.Ybulkajys
