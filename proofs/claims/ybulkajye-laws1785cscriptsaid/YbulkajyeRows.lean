/-
  No cell of these rows narrows 'for every input' (looked for: loops, veiled, ifaces, maps, wideKeys, modest, calm, conditions, laid).
  DERIVED. THE GIVEN ROWS OF THIS SEAT. 2 by the template 'for every input the law returns true; each argument reads behind the call as it read before'; 0 by the template 'total and deterministic' (their statements: YbulkajyeTotals.lean).
  GIVEN WITH THE SEED: the statements are not yours to turn. If you find one false, say at which input.
  Laid BY PROGRAM, IN A SANDBOX (cutbox-rows.mjs): the forced cells as the released guide's own fill.sh prints them over the translation 43613447e58521e6… (all of the seat's roots in one cut). By AI agents, Wed Nov 11 2026. No macro, syntax, notation, axiom, sorry.
-/
import Derived.Test.YbulkajyeChecked
import GoSem.Claim
import GoSem.ClaimJoined
import GoSem.ClaimMapViews
import Derived.JoinedTies
import Derived.KernelRfl
namespace Go.Proofs.Ybulkajye
/- THE CELL 'sum', in the pinned program and in every row, IS THE sha256 OF THE DUMP (.gsa) THAT YbulkajyeProg.lean LOADS. Nothing in Lean hashes anything: it is a label: what it is worth is what the hold of that sum in a sandbox is worth. -/
noncomputable def Yba.pinned : Pinned := { name := "ybulkajye", sum := "43613447e58521e6646c2169ae2cb499fb01d0e25aa6b131b02528c548bb9ca3", checked := Yba.checked }
namespace Rows
def none {H : Type} : Left H := { results := [], args := [] }

/-- 'rank3.LawS1785CScript': WHATEVER THE INPUT: true; the input reads as it did. -/
def lawS1785CScriptSpec : ChangeSpec := { name := "lawS1785CScript", fn := fun _ => fun
  | [d1, d2] => { results := [.lit (.bool true)], args := [d1, d2] }
  | _ => none }
def lawS1785CScriptRow : OpenClaim := { program := "ybulkajye", sum := "43613447e58521e6646c2169ae2cb499fb01d0e25aa6b131b02528c548bb9ca3", func := "example.com/rank3/rank3.LawS1785CScript", spec := "lawS1785CScript", apart := false }
def LawS1785CScriptSaid : Prop := lawS1785CScriptRow.holds Yba.pinned (OpenSpec.ofChange lawS1785CScriptSpec)

/-- ITS FALSE NEIGHBOUR: 'it returns false'. Refute it at one input. -/
def lawS1785CScriptWrong : ChangeSpec := { name := "lawS1785CScript", fn := fun _ => fun
  | [d1, d2] => { results := [.lit (.bool false)], args := [d1, d2] }
  | _ => none }
def LawS1785CScriptWrongFalsely : Prop := lawS1785CScriptRow.holds Yba.pinned (OpenSpec.ofChange lawS1785CScriptWrong)

/-- 'rank3.LawS1785CKept': WHATEVER THE INPUT: true; the input reads as it did. -/
def lawS1785CKeptSpec : ChangeSpec := { name := "lawS1785CKept", fn := fun _ => fun
  | [d1, d2, d3, d4, d5] => { results := [.lit (.bool true)], args := [d1, d2, d3, d4, d5] }
  | _ => none }
def lawS1785CKeptRow : OpenClaim := { program := "ybulkajye", sum := "43613447e58521e6646c2169ae2cb499fb01d0e25aa6b131b02528c548bb9ca3", func := "example.com/rank3/rank3.LawS1785CKept", spec := "lawS1785CKept", apart := false }
def LawS1785CKeptSaid : Prop := lawS1785CKeptRow.holds Yba.pinned (OpenSpec.ofChange lawS1785CKeptSpec)

/-- ITS FALSE NEIGHBOUR: 'it returns false'. Refute it at one input. -/
def lawS1785CKeptWrong : ChangeSpec := { name := "lawS1785CKept", fn := fun _ => fun
  | [d1, d2, d3, d4, d5] => { results := [.lit (.bool false)], args := [d1, d2, d3, d4, d5] }
  | _ => none }
def LawS1785CKeptWrongFalsely : Prop := lawS1785CKeptRow.holds Yba.pinned (OpenSpec.ofChange lawS1785CKeptWrong)

end Rows
end Go.Proofs.Ybulkajye
