/-
  No cell of these rows narrows 'for every input' (looked for: loops, veiled, ifaces, maps, wideKeys, modest, calm, conditions, laid).
  DERIVED. THE GIVEN ROWS OF THIS SEAT. 2 by the template 'for every input the law returns true; each argument reads behind the call as it read before'; 0 by the template 'total and deterministic' (their statements: Qxb6615703aTotals.lean).
  GIVEN WITH THE SEED: the statements are not yours to turn. If you find one false, say at which input.
  Laid BY PROGRAM, IN A SANDBOX (cutbox-rows.mjs): the forced cells as the released guide's own fill.sh prints them over the translation 50c02f1ab9d8e676… (all of the seat's roots in one cut). By AI agents, Wed Nov 11 2026. No macro, syntax, notation, axiom, sorry.
-/
import Derived.Test.Qxb6615703aChecked
import GoSem.Claim
import GoSem.ClaimJoined
import GoSem.ClaimMapViews
import Derived.JoinedTies
import Derived.KernelRfl
namespace Go.Proofs.Qxb6615703a
/- THE CELL 'sum', in the pinned program and in every row, IS THE sha256 OF THE DUMP (.gsa) THAT Qxb6615703aProg.lean LOADS. Nothing in Lean hashes anything: it is a label: what it is worth is what the hold of that sum in a sandbox is worth. -/
noncomputable def Try.pinned : Pinned := { name := "qxb6615703a", sum := "50c02f1ab9d8e676838e0d2a8c0c188aa2bc9b00ec6d8f62dbb02f9cbe6cc90f", checked := Try.checked }
namespace Rows
def none {H : Type} : Left H := { results := [], args := [] }

/-- 'zzlaws_rexx_b1.FnStackQueueGoesToTheBottom': WHATEVER THE INPUT: true; the input reads as it did. -/
def fnStackQueueGoesToTheBottomSpec : ChangeSpec := { name := "fnStackQueueGoesToTheBottom", fn := fun _ => fun
  | [d1, d2, d3] => { results := [.lit (.bool true)], args := [d1, d2, d3] }
  | _ => none }
def fnStackQueueGoesToTheBottomRow : OpenClaim := { program := "qxb6615703a", sum := "50c02f1ab9d8e676838e0d2a8c0c188aa2bc9b00ec6d8f62dbb02f9cbe6cc90f", func := "example.com/reshow/reshow/zzlaws_rexx_b1.FnStackQueueGoesToTheBottom", spec := "fnStackQueueGoesToTheBottom", apart := false }
def FnStackQueueGoesToTheBottomSaid : Prop := fnStackQueueGoesToTheBottomRow.holds Try.pinned (OpenSpec.ofChange fnStackQueueGoesToTheBottomSpec)

/-- ITS FALSE NEIGHBOUR: 'it returns false'. Refute it at one input. -/
def fnStackQueueGoesToTheBottomWrong : ChangeSpec := { name := "fnStackQueueGoesToTheBottom", fn := fun _ => fun
  | [d1, d2, d3] => { results := [.lit (.bool false)], args := [d1, d2, d3] }
  | _ => none }
def FnStackQueueGoesToTheBottomWrongFalsely : Prop := fnStackQueueGoesToTheBottomRow.holds Try.pinned (OpenSpec.ofChange fnStackQueueGoesToTheBottomWrong)

/-- 'zzlaws_rexx_b1.FnStackScriptAgainstDeque': WHATEVER THE INPUT: true; the input reads as it did. -/
def fnStackScriptAgainstDequeSpec : ChangeSpec := { name := "fnStackScriptAgainstDeque", fn := fun _ => fun
  | [d1, d2] => { results := [.lit (.bool true)], args := [d1, d2] }
  | _ => none }
def fnStackScriptAgainstDequeRow : OpenClaim := { program := "qxb6615703a", sum := "50c02f1ab9d8e676838e0d2a8c0c188aa2bc9b00ec6d8f62dbb02f9cbe6cc90f", func := "example.com/reshow/reshow/zzlaws_rexx_b1.FnStackScriptAgainstDeque", spec := "fnStackScriptAgainstDeque", apart := false }
def FnStackScriptAgainstDequeSaid : Prop := fnStackScriptAgainstDequeRow.holds Try.pinned (OpenSpec.ofChange fnStackScriptAgainstDequeSpec)

/-- ITS FALSE NEIGHBOUR: 'it returns false'. Refute it at one input. -/
def fnStackScriptAgainstDequeWrong : ChangeSpec := { name := "fnStackScriptAgainstDeque", fn := fun _ => fun
  | [d1, d2] => { results := [.lit (.bool false)], args := [d1, d2] }
  | _ => none }
def FnStackScriptAgainstDequeWrongFalsely : Prop := fnStackScriptAgainstDequeRow.holds Try.pinned (OpenSpec.ofChange fnStackScriptAgainstDequeWrong)

end Rows
end Go.Proofs.Qxb6615703a
