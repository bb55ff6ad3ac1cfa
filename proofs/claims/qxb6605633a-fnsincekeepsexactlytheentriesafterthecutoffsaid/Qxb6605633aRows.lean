/-
  No cell of these rows narrows 'for every input' (looked for: loops, veiled, ifaces, maps, wideKeys, modest, calm, conditions, laid).
  DERIVED. THE GIVEN ROWS OF THIS SEAT. 2 by the template 'for every input the law returns true; each argument reads behind the call as it read before'; 0 by the template 'total and deterministic' (their statements: Qxb6605633aTotals.lean).
  GIVEN WITH THE SEED: the statements are not yours to turn. If you find one false, say at which input.
  Laid BY PROGRAM, IN A SANDBOX (cutbox-rows.mjs): the forced cells as the released guide's own fill.sh prints them over the translation 27904e0c65560e4e… (all of the seat's roots in one cut). By AI agents, Wed Nov 11 2026. No macro, syntax, notation, axiom, sorry.
-/
import Derived.Test.Qxb6605633aChecked
import GoSem.Claim
import GoSem.ClaimJoined
import GoSem.ClaimMapViews
import Derived.JoinedTies
import Derived.KernelRfl
namespace Go.Proofs.Qxb6605633a
/- THE CELL 'sum', in the pinned program and in every row, IS THE sha256 OF THE DUMP (.gsa) THAT Qxb6605633aProg.lean LOADS. Nothing in Lean hashes anything: it is a label: what it is worth is what the hold of that sum in a sandbox is worth. -/
noncomputable def Try.pinned : Pinned := { name := "qxb6605633a", sum := "27904e0c65560e4e421bc6bebbe3020ed19299e11706aec00f4c58065b4328af", checked := Try.checked }
namespace Rows
def none {H : Type} : Left H := { results := [], args := [] }

/-- 'zzlaws_root_b1.FnSinceKeepsExactlyTheEntriesAfterTheCutoff': WHATEVER THE INPUT: true; the input reads as it did. -/
def fnSinceKeepsExactlyTheEntriesAfterTheCutoffSpec : ChangeSpec := { name := "fnSinceKeepsExactlyTheEntriesAfterTheCutoff", fn := fun _ => fun
  | [d1, d2, d3, d4] => { results := [.lit (.bool true)], args := [d1, d2, d3, d4] }
  | _ => none }
def fnSinceKeepsExactlyTheEntriesAfterTheCutoffRow : OpenClaim := { program := "qxb6605633a", sum := "27904e0c65560e4e421bc6bebbe3020ed19299e11706aec00f4c58065b4328af", func := "example.com/beaver/beaver/zzlaws_root_b1.FnSinceKeepsExactlyTheEntriesAfterTheCutoff", spec := "fnSinceKeepsExactlyTheEntriesAfterTheCutoff", apart := false }
def FnSinceKeepsExactlyTheEntriesAfterTheCutoffSaid : Prop := fnSinceKeepsExactlyTheEntriesAfterTheCutoffRow.holds Try.pinned (OpenSpec.ofChange fnSinceKeepsExactlyTheEntriesAfterTheCutoffSpec)

/-- ITS FALSE NEIGHBOUR: 'it returns false'. Refute it at one input. -/
def fnSinceKeepsExactlyTheEntriesAfterTheCutoffWrong : ChangeSpec := { name := "fnSinceKeepsExactlyTheEntriesAfterTheCutoff", fn := fun _ => fun
  | [d1, d2, d3, d4] => { results := [.lit (.bool false)], args := [d1, d2, d3, d4] }
  | _ => none }
def FnSinceKeepsExactlyTheEntriesAfterTheCutoffWrongFalsely : Prop := fnSinceKeepsExactlyTheEntriesAfterTheCutoffRow.holds Try.pinned (OpenSpec.ofChange fnSinceKeepsExactlyTheEntriesAfterTheCutoffWrong)

/-- 'zzlaws_root_b1.FnSinceTwiceIsSinceAtTheLaterCutoff': WHATEVER THE INPUT: true; the input reads as it did. -/
def fnSinceTwiceIsSinceAtTheLaterCutoffSpec : ChangeSpec := { name := "fnSinceTwiceIsSinceAtTheLaterCutoff", fn := fun _ => fun
  | [d1, d2, d3, d4, d5] => { results := [.lit (.bool true)], args := [d1, d2, d3, d4, d5] }
  | _ => none }
def fnSinceTwiceIsSinceAtTheLaterCutoffRow : OpenClaim := { program := "qxb6605633a", sum := "27904e0c65560e4e421bc6bebbe3020ed19299e11706aec00f4c58065b4328af", func := "example.com/beaver/beaver/zzlaws_root_b1.FnSinceTwiceIsSinceAtTheLaterCutoff", spec := "fnSinceTwiceIsSinceAtTheLaterCutoff", apart := false }
def FnSinceTwiceIsSinceAtTheLaterCutoffSaid : Prop := fnSinceTwiceIsSinceAtTheLaterCutoffRow.holds Try.pinned (OpenSpec.ofChange fnSinceTwiceIsSinceAtTheLaterCutoffSpec)

/-- ITS FALSE NEIGHBOUR: 'it returns false'. Refute it at one input. -/
def fnSinceTwiceIsSinceAtTheLaterCutoffWrong : ChangeSpec := { name := "fnSinceTwiceIsSinceAtTheLaterCutoff", fn := fun _ => fun
  | [d1, d2, d3, d4, d5] => { results := [.lit (.bool false)], args := [d1, d2, d3, d4, d5] }
  | _ => none }
def FnSinceTwiceIsSinceAtTheLaterCutoffWrongFalsely : Prop := fnSinceTwiceIsSinceAtTheLaterCutoffRow.holds Try.pinned (OpenSpec.ofChange fnSinceTwiceIsSinceAtTheLaterCutoffWrong)

end Rows
end Go.Proofs.Qxb6605633a
