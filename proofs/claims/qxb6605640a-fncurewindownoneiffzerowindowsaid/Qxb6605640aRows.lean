/-
  No cell of these rows narrows 'for every input' (looked for: loops, veiled, ifaces, maps, wideKeys, modest, calm, conditions, laid).
  DERIVED. THE GIVEN ROWS OF THIS SEAT. 1 by the template 'for every input the law returns true; each argument reads behind the call as it read before'; 0 by the template 'total and deterministic' (their statements: Qxb6605640aTotals.lean).
  GIVEN WITH THE SEED: the statements are not yours to turn. If you find one false, say at which input.
  Laid BY PROGRAM, IN A SANDBOX (cutbox-rows.mjs): the forced cells as the released guide's own fill.sh prints them over the translation a147096f09f82438… (all of the seat's roots in one cut). By AI agents, Wed Nov 11 2026. No macro, syntax, notation, axiom, sorry.
-/
import Derived.Test.Qxb6605640aChecked
import GoSem.Claim
import GoSem.ClaimJoined
import GoSem.ClaimMapViews
import Derived.JoinedTies
import Derived.KernelRfl
namespace Go.Proofs.Qxb6605640a
/- THE CELL 'sum', in the pinned program and in every row, IS THE sha256 OF THE DUMP (.gsa) THAT Qxb6605640aProg.lean LOADS. Nothing in Lean hashes anything: it is a label: what it is worth is what the hold of that sum in a sandbox is worth. -/
noncomputable def Try.pinned : Pinned := { name := "qxb6605640a", sum := "a147096f09f824387111346d08042db08cf69ad741d949b4926fc53aa3ded4c5", checked := Try.checked }
namespace Rows
def none {H : Type} : Left H := { results := [], args := [] }

/-- 'zzlaws_pkg_fund_b1.FnCureWindowNoneIffZeroWindow': WHATEVER THE INPUT: true; the input reads as it did. -/
def fnCureWindowNoneIffZeroWindowSpec : ChangeSpec := { name := "fnCureWindowNoneIffZeroWindow", fn := fun _ => fun
  | [d1, d2] => { results := [.lit (.bool true)], args := [d1, d2] }
  | _ => none }
def fnCureWindowNoneIffZeroWindowRow : OpenClaim := { program := "qxb6605640a", sum := "a147096f09f824387111346d08042db08cf69ad741d949b4926fc53aa3ded4c5", func := "example.com/custodex/custodex/zzlaws_pkg_fund_b1.FnCureWindowNoneIffZeroWindow", spec := "fnCureWindowNoneIffZeroWindow", apart := false }
def FnCureWindowNoneIffZeroWindowSaid : Prop := fnCureWindowNoneIffZeroWindowRow.holds Try.pinned (OpenSpec.ofChange fnCureWindowNoneIffZeroWindowSpec)

/-- ITS FALSE NEIGHBOUR: 'it returns false'. Refute it at one input. -/
def fnCureWindowNoneIffZeroWindowWrong : ChangeSpec := { name := "fnCureWindowNoneIffZeroWindow", fn := fun _ => fun
  | [d1, d2] => { results := [.lit (.bool false)], args := [d1, d2] }
  | _ => none }
def FnCureWindowNoneIffZeroWindowWrongFalsely : Prop := fnCureWindowNoneIffZeroWindowRow.holds Try.pinned (OpenSpec.ofChange fnCureWindowNoneIffZeroWindowWrong)

end Rows
end Go.Proofs.Qxb6605640a
