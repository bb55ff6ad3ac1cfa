/-
  No cell of these rows narrows 'for every input' (looked for: loops, veiled, ifaces, maps, wideKeys, modest, calm, conditions, laid).
  DERIVED. THE GIVEN ROWS OF THIS SEAT. 1 by the template 'for every input the law returns true; each argument reads behind the call as it read before'; 0 by the template 'total and deterministic' (their statements: Qxb6604678aTotals.lean).
  GIVEN WITH THE SEED: the statements are not yours to turn. If you find one false, say at which input.
  Laid BY PROGRAM, IN A SANDBOX (cutbox-rows.mjs): the forced cells as the released guide's own fill.sh prints them over the translation 99a87c1dfc9901a1… (all of the seat's roots in one cut). By AI agents, Wed Nov 11 2026. No macro, syntax, notation, axiom, sorry.
-/
import Derived.Test.Qxb6604678aChecked
import GoSem.Claim
import GoSem.ClaimJoined
import GoSem.ClaimMapViews
import Derived.JoinedTies
import Derived.KernelRfl
namespace Go.Proofs.Qxb6604678a
/- THE CELL 'sum', in the pinned program and in every row, IS THE sha256 OF THE DUMP (.gsa) THAT Qxb6604678aProg.lean LOADS. Nothing in Lean hashes anything: it is a label: what it is worth is what the hold of that sum in a sandbox is worth. -/
noncomputable def Try.pinned : Pinned := { name := "qxb6604678a", sum := "99a87c1dfc9901a19b418bf4cd2ad33acc4a1a8710ac79ee9c5d658489e98446", checked := Try.checked }
namespace Rows
def none {H : Type} : Left H := { results := [], args := [] }

/-- 'zzlaws_pkg_toml_b1.FnPeekConsumeWalkReadsTheRest': WHATEVER THE INPUT: true; the input reads as it did. -/
def fnPeekConsumeWalkReadsTheRestSpec : ChangeSpec := { name := "fnPeekConsumeWalkReadsTheRest", fn := fun _ => fun
  | [d1, d2, d3] => { results := [.lit (.bool true)], args := [d1, d2, d3] }
  | _ => none }
def fnPeekConsumeWalkReadsTheRestRow : OpenClaim := { program := "qxb6604678a", sum := "99a87c1dfc9901a19b418bf4cd2ad33acc4a1a8710ac79ee9c5d658489e98446", func := "example.com/lighterage/lighterage/zzlaws_pkg_toml_b1.FnPeekConsumeWalkReadsTheRest", spec := "fnPeekConsumeWalkReadsTheRest", apart := false }
def FnPeekConsumeWalkReadsTheRestSaid : Prop := fnPeekConsumeWalkReadsTheRestRow.holds Try.pinned (OpenSpec.ofChange fnPeekConsumeWalkReadsTheRestSpec)

/-- ITS FALSE NEIGHBOUR: 'it returns false'. Refute it at one input. -/
def fnPeekConsumeWalkReadsTheRestWrong : ChangeSpec := { name := "fnPeekConsumeWalkReadsTheRest", fn := fun _ => fun
  | [d1, d2, d3] => { results := [.lit (.bool false)], args := [d1, d2, d3] }
  | _ => none }
def FnPeekConsumeWalkReadsTheRestWrongFalsely : Prop := fnPeekConsumeWalkReadsTheRestRow.holds Try.pinned (OpenSpec.ofChange fnPeekConsumeWalkReadsTheRestWrong)

end Rows
end Go.Proofs.Qxb6604678a
