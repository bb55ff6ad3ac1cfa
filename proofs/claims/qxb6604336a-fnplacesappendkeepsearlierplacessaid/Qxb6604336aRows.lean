/-
  No cell of these rows narrows 'for every input' (looked for: loops, veiled, ifaces, maps, wideKeys, modest, calm, conditions, laid).
  DERIVED. THE GIVEN ROWS OF THIS SEAT. 2 by the template 'for every input the law returns true; each argument reads behind the call as it read before'; 0 by the template 'total and deterministic' (their statements: Qxb6604336aTotals.lean).
  GIVEN WITH THE SEED: the statements are not yours to turn. If you find one false, say at which input.
  Laid BY PROGRAM, IN A SANDBOX (cutbox-rows.mjs): the forced cells as the released guide's own fill.sh prints them over the translation ae66445265ac78da… (all of the seat's roots in one cut). By AI agents, Wed Nov 11 2026. No macro, syntax, notation, axiom, sorry.
-/
import Derived.Test.Qxb6604336aChecked
import GoSem.Claim
import GoSem.ClaimJoined
import GoSem.ClaimMapViews
import Derived.JoinedTies
import Derived.KernelRfl
namespace Go.Proofs.Qxb6604336a
/- THE CELL 'sum', in the pinned program and in every row, IS THE sha256 OF THE DUMP (.gsa) THAT Qxb6604336aProg.lean LOADS. Nothing in Lean hashes anything: it is a label: what it is worth is what the hold of that sum in a sandbox is worth. -/
noncomputable def Try.pinned : Pinned := { name := "qxb6604336a", sum := "ae66445265ac78da8799067a9f0ec4cac36e43fabfb000659439ea9c23174477", checked := Try.checked }
namespace Rows
def none {H : Type} : Left H := { results := [], args := [] }

/-- 'zzlaws_plan_b1.FnPlacesFirstPlaceOfEachID': WHATEVER THE INPUT: true; the input reads as it did. -/
def fnPlacesFirstPlaceOfEachIDSpec : ChangeSpec := { name := "fnPlacesFirstPlaceOfEachID", fn := fun _ => fun
  | [d] => { results := [.lit (.bool true)], args := [d] }
  | _ => none }
def fnPlacesFirstPlaceOfEachIDRow : OpenClaim := { program := "qxb6604336a", sum := "ae66445265ac78da8799067a9f0ec4cac36e43fabfb000659439ea9c23174477", func := "example.com/vestwright/vestwright/zzlaws_plan_b1.FnPlacesFirstPlaceOfEachID", spec := "fnPlacesFirstPlaceOfEachID", apart := false }
def FnPlacesFirstPlaceOfEachIDSaid : Prop := fnPlacesFirstPlaceOfEachIDRow.holds Try.pinned (OpenSpec.ofChange fnPlacesFirstPlaceOfEachIDSpec)

/-- ITS FALSE NEIGHBOUR: 'it returns false'. Refute it at one input. -/
def fnPlacesFirstPlaceOfEachIDWrong : ChangeSpec := { name := "fnPlacesFirstPlaceOfEachID", fn := fun _ => fun
  | [d] => { results := [.lit (.bool false)], args := [d] }
  | _ => none }
def FnPlacesFirstPlaceOfEachIDWrongFalsely : Prop := fnPlacesFirstPlaceOfEachIDRow.holds Try.pinned (OpenSpec.ofChange fnPlacesFirstPlaceOfEachIDWrong)

/-- 'zzlaws_plan_b1.FnPlacesAppendKeepsEarlierPlaces': WHATEVER THE INPUT: true; the input reads as it did. -/
def fnPlacesAppendKeepsEarlierPlacesSpec : ChangeSpec := { name := "fnPlacesAppendKeepsEarlierPlaces", fn := fun _ => fun
  | [d1, d2] => { results := [.lit (.bool true)], args := [d1, d2] }
  | _ => none }
def fnPlacesAppendKeepsEarlierPlacesRow : OpenClaim := { program := "qxb6604336a", sum := "ae66445265ac78da8799067a9f0ec4cac36e43fabfb000659439ea9c23174477", func := "example.com/vestwright/vestwright/zzlaws_plan_b1.FnPlacesAppendKeepsEarlierPlaces", spec := "fnPlacesAppendKeepsEarlierPlaces", apart := false }
def FnPlacesAppendKeepsEarlierPlacesSaid : Prop := fnPlacesAppendKeepsEarlierPlacesRow.holds Try.pinned (OpenSpec.ofChange fnPlacesAppendKeepsEarlierPlacesSpec)

/-- ITS FALSE NEIGHBOUR: 'it returns false'. Refute it at one input. -/
def fnPlacesAppendKeepsEarlierPlacesWrong : ChangeSpec := { name := "fnPlacesAppendKeepsEarlierPlaces", fn := fun _ => fun
  | [d1, d2] => { results := [.lit (.bool false)], args := [d1, d2] }
  | _ => none }
def FnPlacesAppendKeepsEarlierPlacesWrongFalsely : Prop := fnPlacesAppendKeepsEarlierPlacesRow.holds Try.pinned (OpenSpec.ofChange fnPlacesAppendKeepsEarlierPlacesWrong)

end Rows
end Go.Proofs.Qxb6604336a
