/-
  No cell of these rows narrows 'for every input' (looked for: loops, veiled, ifaces, maps, wideKeys, modest, calm, conditions, laid).
  DERIVED. THE GIVEN ROWS OF THIS SEAT. 4 by the template 'for every input the law returns true; each argument reads behind the call as it read before'; 0 by the template 'total and deterministic' (their statements: Qxb6600523aTotals.lean).
  GIVEN WITH THE SEED: the statements are not yours to turn. If you find one false, say at which input.
  Laid BY PROGRAM, IN A SANDBOX (cutbox-rows.mjs): the forced cells as the released guide's own fill.sh prints them over the translation bbae1d3c7023a35a… (all of the seat's roots in one cut). By AI agents, Wed Nov 11 2026. No macro, syntax, notation, axiom, sorry.
-/
import Derived.Test.Qxb6600523aChecked
import GoSem.Claim
import GoSem.ClaimJoined
import GoSem.ClaimMapViews
import Derived.JoinedTies
import Derived.KernelRfl
namespace Go.Proofs.Qxb6600523a
/- THE CELL 'sum', in the pinned program and in every row, IS THE sha256 OF THE DUMP (.gsa) THAT Qxb6600523aProg.lean LOADS. Nothing in Lean hashes anything: it is a label: what it is worth is what the hold of that sum in a sandbox is worth. -/
noncomputable def Try.pinned : Pinned := { name := "qxb6600523a", sum := "bbae1d3c7023a35a2df9e01ea9ea14fc94c50dfe7cd11dcd5be9489c179d79b9", checked := Try.checked }
namespace Rows
def none {H : Type} : Left H := { results := [], args := [] }

/-- 'zzlaws_pkg_network_b1.FnFindAnswersAsAListOfCablesDoes': WHATEVER THE INPUT: true; the input reads as it did. -/
def fnFindAnswersAsAListOfCablesDoesSpec : ChangeSpec := { name := "fnFindAnswersAsAListOfCablesDoes", fn := fun _ => fun
  | [d1, d2, d3, d4] => { results := [.lit (.bool true)], args := [d1, d2, d3, d4] }
  | _ => none }
def fnFindAnswersAsAListOfCablesDoesRow : OpenClaim := { program := "qxb6600523a", sum := "bbae1d3c7023a35a2df9e01ea9ea14fc94c50dfe7cd11dcd5be9489c179d79b9", func := "example.com/rootward/rootward/zzlaws_pkg_network_b1.FnFindAnswersAsAListOfCablesDoes", spec := "fnFindAnswersAsAListOfCablesDoes", apart := false }
def FnFindAnswersAsAListOfCablesDoesSaid : Prop := fnFindAnswersAsAListOfCablesDoesRow.holds Try.pinned (OpenSpec.ofChange fnFindAnswersAsAListOfCablesDoesSpec)

/-- ITS FALSE NEIGHBOUR: 'it returns false'. Refute it at one input. -/
def fnFindAnswersAsAListOfCablesDoesWrong : ChangeSpec := { name := "fnFindAnswersAsAListOfCablesDoes", fn := fun _ => fun
  | [d1, d2, d3, d4] => { results := [.lit (.bool false)], args := [d1, d2, d3, d4] }
  | _ => none }
def FnFindAnswersAsAListOfCablesDoesWrongFalsely : Prop := fnFindAnswersAsAListOfCablesDoesRow.holds Try.pinned (OpenSpec.ofChange fnFindAnswersAsAListOfCablesDoesWrong)

/-- 'zzlaws_pkg_network_b1.FnBlockBoundIsTheDiameterOfATree': WHATEVER THE INPUT: true; the input reads as it did. -/
def fnBlockBoundIsTheDiameterOfATreeSpec : ChangeSpec := { name := "fnBlockBoundIsTheDiameterOfATree", fn := fun _ => fun
  | [d1, d2] => { results := [.lit (.bool true)], args := [d1, d2] }
  | _ => none }
def fnBlockBoundIsTheDiameterOfATreeRow : OpenClaim := { program := "qxb6600523a", sum := "bbae1d3c7023a35a2df9e01ea9ea14fc94c50dfe7cd11dcd5be9489c179d79b9", func := "example.com/rootward/rootward/zzlaws_pkg_network_b1.FnBlockBoundIsTheDiameterOfATree", spec := "fnBlockBoundIsTheDiameterOfATree", apart := false }
def FnBlockBoundIsTheDiameterOfATreeSaid : Prop := fnBlockBoundIsTheDiameterOfATreeRow.holds Try.pinned (OpenSpec.ofChange fnBlockBoundIsTheDiameterOfATreeSpec)

/-- ITS FALSE NEIGHBOUR: 'it returns false'. Refute it at one input. -/
def fnBlockBoundIsTheDiameterOfATreeWrong : ChangeSpec := { name := "fnBlockBoundIsTheDiameterOfATree", fn := fun _ => fun
  | [d1, d2] => { results := [.lit (.bool false)], args := [d1, d2] }
  | _ => none }
def FnBlockBoundIsTheDiameterOfATreeWrongFalsely : Prop := fnBlockBoundIsTheDiameterOfATreeRow.holds Try.pinned (OpenSpec.ofChange fnBlockBoundIsTheDiameterOfATreeWrong)

/-- 'zzlaws_pkg_network_b1.FnBlockBoundOfARingIsHalfItsLength': WHATEVER THE INPUT: true; the input reads as it did. -/
def fnBlockBoundOfARingIsHalfItsLengthSpec : ChangeSpec := { name := "fnBlockBoundOfARingIsHalfItsLength", fn := fun _ => fun
  | [d1, d2] => { results := [.lit (.bool true)], args := [d1, d2] }
  | _ => none }
def fnBlockBoundOfARingIsHalfItsLengthRow : OpenClaim := { program := "qxb6600523a", sum := "bbae1d3c7023a35a2df9e01ea9ea14fc94c50dfe7cd11dcd5be9489c179d79b9", func := "example.com/rootward/rootward/zzlaws_pkg_network_b1.FnBlockBoundOfARingIsHalfItsLength", spec := "fnBlockBoundOfARingIsHalfItsLength", apart := false }
def FnBlockBoundOfARingIsHalfItsLengthSaid : Prop := fnBlockBoundOfARingIsHalfItsLengthRow.holds Try.pinned (OpenSpec.ofChange fnBlockBoundOfARingIsHalfItsLengthSpec)

/-- ITS FALSE NEIGHBOUR: 'it returns false'. Refute it at one input. -/
def fnBlockBoundOfARingIsHalfItsLengthWrong : ChangeSpec := { name := "fnBlockBoundOfARingIsHalfItsLength", fn := fun _ => fun
  | [d1, d2] => { results := [.lit (.bool false)], args := [d1, d2] }
  | _ => none }
def FnBlockBoundOfARingIsHalfItsLengthWrongFalsely : Prop := fnBlockBoundOfARingIsHalfItsLengthRow.holds Try.pinned (OpenSpec.ofChange fnBlockBoundOfARingIsHalfItsLengthWrong)

/-- 'zzlaws_pkg_network_b1.FnBlockBoundLiesBetweenDiameterAndDevices': WHATEVER THE INPUT: true; the input reads as it did. -/
def fnBlockBoundLiesBetweenDiameterAndDevicesSpec : ChangeSpec := { name := "fnBlockBoundLiesBetweenDiameterAndDevices", fn := fun _ => fun
  | [d1, d2] => { results := [.lit (.bool true)], args := [d1, d2] }
  | _ => none }
def fnBlockBoundLiesBetweenDiameterAndDevicesRow : OpenClaim := { program := "qxb6600523a", sum := "bbae1d3c7023a35a2df9e01ea9ea14fc94c50dfe7cd11dcd5be9489c179d79b9", func := "example.com/rootward/rootward/zzlaws_pkg_network_b1.FnBlockBoundLiesBetweenDiameterAndDevices", spec := "fnBlockBoundLiesBetweenDiameterAndDevices", apart := false }
def FnBlockBoundLiesBetweenDiameterAndDevicesSaid : Prop := fnBlockBoundLiesBetweenDiameterAndDevicesRow.holds Try.pinned (OpenSpec.ofChange fnBlockBoundLiesBetweenDiameterAndDevicesSpec)

/-- ITS FALSE NEIGHBOUR: 'it returns false'. Refute it at one input. -/
def fnBlockBoundLiesBetweenDiameterAndDevicesWrong : ChangeSpec := { name := "fnBlockBoundLiesBetweenDiameterAndDevices", fn := fun _ => fun
  | [d1, d2] => { results := [.lit (.bool false)], args := [d1, d2] }
  | _ => none }
def FnBlockBoundLiesBetweenDiameterAndDevicesWrongFalsely : Prop := fnBlockBoundLiesBetweenDiameterAndDevicesRow.holds Try.pinned (OpenSpec.ofChange fnBlockBoundLiesBetweenDiameterAndDevicesWrong)

end Rows
end Go.Proofs.Qxb6600523a
