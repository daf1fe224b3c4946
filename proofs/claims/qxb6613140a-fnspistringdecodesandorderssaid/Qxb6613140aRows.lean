/-
  No cell of these rows narrows 'for every input' (looked for: loops, veiled, ifaces, maps, wideKeys, modest, calm, conditions, laid).
  DERIVED. THE GIVEN ROWS OF THIS SEAT. 6 by the template 'for every input the law returns true; each argument reads behind the call as it read before'; 0 by the template 'total and deterministic' (their statements: Qxb6613140aTotals.lean).
  GIVEN WITH THE SEED: the statements are not yours to turn. If you find one false, say at which input.
  Laid BY PROGRAM, IN A SANDBOX (cutbox-rows.mjs): the forced cells as the released guide's own fill.sh prints them over the translation e90bc8505185a622… (all of the seat's roots in one cut). By AI agents, Wed Nov 11 2026. No macro, syntax, notation, axiom, sorry.
-/
import Derived.Test.Qxb6613140aChecked
import GoSem.Claim
import GoSem.ClaimJoined
import GoSem.ClaimMapViews
import Derived.JoinedTies
import Derived.KernelRfl
namespace Go.Proofs.Qxb6613140a
/- THE CELL 'sum', in the pinned program and in every row, IS THE sha256 OF THE DUMP (.gsa) THAT Qxb6613140aProg.lean LOADS. Nothing in Lean hashes anything: it is a label: what it is worth is what the hold of that sum in a sandbox is worth. -/
noncomputable def Try.pinned : Pinned := { name := "qxb6613140a", sum := "e90bc8505185a622617bb340d7b1409f304101e7e0459307efd4c1e3cf35cd6a", checked := Try.checked }
namespace Rows
def none {H : Type} : Left H := { results := [], args := [] }

/-- 'zzlaws_ike_b1.FnFirstTypeOfJoinedList': WHATEVER THE INPUT: true; the input reads as it did. -/
def fnFirstTypeOfJoinedListSpec : ChangeSpec := { name := "fnFirstTypeOfJoinedList", fn := fun _ => fun
  | [d1, d2] => { results := [.lit (.bool true)], args := [d1, d2] }
  | _ => none }
def fnFirstTypeOfJoinedListRow : OpenClaim := { program := "qxb6613140a", sum := "e90bc8505185a622617bb340d7b1409f304101e7e0459307efd4c1e3cf35cd6a", func := "example.com/tunnelwright/tunnelwright/zzlaws_ike_b1.FnFirstTypeOfJoinedList", spec := "fnFirstTypeOfJoinedList", unfollowed := true, recurses := true, apart := false }
def FnFirstTypeOfJoinedListSaid : Prop := fnFirstTypeOfJoinedListRow.holds Try.pinned (OpenSpec.ofChange fnFirstTypeOfJoinedListSpec)

/-- ITS FALSE NEIGHBOUR: 'it returns false'. Refute it at one input. -/
def fnFirstTypeOfJoinedListWrong : ChangeSpec := { name := "fnFirstTypeOfJoinedList", fn := fun _ => fun
  | [d1, d2] => { results := [.lit (.bool false)], args := [d1, d2] }
  | _ => none }
def FnFirstTypeOfJoinedListWrongFalsely : Prop := fnFirstTypeOfJoinedListRow.holds Try.pinned (OpenSpec.ofChange fnFirstTypeOfJoinedListWrong)

/-- 'zzlaws_ike_b1.FnFirstTypeInsertAnywhere': WHATEVER THE INPUT: true; the input reads as it did. -/
def fnFirstTypeInsertAnywhereSpec : ChangeSpec := { name := "fnFirstTypeInsertAnywhere", fn := fun _ => fun
  | [d1, d2, d3] => { results := [.lit (.bool true)], args := [d1, d2, d3] }
  | _ => none }
def fnFirstTypeInsertAnywhereRow : OpenClaim := { program := "qxb6613140a", sum := "e90bc8505185a622617bb340d7b1409f304101e7e0459307efd4c1e3cf35cd6a", func := "example.com/tunnelwright/tunnelwright/zzlaws_ike_b1.FnFirstTypeInsertAnywhere", spec := "fnFirstTypeInsertAnywhere", unfollowed := true, recurses := true, apart := false }
def FnFirstTypeInsertAnywhereSaid : Prop := fnFirstTypeInsertAnywhereRow.holds Try.pinned (OpenSpec.ofChange fnFirstTypeInsertAnywhereSpec)

/-- ITS FALSE NEIGHBOUR: 'it returns false'. Refute it at one input. -/
def fnFirstTypeInsertAnywhereWrong : ChangeSpec := { name := "fnFirstTypeInsertAnywhere", fn := fun _ => fun
  | [d1, d2, d3] => { results := [.lit (.bool false)], args := [d1, d2, d3] }
  | _ => none }
def FnFirstTypeInsertAnywhereWrongFalsely : Prop := fnFirstTypeInsertAnywhereRow.holds Try.pinned (OpenSpec.ofChange fnFirstTypeInsertAnywhereWrong)

/-- 'zzlaws_ike_b1.FnRawAppendBodyInTwoPieces': WHATEVER THE INPUT: true; the input reads as it did. -/
def fnRawAppendBodyInTwoPiecesSpec : ChangeSpec := { name := "fnRawAppendBodyInTwoPieces", fn := fun _ => fun
  | [d1, d2, d3, d4] => { results := [.lit (.bool true)], args := [d1, d2, d3, d4] }
  | _ => none }
def fnRawAppendBodyInTwoPiecesRow : OpenClaim := { program := "qxb6613140a", sum := "e90bc8505185a622617bb340d7b1409f304101e7e0459307efd4c1e3cf35cd6a", func := "example.com/tunnelwright/tunnelwright/zzlaws_ike_b1.FnRawAppendBodyInTwoPieces", spec := "fnRawAppendBodyInTwoPieces", apart := false }
def FnRawAppendBodyInTwoPiecesSaid : Prop := fnRawAppendBodyInTwoPiecesRow.holds Try.pinned (OpenSpec.ofChange fnRawAppendBodyInTwoPiecesSpec)

/-- ITS FALSE NEIGHBOUR: 'it returns false'. Refute it at one input. -/
def fnRawAppendBodyInTwoPiecesWrong : ChangeSpec := { name := "fnRawAppendBodyInTwoPieces", fn := fun _ => fun
  | [d1, d2, d3, d4] => { results := [.lit (.bool false)], args := [d1, d2, d3, d4] }
  | _ => none }
def FnRawAppendBodyInTwoPiecesWrongFalsely : Prop := fnRawAppendBodyInTwoPiecesRow.holds Try.pinned (OpenSpec.ofChange fnRawAppendBodyInTwoPiecesWrong)

/-- 'zzlaws_ike_b1.FnRawAppendBodyCutAndTag': WHATEVER THE INPUT: true; the input reads as it did. -/
def fnRawAppendBodyCutAndTagSpec : ChangeSpec := { name := "fnRawAppendBodyCutAndTag", fn := fun _ => fun
  | [d1, d2, d3, d4, d5] => { results := [.lit (.bool true)], args := [d1, d2, d3, d4, d5] }
  | _ => none }
def fnRawAppendBodyCutAndTagRow : OpenClaim := { program := "qxb6613140a", sum := "e90bc8505185a622617bb340d7b1409f304101e7e0459307efd4c1e3cf35cd6a", func := "example.com/tunnelwright/tunnelwright/zzlaws_ike_b1.FnRawAppendBodyCutAndTag", spec := "fnRawAppendBodyCutAndTag", apart := false }
def FnRawAppendBodyCutAndTagSaid : Prop := fnRawAppendBodyCutAndTagRow.holds Try.pinned (OpenSpec.ofChange fnRawAppendBodyCutAndTagSpec)

/-- ITS FALSE NEIGHBOUR: 'it returns false'. Refute it at one input. -/
def fnRawAppendBodyCutAndTagWrong : ChangeSpec := { name := "fnRawAppendBodyCutAndTag", fn := fun _ => fun
  | [d1, d2, d3, d4, d5] => { results := [.lit (.bool false)], args := [d1, d2, d3, d4, d5] }
  | _ => none }
def FnRawAppendBodyCutAndTagWrongFalsely : Prop := fnRawAppendBodyCutAndTagRow.holds Try.pinned (OpenSpec.ofChange fnRawAppendBodyCutAndTagWrong)

/-- 'zzlaws_ike_b1.FnSPIStringDecodesAndOrders': WHATEVER THE INPUT: true; the input reads as it did. -/
def fnSPIStringDecodesAndOrdersSpec : ChangeSpec := { name := "fnSPIStringDecodesAndOrders", fn := fun _ => fun
  | [d1, d2] => { results := [.lit (.bool true)], args := [d1, d2] }
  | _ => none }
def fnSPIStringDecodesAndOrdersRow : OpenClaim := { program := "qxb6613140a", sum := "e90bc8505185a622617bb340d7b1409f304101e7e0459307efd4c1e3cf35cd6a", func := "example.com/tunnelwright/tunnelwright/zzlaws_ike_b1.FnSPIStringDecodesAndOrders", spec := "fnSPIStringDecodesAndOrders", apart := false }
def FnSPIStringDecodesAndOrdersSaid : Prop := fnSPIStringDecodesAndOrdersRow.holds Try.pinned (OpenSpec.ofChange fnSPIStringDecodesAndOrdersSpec)

/-- ITS FALSE NEIGHBOUR: 'it returns false'. Refute it at one input. -/
def fnSPIStringDecodesAndOrdersWrong : ChangeSpec := { name := "fnSPIStringDecodesAndOrders", fn := fun _ => fun
  | [d1, d2] => { results := [.lit (.bool false)], args := [d1, d2] }
  | _ => none }
def FnSPIStringDecodesAndOrdersWrongFalsely : Prop := fnSPIStringDecodesAndOrdersRow.holds Try.pinned (OpenSpec.ofChange fnSPIStringDecodesAndOrdersWrong)

/-- 'zzlaws_ike_b1.FnSPIStringOneByteChange': WHATEVER THE INPUT: true; the input reads as it did. -/
def fnSPIStringOneByteChangeSpec : ChangeSpec := { name := "fnSPIStringOneByteChange", fn := fun _ => fun
  | [d1, d2, d3] => { results := [.lit (.bool true)], args := [d1, d2, d3] }
  | _ => none }
def fnSPIStringOneByteChangeRow : OpenClaim := { program := "qxb6613140a", sum := "e90bc8505185a622617bb340d7b1409f304101e7e0459307efd4c1e3cf35cd6a", func := "example.com/tunnelwright/tunnelwright/zzlaws_ike_b1.FnSPIStringOneByteChange", spec := "fnSPIStringOneByteChange", apart := false }
def FnSPIStringOneByteChangeSaid : Prop := fnSPIStringOneByteChangeRow.holds Try.pinned (OpenSpec.ofChange fnSPIStringOneByteChangeSpec)

/-- ITS FALSE NEIGHBOUR: 'it returns false'. Refute it at one input. -/
def fnSPIStringOneByteChangeWrong : ChangeSpec := { name := "fnSPIStringOneByteChange", fn := fun _ => fun
  | [d1, d2, d3] => { results := [.lit (.bool false)], args := [d1, d2, d3] }
  | _ => none }
def FnSPIStringOneByteChangeWrongFalsely : Prop := fnSPIStringOneByteChangeRow.holds Try.pinned (OpenSpec.ofChange fnSPIStringOneByteChangeWrong)

end Rows
end Go.Proofs.Qxb6613140a
