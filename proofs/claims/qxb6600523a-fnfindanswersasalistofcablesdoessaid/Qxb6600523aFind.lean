import Derived.Test.Qxb6600523aPut
import Derived.Lib.AppendZeros
import Derived.BigRegion
import Derived.Deep.DeepCutAuto
import Derived.Deep.CutRange
namespace Go.Proofs.Qxb6600523a.Jp
open Go.ChangeShapes Go.WideShapes Go.RowKit
set_option linter.unusedVariables false

/-- What find answers. -/
def FindPost (B J D : Nat) (A : Nat → List (Nat × Nat)) (V : Option Nat) (w : World) (e : Ending) (w' : World) : Prop :=
  e = .returned (.tuple #[.int .i64 ((V.getD 0 : Nat) : Int), .bool V.isSome]) ∧ (∃ O slot ix τ, Jn B J D A w' O slot ix τ) ∧ Below B w w'

theorem ret2 {a b : Int} {c d : Bool} (h : a = b) (k : c = d) : Ending.returned (.tuple #[.int .i64 a, .bool c]) = .returned (.tuple #[.int .i64 b, .bool d]) := by rw [h, k]

set_option maxRecDepth 100000 in
set_option maxHeartbeats 2000000 in
theorem find_out (B J D : Nat) (A : Nat → List (Nat × Nat)) (w : World) (O : Nat) (slot : Nat → Value) (ix : Value) (τ : Nat → Role) (h : Jn B J D A w O slot ix τ) (x y : Nat) (hD : D ≤ 65536) (hout : ¬ (x < D ∧ y < D)) (hx : x ≤ 9223372036854775807) (hy : y ≤ 9223372036854775807) :
    Calls Try.prog 20 #[.pointer (some ⟨J, 0, none⟩), .int .i64 x, .int .i64 y] w fun e w' => FindPost B J D A none w e w' := by
  have c0 := h.c0
  have c2 := h.c2
  have e1 : ((-1 : Int) == (y : Int)) = false := beq_eq_false_iff_ne.2 (by omega)
  have e2 : ((-1 : Int) == (x : Int)) = false := beq_eq_false_iff_ne.2 (by omega)
  have HH : Hid (Jn B J D A w O slot ix τ) := h
  clear h
  go_enter Try.func20, Try.ntmps20
  by_cases hxD : D ≤ x
  · go_wp2_with fail
    go_ret2
    exact ⟨rfl, ⟨O, slot, ix, τ, HH.out⟩, Below.refl _ _⟩
  · have hyD : D ≤ y := by omega
    go_wp2_with fail
    go_ret2
    exact ⟨rfl, ⟨O, slot, ix, τ, HH.out⟩, Below.refl _ _⟩
end Go.Proofs.Qxb6600523a.Jp
