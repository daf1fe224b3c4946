import Derived.Test.Qxb6613140aRows
import Derived.Test.Qxb6613140aStr
import Derived.WalkKit
import Derived.ProofKit
import Derived.OpenShut
import Derived.ShutString
import Derived.ChangeOld
import Derived.Below
namespace Go.Proofs.Qxb6613140a.Spi
open Go.ChangeShapes Go.WideShapes Go.ChangeAt Go.RowKit

theorem own : ownKnob Try.prog.godebug = none := by kernel_rfl
theorem laidOut : laidOutB Try.prog = true := by kernel_rfl
theorem cells35 : Try.prog.cellsOf 35 = 8 := by kernel_rfl
theorem cells5 : Try.prog.cellsOf 5 = 1 := by kernel_rfl

theorem list8 {α : Type} (l : List α) (h : (⟨l⟩ : Array α).size = 8) : ∃ a b c d e f g i, l = [a, b, c, d, e, f, g, i] := by
  match l, h with
  | [a, b, c, d, e, f, g, i], _ => exact ⟨a, b, c, d, e, f, g, i, rfl⟩

/-- An array of eight bytes by value, opened. -/
theorem open8 {H : Type} {enc : TypeId × Value → H} {W : World} {base : Nat} {v : Value} {d : DataW H} {p : List MemPlace}
    (ok : Value.okWide Try.prog W .any base 35 v) (h : DataW.Trod enc Try.prog W 0 (fun _ => true) true 35 v d p) :
    ∃ x0 x1 x2 x3 x4 x5 x6 x7 : Int, v = .agg #[.int .u8 x0, .int .u8 x1, .int .u8 x2, .int .u8 x3, .int .u8 x4, .int .u8 x5, .int .u8 x6, .int .u8 x7] ∧
      isB x0 ∧ isB x1 ∧ isB x2 ∧ isB x3 ∧ isB x4 ∧ isB x5 ∧ isB x6 ∧ isB x7 := by
  obtain ⟨cs, rfl, hsz, _⟩ : ∃ cs, v = .agg cs ∧ cs.size = Try.prog.cellsOf 35 ∧ Row.okWide Try.prog W .any base 35 cs := by
    simpa [Value.okWide, Try.underlying35] using ok
  rw [cells35] at hsz
  obtain ⟨l⟩ := cs
  obtain ⟨c0, c1, c2, c3, c4, c5, c6, c7, rfl⟩ := list8 l hsz
  obtain ⟨fuel, hf⟩ := h
  obtain ⟨xs, m, _, _, _, hl, hel⟩ := DataW.trod_array Try.underlying35 hf
  have one : ∀ i, i < 8 → ∃ x : Int, [c0, c1, c2, c3, c4, c5, c6, c7][i]? = some (.int .u8 x) ∧ isB x := by
    intro i hi
    have e := hel i hi
    rw [cells5, List.getElem?_eq_getElem (by omega)] at e
    obtain ⟨x, ex, _, wx⟩ := DataW.trod_int Try.underlying5 e
    refine ⟨x, ?_, ?_⟩
    · have : i * 1 = i := by omega
      rw [this] at ex
      have g := congrArg (fun l => l[0]?) ex
      simpa [Value.cells, List.getElem?_take, List.getElem?_drop] using g
    · have := bounds_u8 wx
      exact ⟨by omega, by omega⟩
  obtain ⟨x0, e0, b0⟩ := one 0 (by omega)
  obtain ⟨x1, e1, b1⟩ := one 1 (by omega)
  obtain ⟨x2, e2, b2⟩ := one 2 (by omega)
  obtain ⟨x3, e3, b3⟩ := one 3 (by omega)
  obtain ⟨x4, e4, b4⟩ := one 4 (by omega)
  obtain ⟨x5, e5, b5⟩ := one 5 (by omega)
  obtain ⟨x6, e6, b6⟩ := one 6 (by omega)
  obtain ⟨x7, e7, b7⟩ := one 7 (by omega)
  simp at e0 e1 e2 e3 e4 e5 e6 e7
  subst e0 e1 e2 e3 e4 e5 e6 e7
  exact ⟨x0, x1, x2, x3, x4, x5, x6, x7, rfl, b0, b1, b2, b3, b4, b5, b6, b7⟩

end Go.Proofs.Qxb6613140a.Spi
