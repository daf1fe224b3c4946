import Derived.Test.Qxb6000751aRows
import Derived.Test.Qxb6000751aBy9
import Derived.WalkKit
import Derived.ProofKit
import Derived.OpenShut
import Derived.ShutString
import Derived.ChangeOld
import Derived.Below
import Derived.SliceStrings
namespace Go.Proofs.Qxb6000751a.Por
open Go.ChangeShapes Go.WideShapes Go.ChangeAt Go.RowKit
set_option linter.unusedVariables false

theorem own : ownKnob Try.prog.godebug = none := by kernel_rfl
theorem laidOut : laidOutB Try.prog = true := by kernel_rfl
theorem cells5 : Try.prog.cellsOf 5 = 1 := by kernel_rfl
theorem cells9 : Try.prog.cellsOf 9 = 1 := by kernel_rfl

/-- A slice of bytes that came in, opened. -/
theorem open_bs {H : Type} {enc : TypeId × Value → H} {W : World} {a : Option Addr} {n c : Nat} {d : DataW H} {p : List MemPlace} (h : DataW.Trod enc Try.prog W 0 (fun _ => true) true 22 (.slice a n c) d p) :
    ∃ bs : List Int, Bs W a n bs ∧ (a = none → n = 0 ∧ c = 0) := by
  obtain ⟨fuel, hf⟩ := h
  rcases open_ints Try.underlying22 Try.underlying5 cells5 hf with ⟨hcs, _⟩ | ⟨x, l, cp, zs, hcs, _, hl, hm, hz, _, hcell, hwz⟩
  · simp [Value.cells] at hcs
    obtain ⟨rfl, rfl, rfl⟩ := hcs
    exact ⟨[], ⟨rfl, Or.inl rfl⟩, fun _ => ⟨rfl, rfl⟩⟩
  · simp [Value.cells] at hcs
    obtain ⟨rfl, rfl, rfl⟩ := hcs
    have hz' : zs.length = c := by simpa using hz
    have hlen : n = (zs.take n).length := by rw [List.length_take]; omega
    refine ⟨zs.take n, ⟨hlen, ?_⟩, fun e => by cases e⟩
    by_cases h0 : n = 0
    · exact Or.inl h0
    · right
      obtain ⟨b, off, rfl, hc⟩ := ints_at hcell (by omega)
      refine ⟨b, off, rfl, World.block_lt_of_cell? _ _ (hc 0 (by omega)), fun i hi => ?_⟩
      rw [hc i (by omega), List.getD_eq_getElem?_getD, List.getD_eq_getElem?_getD, List.getElem?_take_of_lt hi]

/-- A slice of strings that came in, opened. -/
theorem open_ss {H : Type} {enc : TypeId × Value → H} {W : World} {a : Option Addr} {n c : Nat} {d : DataW H} {p : List MemPlace} (h : DataW.Trod enc Try.prog W 0 (fun _ => true) true 29 (.slice a n c) d p) :
    ∃ ss : List ByteArray, Lies W a ss ∧ ss.length = n ∧ (a = none → n = 0 ∧ c = 0) := by
  obtain ⟨fuel, hf⟩ := h
  rcases open_strings Try.underlying29 Try.underlying9 cells9 hf with ⟨hcs, _⟩ | ⟨x, l, cp, ss, hcs, _, hl, hm, hz, _, hcell, hwz⟩
  · simp [Value.cells] at hcs
    obtain ⟨rfl, rfl, rfl⟩ := hcs
    exact ⟨[], Or.inl rfl, rfl, fun _ => ⟨rfl, rfl⟩⟩
  · simp [Value.cells] at hcs
    obtain ⟨rfl, rfl, rfl⟩ := hcs
    have hz' : ss.length = c := by simpa using hz
    have hlen : (ss.take n).length = n := by rw [List.length_take]; omega
    refine ⟨ss.take n, ?_, hlen, fun e => by cases e⟩
    by_cases h0 : n = 0
    · left; rw [h0]; rfl
    · right
      obtain ⟨b, off, spot⟩ := x
      have hspot : spot = none := by simpa [Addr.add] using World.cell?_spot (hcell 0 (by omega))
      subst hspot
      have hc : ∀ j, j < ss.length → W.cell? ⟨b, off + j, none⟩ = some (.string (ss.getD j ByteArray.empty)) := fun j hj => by rw [← Go.WideShapes.add_plain]; exact hcell j hj
      refine ⟨b, off, rfl, World.block_lt_of_cell? _ _ (hc 0 (by omega)), fun i hi => ?_⟩
      rw [hlen] at hi
      rw [hc i (by omega), List.getD_eq_getElem?_getD, List.getD_eq_getElem?_getD, List.getElem?_take_of_lt hi]
      rfl
end Go.Proofs.Qxb6000751a.Por
