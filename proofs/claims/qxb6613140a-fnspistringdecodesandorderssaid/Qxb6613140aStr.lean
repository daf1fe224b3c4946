import Derived.Test.Qxb6613140aShelf
import Derived.WalkKit
import Derived.WalkSpells
import Derived.WalkLawsBesides
import Derived.Outline
import Derived.Deep.DeepFit
namespace Go.Proofs.Qxb6613140a.Spi
open Go.ChangeShapes Go.WideShapes Go.RowKit Go.Lib

def isB (x : Int) : Prop := 0 ≤ x ∧ x < 256

/-- The sixteen digits of eight bytes. -/
def hex (x0 x1 x2 x3 x4 x5 x6 x7 : Int) : ByteArray := ⟨(Hx.encode (Lib.bytesOf [x0, x1, x2, x3, x4, x5, x6, x7])).toArray⟩

theorem lt8 {i : Nat} (h : i < 8) : i = 0 ∨ i = 1 ∨ i = 2 ∨ i = 3 ∨ i = 4 ∨ i = 5 ∨ i = 6 ∨ i = 7 := by omega

set_option maxHeartbeats 400000 in
theorem str_calls (x0 x1 x2 x3 x4 x5 x6 x7 : Int) (w : World) (h0 : isB x0) (h1 : isB x1) (h2 : isB x2) (h3 : isB x3) (h4 : isB x4) (h5 : isB x5) (h6 : isB x6) (h7 : isB x7) :
    Calls Try.prog 18 #[.agg #[.int .u8 x0, .int .u8 x1, .int .u8 x2, .int .u8 x3, .int .u8 x4, .int .u8 x5, .int .u8 x6, .int .u8 x7]] w fun e w' => e = .returned (.string (hex x0 x1 x2 x3 x4 x5 x6 x7)) ∧ Below w.heap.size w w' := by
  have hr : ∀ i, i < 8 → 0 ≤ [x0, x1, x2, x3, x4, x5, x6, x7].getD i 0 ∧ [x0, x1, x2, x3, x4, x5, x6, x7].getD i 0 < 256 := by
    intro i hi
    rcases lt8 hi with rfl | rfl | rfl | rfl | rfl | rfl | rfl | rfl
    · exact h0
    · exact h1
    · exact h2
    · exact h3
    · exact h4
    · exact h5
    · exact h6
    · exact h7
  have hc : ∀ i, i < 8 → (w.alloc (.cells #[.int .u8 x0, .int .u8 x1, .int .u8 x2, .int .u8 x3, .int .u8 x4, .int .u8 x5, .int .u8 x6, .int .u8 x7] 36)).cell? ⟨w.heap.size, 0 + i, none⟩ = some (.int .u8 ([x0, x1, x2, x3, x4, x5, x6, x7].getD i 0)) := by
    intro i hi
    rcases lt8 hi with rfl | rfl | rfl | rfl | rfl | rfl | rfl | rfl <;> simp
  go_enter Try.func18, Try.ntmps18
  go_wp2_with fail
  refine (Try.hex_EncodeToString w.heap.size 0 8 8 [x0, x1, x2, x3, x4, x5, x6, x7] _ rfl hr hc (by simp) (by omega)).mono ?_
  rintro e w1 ⟨rfl, hb⟩
  have HB : Hid (Below (w.alloc (.cells #[.int .u8 x0, .int .u8 x1, .int .u8 x2, .int .u8 x3, .int .u8 x4, .int .u8 x5, .int .u8 x6, .int .u8 x7] 36)).heap.size (w.alloc (.cells #[.int .u8 x0, .int .u8 x1, .int .u8 x2, .int .u8 x3, .int .u8 x4, .int .u8 x5, .int .u8 x6, .int .u8 x7] 36)) w1) := hb
  clear hb hc hr
  go_wp2
  go_ret
  exact ⟨rfl, ((Below.refl _ _).alloc (Nat.le_refl _) _).trans (HB.out.mono (by simp))⟩
end Go.Proofs.Qxb6613140a.Spi
