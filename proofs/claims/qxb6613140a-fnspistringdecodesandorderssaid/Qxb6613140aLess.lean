import Derived.Test.Qxb6613140aStr
import Derived.BigQuiet
import Derived.Deep.QuietTactic
namespace Go.Proofs.Qxb6613140a.Spi
open Go.ChangeShapes Go.WideShapes Go.RowKit Go.Lib

def lex : List Int → List Int → Bool
  | a :: l, b :: m => if a = b then lex l m else decide (a < b)
  | _, _ => false

theorem lex_eq (a : Int) (l m : List Int) : lex (a :: l) (a :: m) = lex l m := by rw [lex, if_pos rfl]
theorem lex_ne (a b : Int) (l m : List Int) (h : a ≠ b) : lex (a :: l) (b :: m) = decide (a < b) := by rw [lex, if_neg h]
theorem retb {a b : Bool} (h : a = b) : Ending.returned (.bool a) = .returned (.bool b) := by rw [h]
theorem below_drewN' {B : Nat} {a w : World} (h : Below B a w) (n : Nat) : Below B a (w.drewN n) := ⟨h.os, h.tape, h.output, h.size, h.block⟩

set_option maxHeartbeats 1000000 in
theorem less_calls (x0 x1 x2 x3 x4 x5 x6 x7 y0 y1 y2 y3 y4 y5 y6 y7 : Int) (w : World) :
    Calls Try.prog 20 #[.agg #[.int .u8 x0, .int .u8 x1, .int .u8 x2, .int .u8 x3, .int .u8 x4, .int .u8 x5, .int .u8 x6, .int .u8 x7], .agg #[.int .u8 y0, .int .u8 y1, .int .u8 y2, .int .u8 y3, .int .u8 y4, .int .u8 y5, .int .u8 y6, .int .u8 y7]] w fun e w' => e = .returned (.bool (lex [x0, x1, x2, x3, x4, x5, x6, x7] [y0, y1, y2, y3, y4, y5, y6, y7])) ∧ Below w.heap.size w w' := by
  go_enter Try.func20, Try.ntmps20
  go_wp2_with fail
  go_loopw [5] (fun i wr => ∃ k m : Nat, k ≤ 8 ∧ i = .int .i64 k ∧ Hid (lex [x0, x1, x2, x3, x4, x5, x6, x7] [y0, y1, y2, y3, y4, y5, y6, y7] = lex ([x0, x1, x2, x3, x4, x5, x6, x7].drop k) ([y0, y1, y2, y3, y4, y5, y6, y7].drop k)) ∧ wr = ((w.alloc (.cells #[.int .u8 x0, .int .u8 x1, .int .u8 x2, .int .u8 x3, .int .u8 x4, .int .u8 x5, .int .u8 x6, .int .u8 x7] 35)).alloc (.cells #[.int .u8 y0, .int .u8 y1, .int .u8 y2, .int .u8 y3, .int .u8 y4, .int .u8 y5, .int .u8 y6, .int .u8 y7] 35)).drewN m) (fun i _ => 8 - (RowKit.intOf i).toNat)
  case atStart => exact ⟨0, 0, by omega, rfl, rfl, rfl⟩
  case round =>
    obtain ⟨k, m, hk, rfl, hlex, rfl⟩ := hrel
    by_cases hlt : k < 8
    · rcases lt8 hlt with rfl | rfl | rfl | rfl | rfl | rfl | rfl | rfl
      · by_cases hxy : x0 = y0
        · subst hxy
          go_wp2_with fail
          go_quiet (fail)
          go_wp2_with fail
          exact ⟨⟨1, m + nq, by omega, rfl, hlex.out.trans (lex_eq _ _ _), rfl⟩, by simp [RowKit.intOf]⟩
        · have hne : (x0 == y0) = false := beq_eq_false_iff_ne.2 hxy
          have HXY : Hid (x0 ≠ y0) := hxy
          clear hxy
          go_wp2_with fail
          go_quiet (fail)
          go_wp2_with fail
          go_quiet (fail)
          go_wp2_with fail
          go_ret
          exact ⟨retb (hlex.out.trans (lex_ne _ _ _ _ HXY.out)).symm, below_drewN' (below_drewN' (below_drewN' (((Below.refl _ _).alloc (Nat.le_refl _) _).alloc (by simp) _) _) _) _⟩
      · by_cases hxy : x1 = y1
        · subst hxy
          go_wp2_with fail
          go_quiet (fail)
          go_wp2_with fail
          exact ⟨⟨2, m + nq, by omega, rfl, hlex.out.trans (lex_eq _ _ _), rfl⟩, by simp [RowKit.intOf]⟩
        · have hne : (x1 == y1) = false := beq_eq_false_iff_ne.2 hxy
          have HXY : Hid (x1 ≠ y1) := hxy
          clear hxy
          go_wp2_with fail
          go_quiet (fail)
          go_wp2_with fail
          go_quiet (fail)
          go_wp2_with fail
          go_ret
          exact ⟨retb (hlex.out.trans (lex_ne _ _ _ _ HXY.out)).symm, below_drewN' (below_drewN' (below_drewN' (((Below.refl _ _).alloc (Nat.le_refl _) _).alloc (by simp) _) _) _) _⟩
      · by_cases hxy : x2 = y2
        · subst hxy
          go_wp2_with fail
          go_quiet (fail)
          go_wp2_with fail
          exact ⟨⟨3, m + nq, by omega, rfl, hlex.out.trans (lex_eq _ _ _), rfl⟩, by simp [RowKit.intOf]⟩
        · have hne : (x2 == y2) = false := beq_eq_false_iff_ne.2 hxy
          have HXY : Hid (x2 ≠ y2) := hxy
          clear hxy
          go_wp2_with fail
          go_quiet (fail)
          go_wp2_with fail
          go_quiet (fail)
          go_wp2_with fail
          go_ret
          exact ⟨retb (hlex.out.trans (lex_ne _ _ _ _ HXY.out)).symm, below_drewN' (below_drewN' (below_drewN' (((Below.refl _ _).alloc (Nat.le_refl _) _).alloc (by simp) _) _) _) _⟩
      · by_cases hxy : x3 = y3
        · subst hxy
          go_wp2_with fail
          go_quiet (fail)
          go_wp2_with fail
          exact ⟨⟨4, m + nq, by omega, rfl, hlex.out.trans (lex_eq _ _ _), rfl⟩, by simp [RowKit.intOf]⟩
        · have hne : (x3 == y3) = false := beq_eq_false_iff_ne.2 hxy
          have HXY : Hid (x3 ≠ y3) := hxy
          clear hxy
          go_wp2_with fail
          go_quiet (fail)
          go_wp2_with fail
          go_quiet (fail)
          go_wp2_with fail
          go_ret
          exact ⟨retb (hlex.out.trans (lex_ne _ _ _ _ HXY.out)).symm, below_drewN' (below_drewN' (below_drewN' (((Below.refl _ _).alloc (Nat.le_refl _) _).alloc (by simp) _) _) _) _⟩
      · by_cases hxy : x4 = y4
        · subst hxy
          go_wp2_with fail
          go_quiet (fail)
          go_wp2_with fail
          exact ⟨⟨5, m + nq, by omega, rfl, hlex.out.trans (lex_eq _ _ _), rfl⟩, by simp [RowKit.intOf]⟩
        · have hne : (x4 == y4) = false := beq_eq_false_iff_ne.2 hxy
          have HXY : Hid (x4 ≠ y4) := hxy
          clear hxy
          go_wp2_with fail
          go_quiet (fail)
          go_wp2_with fail
          go_quiet (fail)
          go_wp2_with fail
          go_ret
          exact ⟨retb (hlex.out.trans (lex_ne _ _ _ _ HXY.out)).symm, below_drewN' (below_drewN' (below_drewN' (((Below.refl _ _).alloc (Nat.le_refl _) _).alloc (by simp) _) _) _) _⟩
      · by_cases hxy : x5 = y5
        · subst hxy
          go_wp2_with fail
          go_quiet (fail)
          go_wp2_with fail
          exact ⟨⟨6, m + nq, by omega, rfl, hlex.out.trans (lex_eq _ _ _), rfl⟩, by simp [RowKit.intOf]⟩
        · have hne : (x5 == y5) = false := beq_eq_false_iff_ne.2 hxy
          have HXY : Hid (x5 ≠ y5) := hxy
          clear hxy
          go_wp2_with fail
          go_quiet (fail)
          go_wp2_with fail
          go_quiet (fail)
          go_wp2_with fail
          go_ret
          exact ⟨retb (hlex.out.trans (lex_ne _ _ _ _ HXY.out)).symm, below_drewN' (below_drewN' (below_drewN' (((Below.refl _ _).alloc (Nat.le_refl _) _).alloc (by simp) _) _) _) _⟩
      · by_cases hxy : x6 = y6
        · subst hxy
          go_wp2_with fail
          go_quiet (fail)
          go_wp2_with fail
          exact ⟨⟨7, m + nq, by omega, rfl, hlex.out.trans (lex_eq _ _ _), rfl⟩, by simp [RowKit.intOf]⟩
        · have hne : (x6 == y6) = false := beq_eq_false_iff_ne.2 hxy
          have HXY : Hid (x6 ≠ y6) := hxy
          clear hxy
          go_wp2_with fail
          go_quiet (fail)
          go_wp2_with fail
          go_quiet (fail)
          go_wp2_with fail
          go_ret
          exact ⟨retb (hlex.out.trans (lex_ne _ _ _ _ HXY.out)).symm, below_drewN' (below_drewN' (below_drewN' (((Below.refl _ _).alloc (Nat.le_refl _) _).alloc (by simp) _) _) _) _⟩
      · by_cases hxy : x7 = y7
        · subst hxy
          go_wp2_with fail
          go_quiet (fail)
          go_wp2_with fail
          exact ⟨⟨8, m + nq, by omega, rfl, hlex.out.trans (lex_eq _ _ _), rfl⟩, by simp [RowKit.intOf]⟩
        · have hne : (x7 == y7) = false := beq_eq_false_iff_ne.2 hxy
          have HXY : Hid (x7 ≠ y7) := hxy
          clear hxy
          go_wp2_with fail
          go_quiet (fail)
          go_wp2_with fail
          go_quiet (fail)
          go_wp2_with fail
          go_ret
          exact ⟨retb (hlex.out.trans (lex_ne _ _ _ _ HXY.out)).symm, below_drewN' (below_drewN' (below_drewN' (((Below.refl _ _).alloc (Nat.le_refl _) _).alloc (by simp) _) _) _) _⟩
    · have h8 : k = 8 := by omega
      subst h8
      go_wp2_with fail
      go_ret
      exact ⟨retb hlex.out.symm, below_drewN' (((Below.refl _ _).alloc (Nat.le_refl _) _).alloc (by simp) _) _⟩
end Go.Proofs.Qxb6613140a.Spi
