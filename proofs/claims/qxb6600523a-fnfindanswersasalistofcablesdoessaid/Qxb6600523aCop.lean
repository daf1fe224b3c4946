import Derived.Test.Qxb6600523aJn
namespace Go.Proofs.Qxb6600523a.Jp
open Go.ChangeShapes Go.WideShapes Go.RowKit
set_option linter.unusedVariables false

/-- What a test answers that leaves the world alone. -/
def Tells (P : Prop) (w : World) (e : Ending) (w' : World) : Prop := ∃ r, e = .returned (.bool r) ∧ w' = w ∧ (r = true → P)

set_option maxHeartbeats 1000000 in
theorem bytes_calls (t : Int) (a0 a1 a2 : Option Addr) (n0 c0 n1 c1 n2 c2 : Nat) (w : World) :
    Calls Try.prog 7 #[.int .i64 t, .slice a0 n0 c0, .slice a1 n1 c1, .slice a2 n2 c2] w fun e w' => Tells (n0 + n1 + n2 ≤ 1048576) w e w' := by
  go_enter Try.func7, Try.ntmps7
  by_cases h0 : n0 ≤ 1048576
  case neg =>
    go_wp2_with fail
    go_ret
    exact ⟨false, rfl, rfl, fun h => by cases h⟩
  by_cases h1 : n1 ≤ 1048576
  case neg =>
    go_wp2_with fail
    go_ret
    exact ⟨false, rfl, rfl, fun h => by cases h⟩
  by_cases h2 : n0 + n1 ≤ 1048576
  case neg =>
    go_wp2_with fail
    go_ret
    exact ⟨false, rfl, rfl, fun h => by cases h⟩
  by_cases h3 : n2 ≤ 1048576
  case neg =>
    go_wp2_with fail
    go_ret
    exact ⟨false, rfl, rfl, fun h => by cases h⟩
  by_cases h4 : n0 + n1 + n2 ≤ 1048576
  case neg =>
    go_wp2_with fail
    go_ret
    exact ⟨false, rfl, rfl, fun h => by cases h⟩
  go_wp2_with fail
  go_ret
  exact ⟨true, rfl, rfl, fun _ => h4⟩

set_option maxHeartbeats 1000000 in
/-- zzSamePair. -/
theorem same_calls (a b x y : Int) (w : World) :
    Calls Try.prog 10 #[.int .i64 a, .int .i64 b, .int .i64 x, .int .i64 y] w fun e w' => e = .returned (.bool (decide ((a = x ∧ b = y) ∨ (a = y ∧ b = x)))) ∧ w' = w := by
  by_cases h1 : a = x
  · by_cases h2 : b = y
    · have e1 : (a == x) = true := beq_iff_eq.2 h1
      have e2 : (b == y) = true := beq_iff_eq.2 h2
      have HD : Hid (decide ((a = x ∧ b = y) ∨ (a = y ∧ b = x)) = true) := decide_eq_true (Or.inl ⟨h1, h2⟩)
      clear h1 h2
      go_enter Try.func10, Try.ntmps10
      go_wp2_with fail
      go_ret
      exact ⟨retb HD.out.symm, rfl⟩
    · have e1 : (a == x) = true := beq_iff_eq.2 h1
      have e2 : (b == y) = false := beq_eq_false_iff_ne.2 h2
      by_cases h3 : a = y
      · by_cases h4 : b = x
        · exact absurd (h4.trans (h1.symm.trans h3)) h2
        · have e3 : (a == y) = true := beq_iff_eq.2 h3
          have e4 : (b == x) = false := beq_eq_false_iff_ne.2 h4
          have HD : Hid (decide ((a = x ∧ b = y) ∨ (a = y ∧ b = x)) = false) := decide_eq_false (by omega)
          clear h1 h2 h3 h4
          go_enter Try.func10, Try.ntmps10
          go_wp2_with fail
          go_ret
          exact ⟨retb HD.out.symm, rfl⟩
      · have e3 : (a == y) = false := beq_eq_false_iff_ne.2 h3
        have HD : Hid (decide ((a = x ∧ b = y) ∨ (a = y ∧ b = x)) = false) := decide_eq_false (by omega)
        clear h1 h2 h3
        go_enter Try.func10, Try.ntmps10
        go_wp2_with fail
        go_ret
        exact ⟨retb HD.out.symm, rfl⟩
  · have e1 : (a == x) = false := beq_eq_false_iff_ne.2 h1
    by_cases h3 : a = y
    · have e3 : (a == y) = true := beq_iff_eq.2 h3
      by_cases h4 : b = x
      · have e4 : (b == x) = true := beq_iff_eq.2 h4
        have HD : Hid (decide ((a = x ∧ b = y) ∨ (a = y ∧ b = x)) = true) := decide_eq_true (Or.inr ⟨h3, h4⟩)
        clear h1 h3 h4
        go_enter Try.func10, Try.ntmps10
        go_wp2_with fail
        go_ret
        exact ⟨retb HD.out.symm, rfl⟩
      · have e4 : (b == x) = false := beq_eq_false_iff_ne.2 h4
        have HD : Hid (decide ((a = x ∧ b = y) ∨ (a = y ∧ b = x)) = false) := decide_eq_false (by omega)
        clear h1 h3 h4
        go_enter Try.func10, Try.ntmps10
        go_wp2_with fail
        go_ret
        exact ⟨retb HD.out.symm, rfl⟩
    · have e3 : (a == y) = false := beq_eq_false_iff_ne.2 h3
      have HD : Hid (decide ((a = x ∧ b = y) ∨ (a = y ∧ b = x)) = false) := decide_eq_false (by omega)
      clear h1 h3
      go_enter Try.func10, Try.ntmps10
      go_wp2_with fail
      go_ret
      exact ⟨retb HD.out.symm, rfl⟩
end Go.Proofs.Qxb6600523a.Jp
