import Derived.Test.Qxb6000751aBy9
namespace Go.Proofs.Qxb6000751a.Por
open Go.ChangeShapes Go.WideShapes Go.RowKit
set_option linter.unusedVariables false

set_option maxHeartbeats 8000000 in
set_option maxRecDepth 100000 in
theorem bytes10 (a a1 a2 : Option Addr) (n c m1 c1 m2 c2 : Nat) (ss1 ss2 : List ByteArray) (t1 t2 : Int) (w : World) (h1 : Lies w a1 ss1) (l1 : ss1.length = m1) (h2 : Lies w a2 ss2) (l2 : ss2.length = m2) :
    Calls Try.prog 28 #[.slice a n c, .slice a1 m1 c1, .slice a2 m2 c2, .int .i64 t1, .int .i64 t2] w fun e w' => ByPost (n + (m1 + total ss1) + (m2 + total ss2)) w e w' := by
  have H1 : Hid (Lies w a1 ss1) := h1
  have L1 : Hid (ss1.length = m1) := l1
  have H2 : Hid (Lies w a2 ss2) := h2
  have L2 : Hid (ss2.length = m2) := l2
  clear h1 l1 h2 l2
  go_enter Try.func28, Try.ntmps28
  by_cases hn : n ≤ 1048576
  · by_cases hm1 : m1 ≤ 1048576
    · by_cases hz1 : n + m1 ≤ 1048576
      · go_wp2_with fail
        go_loop [11, 12] (fun z i => ∃ k Z : Nat, k ≤ m1 ∧ Z ≤ 1048576 ∧ i = .int .i64 k ∧ z = .int .i64 Z ∧ Hid (Z = n + m1 + total (ss1.take k))) (fun _ i => m1 - (RowKit.intOf i).toNat)
        case atStart => exact ⟨0, n + m1, by omega, hz1, rfl, by go_num, rfl⟩
        case round =>
          obtain ⟨k, Z1, hk1, hZ1, rfl, rfl, HZ1⟩ := hrel
          by_cases hlt1 : k < m1
          · obtain ⟨b1, o1, rfl, hb1, g1⟩ : ∃ b o, a1 = some ⟨b, o, none⟩ ∧ b < w.heap.size ∧ ∀ i, i < ss1.length → w.cell? ⟨b, o + i, none⟩ = some (.string (ss1.getD i ⟨#[]⟩)) := H1.out.elim (fun e => by have := L1.out; rw [e] at this; simp at this; omega) id
            have hlt' : k < ss1.length := by rw [L1.out]; exact hlt1
            have ht2 := total_take ss1 k hlt'
            obtain ⟨s, hs⟩ : ∃ s, s = ss1.getD k ⟨#[]⟩ := ⟨_, rfl⟩
            have e1 : w.cell? ⟨b1, o1 + k, none⟩ = some (.string s) := by rw [hs]; exact g1 k hlt'
            rw [← hs] at ht2
            have HT2 : Hid (Z1 + s.size = n + m1 + total (ss1.take (k + 1))) := by show _ = _; rw [HZ1.out]; omega
            clear ht2 hs g1 hlt'
            by_cases hss : s.size ≤ 1048576
            · by_cases hz : Z1 + s.size ≤ 1048576
              · go_wp2_with fail
                go_round
                case rel => exact ⟨k + 1, Z1 + s.size, by omega, hz, by go_num, by go_num, HT2⟩
                case measure => simp [RowKit.intOf]; omega
              · go_wp2_with fail
                go_ret
                exact ⟨false, rfl, rfl, fun h => by cases h⟩
            · go_wp2_with fail
              go_ret
              exact ⟨false, rfl, rfl, fun h => by cases h⟩
          · have HZe1 : Hid (Z1 = n + m1 + total ss1) := by have e := HZ1.out; rw [List.take_of_length_le (by rw [L1.out]; omega)] at e; exact e
            clear HZ1
            · by_cases hm2 : m2 ≤ 1048576
              · by_cases hz2 : Z1 + m2 ≤ 1048576
                · go_wp2_with fail
                  go_loop [11, 13] (fun z i => ∃ k Z : Nat, k ≤ m2 ∧ Z ≤ 1048576 ∧ i = .int .i64 k ∧ z = .int .i64 Z ∧ Hid (Z = Z1 + m2 + total (ss2.take k))) (fun _ i => m2 - (RowKit.intOf i).toNat)
                  case atStart => exact ⟨0, Z1 + m2, by omega, hz2, rfl, by go_num, rfl⟩
                  case round =>
                    obtain ⟨k, Z2, hk2, hZ2, rfl, rfl, HZ2⟩ := hrel
                    by_cases hlt2 : k < m2
                    · obtain ⟨b1, o1, rfl, hb1, g1⟩ : ∃ b o, a2 = some ⟨b, o, none⟩ ∧ b < w.heap.size ∧ ∀ i, i < ss2.length → w.cell? ⟨b, o + i, none⟩ = some (.string (ss2.getD i ⟨#[]⟩)) := H2.out.elim (fun e => by have := L2.out; rw [e] at this; simp at this; omega) id
                      have hlt' : k < ss2.length := by rw [L2.out]; exact hlt2
                      have ht2 := total_take ss2 k hlt'
                      obtain ⟨s, hs⟩ : ∃ s, s = ss2.getD k ⟨#[]⟩ := ⟨_, rfl⟩
                      have e1 : w.cell? ⟨b1, o1 + k, none⟩ = some (.string s) := by rw [hs]; exact g1 k hlt'
                      rw [← hs] at ht2
                      have HT2 : Hid (Z2 + s.size = Z1 + m2 + total (ss2.take (k + 1))) := by show _ = _; rw [HZ2.out]; omega
                      clear ht2 hs g1 hlt'
                      by_cases hss : s.size ≤ 1048576
                      · by_cases hz : Z2 + s.size ≤ 1048576
                        · go_wp2_with fail
                          go_round
                          case rel => exact ⟨k + 1, Z2 + s.size, by omega, hz, by go_num, by go_num, HT2⟩
                          case measure => simp [RowKit.intOf]; omega
                        · go_wp2_with fail
                          go_ret
                          exact ⟨false, rfl, rfl, fun h => by cases h⟩
                      · go_wp2_with fail
                        go_ret
                        exact ⟨false, rfl, rfl, fun h => by cases h⟩
                    · have HZe2 : Hid (Z2 = Z1 + m2 + total ss2) := by have e := HZ2.out; rw [List.take_of_length_le (by rw [L2.out]; omega)] at e; exact e
                      clear HZ2
                      go_wp2_with fail
                      go_ret
                      exact ⟨true, rfl, rfl, fun _ => by have e1 := HZe1.out; have e2 := HZe2.out; omega⟩
                · go_wp2_with fail
                  go_ret
                  exact ⟨false, rfl, rfl, fun h => by cases h⟩
              · go_wp2_with fail
                go_ret
                exact ⟨false, rfl, rfl, fun h => by cases h⟩
      · go_wp2_with fail
        go_ret
        exact ⟨false, rfl, rfl, fun h => by cases h⟩
    · go_wp2_with fail
      go_ret
      exact ⟨false, rfl, rfl, fun h => by cases h⟩
  · go_wp2_with fail
    go_ret
    exact ⟨false, rfl, rfl, fun h => by cases h⟩
end Go.Proofs.Qxb6000751a.Por
