import Derived.Test.Qxb6000751aBy9
namespace Go.Proofs.Qxb6000751a.Por
open Go.ChangeShapes Go.WideShapes Go.RowKit
set_option linter.unusedVariables false

set_option maxHeartbeats 8000000 in
set_option maxRecDepth 100000 in
theorem bytes11 (a a1 a2 a3 a4 a5 a6 : Option Addr) (n c m1 c1 m2 c2 m3 c3 m4 c4 m5 c5 m6 c6 : Nat) (ss1 ss2 ss3 ss4 ss5 ss6 : List ByteArray) (t1 : Int) (w : World) (h1 : Lies w a1 ss1) (l1 : ss1.length = m1) (h2 : Lies w a2 ss2) (l2 : ss2.length = m2) (h3 : Lies w a3 ss3) (l3 : ss3.length = m3) (h4 : Lies w a4 ss4) (l4 : ss4.length = m4) (h5 : Lies w a5 ss5) (l5 : ss5.length = m5) (h6 : Lies w a6 ss6) (l6 : ss6.length = m6) :
    Calls Try.prog 29 #[.slice a n c, .slice a1 m1 c1, .slice a2 m2 c2, .slice a3 m3 c3, .slice a4 m4 c4, .slice a5 m5 c5, .slice a6 m6 c6, .int .i64 t1] w fun e w' => ByPost (n + (m1 + total ss1) + (m2 + total ss2) + (m3 + total ss3) + (m4 + total ss4) + (m5 + total ss5) + (m6 + total ss6)) w e w' := by
  have H1 : Hid (Lies w a1 ss1) := h1
  have L1 : Hid (ss1.length = m1) := l1
  have H2 : Hid (Lies w a2 ss2) := h2
  have L2 : Hid (ss2.length = m2) := l2
  have H3 : Hid (Lies w a3 ss3) := h3
  have L3 : Hid (ss3.length = m3) := l3
  have H4 : Hid (Lies w a4 ss4) := h4
  have L4 : Hid (ss4.length = m4) := l4
  have H5 : Hid (Lies w a5 ss5) := h5
  have L5 : Hid (ss5.length = m5) := l5
  have H6 : Hid (Lies w a6 ss6) := h6
  have L6 : Hid (ss6.length = m6) := l6
  clear h1 l1 h2 l2 h3 l3 h4 l4 h5 l5 h6 l6
  go_enter Try.func29, Try.ntmps29
  by_cases hn : n ≤ 1048576
  · by_cases hm1 : m1 ≤ 1048576
    · by_cases hz1 : n + m1 ≤ 1048576
      · go_wp2_with fail
        go_loop [17, 18] (fun z i => ∃ k Z : Nat, k ≤ m1 ∧ Z ≤ 1048576 ∧ i = .int .i64 k ∧ z = .int .i64 Z ∧ Hid (Z = n + m1 + total (ss1.take k))) (fun _ i => m1 - (RowKit.intOf i).toNat)
        case atStart => exact ⟨0, n + m1, by omega, hz1, rfl, by go_num, rfl⟩
        case round =>
          obtain ⟨k, Z1, hk1, hZ1, rfl, rfl, HZ1⟩ := hrel
          by_cases hlt1 : k < m1
          · obtain ⟨b1, o1, rfl, hb1, g1⟩ : ∃ b o, a1 = some ⟨b, o, none⟩ ∧ b < w.heap.size ∧ ∀ i, i < ss1.length → w.cell? ⟨b, o + i, none⟩ = some (.string (ss1.getD i ⟨#[]⟩)) := H1.out.elim (fun e => by have := L1.out; rw [e] at this; simp at this; omega) id
            have hlt' : k < ss1.length := by rw [L1.out]; exact hlt1
            have ht2 := total_take ss1 k hlt'
            obtain ⟨s, hs⟩ : ∃ s, s = ss1.getD k ⟨#[]⟩ := ⟨_, rfl⟩
            have e1 : w.cell? ⟨b1, o1 + k, none⟩ = some (.string s) := by rw [hs]; exact g1 k hlt'
            rw [← hs] at ht2
            have HT2 : Hid (Z1 + s.size = n + m1 + total (ss1.take (k + 1))) := by show _ = _; rw [HZ1.out]; omega
            clear ht2 hs g1 hlt'
            by_cases hss : s.size ≤ 1048576
            · by_cases hz : Z1 + s.size ≤ 1048576
              · go_wp2_with fail
                go_round
                case rel => exact ⟨k + 1, Z1 + s.size, by omega, hz, by go_num, by go_num, HT2⟩
                case measure => simp [RowKit.intOf]; omega
              · go_wp2_with fail
                go_ret
                exact ⟨false, rfl, rfl, fun h => by cases h⟩
            · go_wp2_with fail
              go_ret
              exact ⟨false, rfl, rfl, fun h => by cases h⟩
          · have HZe1 : Hid (Z1 = n + m1 + total ss1) := by have e := HZ1.out; rw [List.take_of_length_le (by rw [L1.out]; omega)] at e; exact e
            clear HZ1
            · by_cases hm2 : m2 ≤ 1048576
              · by_cases hz2 : Z1 + m2 ≤ 1048576
                · go_wp2_with fail
                  go_loop [17, 19] (fun z i => ∃ k Z : Nat, k ≤ m2 ∧ Z ≤ 1048576 ∧ i = .int .i64 k ∧ z = .int .i64 Z ∧ Hid (Z = Z1 + m2 + total (ss2.take k))) (fun _ i => m2 - (RowKit.intOf i).toNat)
                  case atStart => exact ⟨0, Z1 + m2, by omega, hz2, rfl, by go_num, rfl⟩
                  case round =>
                    obtain ⟨k, Z2, hk2, hZ2, rfl, rfl, HZ2⟩ := hrel
                    by_cases hlt2 : k < m2
                    · obtain ⟨b1, o1, rfl, hb1, g1⟩ : ∃ b o, a2 = some ⟨b, o, none⟩ ∧ b < w.heap.size ∧ ∀ i, i < ss2.length → w.cell? ⟨b, o + i, none⟩ = some (.string (ss2.getD i ⟨#[]⟩)) := H2.out.elim (fun e => by have := L2.out; rw [e] at this; simp at this; omega) id
                      have hlt' : k < ss2.length := by rw [L2.out]; exact hlt2
                      have ht2 := total_take ss2 k hlt'
                      obtain ⟨s, hs⟩ : ∃ s, s = ss2.getD k ⟨#[]⟩ := ⟨_, rfl⟩
                      have e1 : w.cell? ⟨b1, o1 + k, none⟩ = some (.string s) := by rw [hs]; exact g1 k hlt'
                      rw [← hs] at ht2
                      have HT2 : Hid (Z2 + s.size = Z1 + m2 + total (ss2.take (k + 1))) := by show _ = _; rw [HZ2.out]; omega
                      clear ht2 hs g1 hlt'
                      by_cases hss : s.size ≤ 1048576
                      · by_cases hz : Z2 + s.size ≤ 1048576
                        · go_wp2_with fail
                          go_round
                          case rel => exact ⟨k + 1, Z2 + s.size, by omega, hz, by go_num, by go_num, HT2⟩
                          case measure => simp [RowKit.intOf]; omega
                        · go_wp2_with fail
                          go_ret
                          exact ⟨false, rfl, rfl, fun h => by cases h⟩
                      · go_wp2_with fail
                        go_ret
                        exact ⟨false, rfl, rfl, fun h => by cases h⟩
                    · have HZe2 : Hid (Z2 = Z1 + m2 + total ss2) := by have e := HZ2.out; rw [List.take_of_length_le (by rw [L2.out]; omega)] at e; exact e
                      clear HZ2
                      · by_cases hm3 : m3 ≤ 1048576
                        · by_cases hz3 : Z2 + m3 ≤ 1048576
                          · go_wp2_with fail
                            go_loop [17, 20] (fun z i => ∃ k Z : Nat, k ≤ m3 ∧ Z ≤ 1048576 ∧ i = .int .i64 k ∧ z = .int .i64 Z ∧ Hid (Z = Z2 + m3 + total (ss3.take k))) (fun _ i => m3 - (RowKit.intOf i).toNat)
                            case atStart => exact ⟨0, Z2 + m3, by omega, hz3, rfl, by go_num, rfl⟩
                            case round =>
                              obtain ⟨k, Z3, hk3, hZ3, rfl, rfl, HZ3⟩ := hrel
                              by_cases hlt3 : k < m3
                              · obtain ⟨b1, o1, rfl, hb1, g1⟩ : ∃ b o, a3 = some ⟨b, o, none⟩ ∧ b < w.heap.size ∧ ∀ i, i < ss3.length → w.cell? ⟨b, o + i, none⟩ = some (.string (ss3.getD i ⟨#[]⟩)) := H3.out.elim (fun e => by have := L3.out; rw [e] at this; simp at this; omega) id
                                have hlt' : k < ss3.length := by rw [L3.out]; exact hlt3
                                have ht2 := total_take ss3 k hlt'
                                obtain ⟨s, hs⟩ : ∃ s, s = ss3.getD k ⟨#[]⟩ := ⟨_, rfl⟩
                                have e1 : w.cell? ⟨b1, o1 + k, none⟩ = some (.string s) := by rw [hs]; exact g1 k hlt'
                                rw [← hs] at ht2
                                have HT2 : Hid (Z3 + s.size = Z2 + m3 + total (ss3.take (k + 1))) := by show _ = _; rw [HZ3.out]; omega
                                clear ht2 hs g1 hlt'
                                by_cases hss : s.size ≤ 1048576
                                · by_cases hz : Z3 + s.size ≤ 1048576
                                  · go_wp2_with fail
                                    go_round
                                    case rel => exact ⟨k + 1, Z3 + s.size, by omega, hz, by go_num, by go_num, HT2⟩
                                    case measure => simp [RowKit.intOf]; omega
                                  · go_wp2_with fail
                                    go_ret
                                    exact ⟨false, rfl, rfl, fun h => by cases h⟩
                                · go_wp2_with fail
                                  go_ret
                                  exact ⟨false, rfl, rfl, fun h => by cases h⟩
                              · have HZe3 : Hid (Z3 = Z2 + m3 + total ss3) := by have e := HZ3.out; rw [List.take_of_length_le (by rw [L3.out]; omega)] at e; exact e
                                clear HZ3
                                · by_cases hm4 : m4 ≤ 1048576
                                  · by_cases hz4 : Z3 + m4 ≤ 1048576
                                    · go_wp2_with fail
                                      go_loop [17, 21] (fun z i => ∃ k Z : Nat, k ≤ m4 ∧ Z ≤ 1048576 ∧ i = .int .i64 k ∧ z = .int .i64 Z ∧ Hid (Z = Z3 + m4 + total (ss4.take k))) (fun _ i => m4 - (RowKit.intOf i).toNat)
                                      case atStart => exact ⟨0, Z3 + m4, by omega, hz4, rfl, by go_num, rfl⟩
                                      case round =>
                                        obtain ⟨k, Z4, hk4, hZ4, rfl, rfl, HZ4⟩ := hrel
                                        by_cases hlt4 : k < m4
                                        · obtain ⟨b1, o1, rfl, hb1, g1⟩ : ∃ b o, a4 = some ⟨b, o, none⟩ ∧ b < w.heap.size ∧ ∀ i, i < ss4.length → w.cell? ⟨b, o + i, none⟩ = some (.string (ss4.getD i ⟨#[]⟩)) := H4.out.elim (fun e => by have := L4.out; rw [e] at this; simp at this; omega) id
                                          have hlt' : k < ss4.length := by rw [L4.out]; exact hlt4
                                          have ht2 := total_take ss4 k hlt'
                                          obtain ⟨s, hs⟩ : ∃ s, s = ss4.getD k ⟨#[]⟩ := ⟨_, rfl⟩
                                          have e1 : w.cell? ⟨b1, o1 + k, none⟩ = some (.string s) := by rw [hs]; exact g1 k hlt'
                                          rw [← hs] at ht2
                                          have HT2 : Hid (Z4 + s.size = Z3 + m4 + total (ss4.take (k + 1))) := by show _ = _; rw [HZ4.out]; omega
                                          clear ht2 hs g1 hlt'
                                          by_cases hss : s.size ≤ 1048576
                                          · by_cases hz : Z4 + s.size ≤ 1048576
                                            · go_wp2_with fail
                                              go_round
                                              case rel => exact ⟨k + 1, Z4 + s.size, by omega, hz, by go_num, by go_num, HT2⟩
                                              case measure => simp [RowKit.intOf]; omega
                                            · go_wp2_with fail
                                              go_ret
                                              exact ⟨false, rfl, rfl, fun h => by cases h⟩
                                          · go_wp2_with fail
                                            go_ret
                                            exact ⟨false, rfl, rfl, fun h => by cases h⟩
                                        · have HZe4 : Hid (Z4 = Z3 + m4 + total ss4) := by have e := HZ4.out; rw [List.take_of_length_le (by rw [L4.out]; omega)] at e; exact e
                                          clear HZ4
                                          · by_cases hm5 : m5 ≤ 1048576
                                            · by_cases hz5 : Z4 + m5 ≤ 1048576
                                              · go_wp2_with fail
                                                go_loop [17, 22] (fun z i => ∃ k Z : Nat, k ≤ m5 ∧ Z ≤ 1048576 ∧ i = .int .i64 k ∧ z = .int .i64 Z ∧ Hid (Z = Z4 + m5 + total (ss5.take k))) (fun _ i => m5 - (RowKit.intOf i).toNat)
                                                case atStart => exact ⟨0, Z4 + m5, by omega, hz5, rfl, by go_num, rfl⟩
                                                case round =>
                                                  obtain ⟨k, Z5, hk5, hZ5, rfl, rfl, HZ5⟩ := hrel
                                                  by_cases hlt5 : k < m5
                                                  · obtain ⟨b1, o1, rfl, hb1, g1⟩ : ∃ b o, a5 = some ⟨b, o, none⟩ ∧ b < w.heap.size ∧ ∀ i, i < ss5.length → w.cell? ⟨b, o + i, none⟩ = some (.string (ss5.getD i ⟨#[]⟩)) := H5.out.elim (fun e => by have := L5.out; rw [e] at this; simp at this; omega) id
                                                    have hlt' : k < ss5.length := by rw [L5.out]; exact hlt5
                                                    have ht2 := total_take ss5 k hlt'
                                                    obtain ⟨s, hs⟩ : ∃ s, s = ss5.getD k ⟨#[]⟩ := ⟨_, rfl⟩
                                                    have e1 : w.cell? ⟨b1, o1 + k, none⟩ = some (.string s) := by rw [hs]; exact g1 k hlt'
                                                    rw [← hs] at ht2
                                                    have HT2 : Hid (Z5 + s.size = Z4 + m5 + total (ss5.take (k + 1))) := by show _ = _; rw [HZ5.out]; omega
                                                    clear ht2 hs g1 hlt'
                                                    by_cases hss : s.size ≤ 1048576
                                                    · by_cases hz : Z5 + s.size ≤ 1048576
                                                      · go_wp2_with fail
                                                        go_round
                                                        case rel => exact ⟨k + 1, Z5 + s.size, by omega, hz, by go_num, by go_num, HT2⟩
                                                        case measure => simp [RowKit.intOf]; omega
                                                      · go_wp2_with fail
                                                        go_ret
                                                        exact ⟨false, rfl, rfl, fun h => by cases h⟩
                                                    · go_wp2_with fail
                                                      go_ret
                                                      exact ⟨false, rfl, rfl, fun h => by cases h⟩
                                                  · have HZe5 : Hid (Z5 = Z4 + m5 + total ss5) := by have e := HZ5.out; rw [List.take_of_length_le (by rw [L5.out]; omega)] at e; exact e
                                                    clear HZ5
                                                    · by_cases hm6 : m6 ≤ 1048576
                                                      · by_cases hz6 : Z5 + m6 ≤ 1048576
                                                        · go_wp2_with fail
                                                          go_loop [17, 23] (fun z i => ∃ k Z : Nat, k ≤ m6 ∧ Z ≤ 1048576 ∧ i = .int .i64 k ∧ z = .int .i64 Z ∧ Hid (Z = Z5 + m6 + total (ss6.take k))) (fun _ i => m6 - (RowKit.intOf i).toNat)
                                                          case atStart => exact ⟨0, Z5 + m6, by omega, hz6, rfl, by go_num, rfl⟩
                                                          case round =>
                                                            obtain ⟨k, Z6, hk6, hZ6, rfl, rfl, HZ6⟩ := hrel
                                                            by_cases hlt6 : k < m6
                                                            · obtain ⟨b1, o1, rfl, hb1, g1⟩ : ∃ b o, a6 = some ⟨b, o, none⟩ ∧ b < w.heap.size ∧ ∀ i, i < ss6.length → w.cell? ⟨b, o + i, none⟩ = some (.string (ss6.getD i ⟨#[]⟩)) := H6.out.elim (fun e => by have := L6.out; rw [e] at this; simp at this; omega) id
                                                              have hlt' : k < ss6.length := by rw [L6.out]; exact hlt6
                                                              have ht2 := total_take ss6 k hlt'
                                                              obtain ⟨s, hs⟩ : ∃ s, s = ss6.getD k ⟨#[]⟩ := ⟨_, rfl⟩
                                                              have e1 : w.cell? ⟨b1, o1 + k, none⟩ = some (.string s) := by rw [hs]; exact g1 k hlt'
                                                              rw [← hs] at ht2
                                                              have HT2 : Hid (Z6 + s.size = Z5 + m6 + total (ss6.take (k + 1))) := by show _ = _; rw [HZ6.out]; omega
                                                              clear ht2 hs g1 hlt'
                                                              by_cases hss : s.size ≤ 1048576
                                                              · by_cases hz : Z6 + s.size ≤ 1048576
                                                                · go_wp2_with fail
                                                                  go_round
                                                                  case rel => exact ⟨k + 1, Z6 + s.size, by omega, hz, by go_num, by go_num, HT2⟩
                                                                  case measure => simp [RowKit.intOf]; omega
                                                                · go_wp2_with fail
                                                                  go_ret
                                                                  exact ⟨false, rfl, rfl, fun h => by cases h⟩
                                                              · go_wp2_with fail
                                                                go_ret
                                                                exact ⟨false, rfl, rfl, fun h => by cases h⟩
                                                            · have HZe6 : Hid (Z6 = Z5 + m6 + total ss6) := by have e := HZ6.out; rw [List.take_of_length_le (by rw [L6.out]; omega)] at e; exact e
                                                              clear HZ6
                                                              go_wp2_with fail
                                                              go_ret
                                                              exact ⟨true, rfl, rfl, fun _ => by have e1 := HZe1.out; have e2 := HZe2.out; have e3 := HZe3.out; have e4 := HZe4.out; have e5 := HZe5.out; have e6 := HZe6.out; omega⟩
                                                        · go_wp2_with fail
                                                          go_ret
                                                          exact ⟨false, rfl, rfl, fun h => by cases h⟩
                                                      · go_wp2_with fail
                                                        go_ret
                                                        exact ⟨false, rfl, rfl, fun h => by cases h⟩
                                              · go_wp2_with fail
                                                go_ret
                                                exact ⟨false, rfl, rfl, fun h => by cases h⟩
                                            · go_wp2_with fail
                                              go_ret
                                              exact ⟨false, rfl, rfl, fun h => by cases h⟩
                                    · go_wp2_with fail
                                      go_ret
                                      exact ⟨false, rfl, rfl, fun h => by cases h⟩
                                  · go_wp2_with fail
                                    go_ret
                                    exact ⟨false, rfl, rfl, fun h => by cases h⟩
                          · go_wp2_with fail
                            go_ret
                            exact ⟨false, rfl, rfl, fun h => by cases h⟩
                        · go_wp2_with fail
                          go_ret
                          exact ⟨false, rfl, rfl, fun h => by cases h⟩
                · go_wp2_with fail
                  go_ret
                  exact ⟨false, rfl, rfl, fun h => by cases h⟩
              · go_wp2_with fail
                go_ret
                exact ⟨false, rfl, rfl, fun h => by cases h⟩
      · go_wp2_with fail
        go_ret
        exact ⟨false, rfl, rfl, fun h => by cases h⟩
    · go_wp2_with fail
      go_ret
      exact ⟨false, rfl, rfl, fun h => by cases h⟩
  · go_wp2_with fail
    go_ret
    exact ⟨false, rfl, rfl, fun h => by cases h⟩
end Go.Proofs.Qxb6000751a.Por
