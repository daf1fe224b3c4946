import Derived.Test.Qxb6000751aClone
namespace Go.Proofs.Qxb6000751a.Por
open Go.ChangeShapes Go.WideShapes Go.RowKit
set_option linter.unusedVariables false

theorem drop_cons {xs : List Int} {k : Nat} (h : k < xs.length) : xs.drop k = xs.getD k 0 :: xs.drop (k + 1) := by
  rw [List.drop_eq_getElem_cons h, List.getD_eq_getElem?_getD, List.getElem?_eq_getElem h]; rfl

set_option maxHeartbeats 400000 in
theorem same_other (a a' : Option Addr) (n n' c c' : Nat) (w : World) (hn : n ≤ 4194304) (hn' : n' ≤ 4194304) (h : n ≠ n') :
    Calls Try.prog 20 #[.slice a n c, .slice a' n' c'] w fun e w' => e = .returned (.bool false) ∧ w' = w := by
  have hne : ((n : Int) != (n' : Int)) = true := bne_iff_ne.2 (by omega)
  go_enter Try.func20, Try.ntmps20
  go_wp2_with fail
  go_ret
  exact ⟨rfl, rfl⟩

set_option maxHeartbeats 1000000 in
theorem same_len (a a' : Option Addr) (n c c' : Nat) (xs ys : List Int) (w : World) (h : Bs w a n xs) (h' : Bs w a' n ys) (hn : n ≤ 4194304) :
    Calls Try.prog 20 #[.slice a n c, .slice a' n c'] w fun e w' => e = .returned (.bool (xs == ys)) ∧ ∃ m, w' = w.drewN m := by
  have H1 : Hid (Bs w a n xs) := h
  have H2 : Hid (Bs w a' n ys) := h'
  clear h h'
  go_enter Try.func20, Try.ntmps20
  go_wp2_with fail
  go_loopw [5] (fun i wr => ∃ k m : Nat, k ≤ n ∧ i = .int .i64 k ∧ wr = w.drewN m ∧ Hid ((xs == ys) = (xs.drop k == ys.drop k))) (fun i _ => n - (RowKit.intOf i).toNat)
  case atStart => exact ⟨0, 0, by omega, rfl, rfl, rfl⟩
  case round =>
    obtain ⟨k, m, hk, rfl, rfl, heq⟩ := hrel
    by_cases hlt : k < n
    · obtain ⟨b1, o1, rfl, hb1, g1⟩ : ∃ b o, a = some ⟨b, o, none⟩ ∧ b < w.heap.size ∧ ∀ i, i < n → w.cell? ⟨b, o + i, none⟩ = some (.int .u8 (xs.getD i 0)) := H1.out.lies.elim (fun e => by omega) id
      obtain ⟨b2, o2, rfl, hb2, g2⟩ : ∃ b o, a' = some ⟨b, o, none⟩ ∧ b < w.heap.size ∧ ∀ i, i < n → w.cell? ⟨b, o + i, none⟩ = some (.int .u8 (ys.getD i 0)) := H2.out.lies.elim (fun e => by omega) id
      have hd1 := drop_cons (xs := xs) (k := k) (by rw [← H1.out.len]; exact hlt)
      have hd2 := drop_cons (xs := ys) (k := k) (by rw [← H2.out.len]; exact hlt)
      obtain ⟨x, hx⟩ : ∃ x, x = xs.getD k 0 := ⟨_, rfl⟩
      obtain ⟨y, hy⟩ : ∃ y, y = ys.getD k 0 := ⟨_, rfl⟩
      have e1 : w.cell? ⟨b1, o1 + k, none⟩ = some (.int .u8 x) := by rw [hx]; exact g1 k hlt
      have e2 : w.cell? ⟨b2, o2 + k, none⟩ = some (.int .u8 y) := by rw [hy]; exact g2 k hlt
      rw [← hx] at hd1
      rw [← hy] at hd2
      have HD : Hid ((xs == ys) = ((x == y) && (xs.drop (k + 1) == ys.drop (k + 1)))) := by show _ = _; rw [heq.out, hd1, hd2, List.cons_beq_cons]
      clear hd1 hd2 hx hy g1 g2
      by_cases hxy : x = y
      · subst hxy
        have HD2 : Hid ((xs == ys) = (xs.drop (k + 1) == ys.drop (k + 1))) := by show _ = _; rw [HD.out]; simp
        go_wp2_with fail
        go_quiet (fail)
        go_wp2_with fail
        exact ⟨⟨k + 1, m + nq, by omega, by go_num, rfl, HD2⟩, by simp [RowKit.intOf]; omega⟩
      · have hne : (x == y) = false := beq_eq_false_iff_ne.2 hxy
        have HD2 : Hid ((xs == ys) = false) := by rw [HD.out, hne]; rfl
        clear hxy
        go_wp2_with fail
        go_quiet (fail)
        go_wp2_with fail
        go_ret
        exact ⟨retb HD2.out.symm, m + nq, World.drewN_drewN ..⟩
    · have HD2 : Hid ((xs == ys) = true) := by
        rw [heq.out, List.drop_of_length_le (by rw [← H1.out.len]; omega), List.drop_of_length_le (by rw [← H2.out.len]; omega)]; rfl
      go_wp2_with fail
      go_ret
      exact ⟨retb HD2.out.symm, m, rfl⟩

/-- sameBytes. -/
theorem same_calls (a a' : Option Addr) (n n' c c' : Nat) (xs ys : List Int) (w : World) (h : Bs w a n xs) (h' : Bs w a' n' ys) (hn : n ≤ 4194304) (hn' : n' ≤ 4194304) :
    Calls Try.prog 20 #[.slice a n c, .slice a' n' c'] w fun e w' => e = .returned (.bool (xs == ys)) ∧ ∃ m, w' = w.drewN m := by
  by_cases e : n = n'
  · subst e
    exact same_len a a' n c c' xs ys w h h' hn
  · have hne : (xs == ys) = false := beq_eq_false_iff_ne.2 (fun e' => e (by rw [h.len, h'.len, e']))
    rw [hne]
    refine (same_other a a' n n' c c' w hn hn' e).mono ?_
    rintro e w' ⟨rfl, rfl⟩
    exact ⟨rfl, 0, rfl⟩

/-! ### strsBytes -/
def total (ss : List ByteArray) : Nat := (ss.map ByteArray.size).sum

theorem total_take (ss : List ByteArray) (k : Nat) (h : k < ss.length) : total (ss.take (k + 1)) = total (ss.take k) + (ss.getD k ⟨#[]⟩).size := by
  unfold total
  rw [List.take_succ_eq_append_getElem h, List.map_append, List.sum_append, List.getD_eq_getElem?_getD, List.getElem?_eq_getElem h]
  simp
theorem total_le (ss : List ByteArray) (k : Nat) : total (ss.take k) ≤ total ss := by
  have e : total ss = total (ss.take k) + total (ss.drop k) := by
    unfold total
    rw [← List.sum_append, ← List.map_append, List.take_append_drop]
  omega

set_option maxHeartbeats 1000000 in
theorem strs_calls (a : Option Addr) (n c : Nat) (ss : List ByteArray) (w : World) (h : Strs w a ss) (hl : ss.length = n) (hn : n ≤ 1048576) (ht : total ss ≤ 1048576) :
    Calls Try.prog 25 #[.slice a n c] w fun e w' => e = .returned (.int .i64 (8 * (n : Int) + (total ss : Int))) ∧ w' = w := by
  have H1 : Hid (Strs w a ss) := h
  have HL : Hid (ss.length = n) := hl
  have HT : Hid (total ss ≤ 1048576) := ht
  clear h hl ht
  go_enter Try.func25, Try.ntmps25
  go_wp2_with fail
  go_loop [3, 4] (fun s i => ∃ k T : Nat, k ≤ n ∧ T ≤ 1048576 ∧ i = .int .i64 k ∧ s = .int .i64 (8 * (n : Int) + (T : Int)) ∧ Hid (T = total (ss.take k))) (fun _ i => n - (RowKit.intOf i).toNat)
  case atStart => exact ⟨0, 0, by omega, by omega, rfl, by go_num, rfl⟩
  case round =>
    obtain ⟨k, T, hk, hT, rfl, rfl, hTt⟩ := hrel
    by_cases hlt : k < n
    · obtain ⟨b1, o1, rfl, hb1, g1⟩ : ∃ b o, a = some ⟨b, o, none⟩ ∧ b < w.heap.size ∧ ∀ i, i < ss.length → w.cell? ⟨b, o + i, none⟩ = some (.string (ss.getD i ⟨#[]⟩)) := H1.out.lies.elim (fun e => by have := HL.out; rw [e] at this; simp at this; omega) id
      have hlt' : k < ss.length := by rw [HL.out]; exact hlt
      have ht2 := total_take ss k hlt'
      have ht3 := total_le ss (k + 1)
      obtain ⟨s, hs⟩ : ∃ s, s = ss.getD k ⟨#[]⟩ := ⟨_, rfl⟩
      have e1 : w.cell? ⟨b1, o1 + k, none⟩ = some (.string s) := by rw [hs]; exact g1 k hlt'
      rw [← hs] at ht2
      have hb : T + s.size ≤ 1048576 := by have := HT.out; rw [hTt.out]; omega
      have HT2 : Hid (T + s.size = total (ss.take (k + 1))) := by rw [hTt.out]; exact ht2.symm
      clear ht2 ht3 hs g1 hlt'
      go_wp2_with fail
      go_round
      case rel => exact ⟨k + 1, T + s.size, by omega, hb, by go_num, by go_num, HT2⟩
      case measure => simp [RowKit.intOf]; omega
    · have HT2 : Hid (T = total ss) := by show _ = _; rw [hTt.out, List.take_of_length_le (by rw [HL.out]; omega)]
      go_wp2_with fail
      go_ret
      exact ⟨reti (by rw [HT2.out]), rfl⟩
end Go.Proofs.Qxb6000751a.Por
