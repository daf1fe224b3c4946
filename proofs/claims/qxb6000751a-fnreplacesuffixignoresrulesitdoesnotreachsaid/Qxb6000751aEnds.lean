import Derived.Test.Qxb6000751aMeas
import Derived.Lib.Bytes
import Derived.Laws.Strings3
import Derived.Lib.Strings
namespace Go.Proofs.Qxb6000751a.Por
open Go.ChangeShapes Go.WideShapes Go.RowKit
set_option linter.unusedVariables false

set_option maxHeartbeats 400000 in
theorem stemLen_calls (S b o n c : Nat) (bs : List Int) (t : ByteArray) (w : World) (h : Stem w S b o n c bs) (ht : t.size ≤ 1048576) :
    Calls Try.prog 39 #[.pointer (some ⟨S, 0, none⟩), .string t] w fun e w' => e = .returned (.int .i64 ((n : Int) - (t.size : Int))) ∧ w' = w := by
  have hc := h.cell
  have hn := h.small
  go_enter Try.func39, Try.ntmps39
  go_wp2_with fail
  go_ret
  exact ⟨rfl, rfl⟩

set_option maxHeartbeats 400000 in
theorem ends_short (S b o n c : Nat) (bs : List Int) (t : ByteArray) (w : World) (h : Stem w S b o n c bs) (ht : t.size ≤ 1048576) (hlt : n ≤ t.size) :
    Calls Try.prog 37 #[.pointer (some ⟨S, 0, none⟩), .string t] w fun e w' => e = .returned (.bool false) ∧ w' = w := by
  have hc := h.cell
  have hn := h.small
  have hd : decide ((0 : Int) < (n : Int) - (t.size : Int)) = false := decide_eq_false (by omega)
  go_enter Try.func37, Try.ntmps37
  go_wp2_with fail
  go_ret
  exact ⟨rfl, rfl⟩

/-- Does the word end in t, with more than nothing ahead of it? -/
def endsB (bs : List Int) (t : ByteArray) : Bool := decide (t.size < bs.length) && ((strOfNums (bs.drop (bs.length - t.size))).toList == t.toList)

theorem getD_drop (l : List Int) (a i : Nat) : (l.drop a).getD i 0 = l.getD (a + i) 0 := by
  rw [List.getD_eq_getElem?_getD, List.getD_eq_getElem?_getD, List.getElem?_drop]

set_option maxHeartbeats 400000 in
theorem ends_long (S b o n c : Nat) (bs : List Int) (t : ByteArray) (w : World) (h : Stem w S b o n c bs) (ht : t.size ≤ 1048576) (hlt : t.size < n) (hcap : n ≤ c) :
    Calls Try.prog 37 #[.pointer (some ⟨S, 0, none⟩), .string t] w fun e w' => e = .returned (.bool ((strOfNums (bs.drop (n - t.size))).toList == t.toList)) ∧ w' = w := by
  have hc := h.cell
  have hn := h.small
  have hd : (0 : Int) < (n : Int) - (t.size : Int) := by omega
  have g1 := run_convert_bytes_arg (P := Try.prog) w 22 5 Try.underlying22 Try.underlying5 b (o + (n - t.size)) (n - (n - t.size)) (c - (n - t.size)) (bs.drop (n - t.size)) (by rw [List.length_drop, ← h.len])
    (fun i hi => by rw [getD_drop, Nat.add_assoc]; exact h.at' _ (by omega)) 9 Try.underlying9
  by_cases hcc : c = n - t.size
  · have e3 : bs.drop (n - t.size) = [] := List.drop_of_length_le (by rw [← h.len]; omega)
    have g0 : ∀ cap, (convert 22 9 (.slice (some ⟨b, o, none⟩) 0 cap)).run Try.prog w = .ok (.string (strOfNums (bs.drop (n - t.size)))) w := fun cap => by
      rw [e3]
      exact run_convert_bytes_arg (P := Try.prog) w 22 5 Try.underlying22 Try.underlying5 b o 0 _ [] rfl (fun i hi => absurd hi (Nat.not_lt_zero _)) 9 Try.underlying9
    clear e3 g1
    subst hcc
    go_enter Try.func37, Try.ntmps37
    go_wp2_with fail
    go_ret
    exact ⟨rfl, rfl⟩
  · go_enter Try.func37, Try.ntmps37
    go_wp2_with fail
    go_ret
    exact ⟨rfl, rfl⟩

theorem ends_calls (S b o n c : Nat) (bs : List Int) (t : ByteArray) (w : World) (h : Stem w S b o n c bs) (ht : t.size ≤ 1048576) (hcap : n ≤ c) :
    Calls Try.prog 37 #[.pointer (some ⟨S, 0, none⟩), .string t] w fun e w' => e = .returned (.bool (endsB bs t)) ∧ w' = w := by
  by_cases hlt : t.size < n
  · have e : endsB bs t = ((strOfNums (bs.drop (n - t.size))).toList == t.toList) := by
      unfold endsB
      rw [← h.len, decide_eq_true hlt, Bool.true_and]
    rw [e]
    exact ends_long S b o n c bs t w h ht hlt hcap
  · have e : endsB bs t = false := by
      unfold endsB
      rw [← h.len, decide_eq_false hlt, Bool.false_and]
    rw [e]
    exact ends_short S b o n c bs t w h ht (by omega)
end Go.Proofs.Qxb6000751a.Por
