import Derived.Test.Qxb6600117aProg
import Derived.Test.Qxb6600117aPlain
import Derived.WalkKit
import Derived.WalkSpells
import Derived.WalkLawsBesides
import Derived.Outline
import Derived.Deep.DeepFit
import Derived.BigQuiet
import Derived.Deep.QuietTactic
import Derived.Laws.CopyOwn
import Derived.Deep.OwnRows
import Derived.Below
namespace Go.Proofs.Qxb6600117a.Kp
open Go.ChangeShapes Go.WideShapes Go.RowKit
set_option linter.unusedVariables false

theorem retb {a b : Bool} (h : a = b) : Ending.returned (.bool a) = .returned (.bool b) := by rw [h]
theorem reti {k : IntKind} {a b : Int} (h : a = b) : Ending.returned (.int k a) = .returned (.int k b) := by rw [h]

/-- A slice of ints as it lies in memory. -/
structure Ints (w : World) (a : Option Addr) (n : Nat) (xs : List Int) : Prop where
  len : xs.length = n
  lies : n = 0 ∨ ∃ p : Addr, a = some p ∧ p.block < w.heap.size ∧ ∀ i, i < n → w.cell? (p.add i) = some (.int .i64 (xs.getD i 0))

/-- What a test answers that leaves the world alone. -/
def Tells (P : Prop) (w : World) (e : Ending) (w' : World) : Prop := ∃ r, e = .returned (.bool r) ∧ w' = w ∧ (r = true → P)

set_option maxHeartbeats 1000000 in
theorem bytes_calls (a0 a1 : Option Addr) (n0 c0 n1 c1 : Nat) (t2 t3 t4 t5 t6 t7 t8 t9 t10 : Int) (w : World) :
    Calls Try.prog 25 #[.slice a0 n0 c0, .slice a1 n1 c1, .int .i64 t2, .int .i64 t3, .int .i64 t4, .int .i64 t5, .int .i64 t6, .int .i64 t7, .int .i64 t8, .int .i64 t9, .int .i64 t10] w fun e w' => Tells (n0 + n1 ≤ 1048576) w e w' := by
  go_enter Try.func25, Try.ntmps25
  by_cases h0 : n0 ≤ 1048576
  · by_cases h1 : n1 ≤ 1048576
    · by_cases h2 : n0 + n1 ≤ 1048576
      · go_wp2_with fail
        go_ret
        exact ⟨true, rfl, rfl, fun _ => h2⟩
      · go_wp2_with fail
        go_ret
        exact ⟨false, rfl, rfl, fun h => by cases h⟩
    · go_wp2_with fail
      go_ret
      exact ⟨false, rfl, rfl, fun h => by cases h⟩
  · go_wp2_with fail
    go_ret
    exact ⟨false, rfl, rfl, fun h => by cases h⟩

set_option maxHeartbeats 1000000 in
theorem range_calls (a : Option Addr) (n c : Nat) (lo hi : Int) (w : World) (hn : n ≤ 65536) :
    Calls Try.prog 20 #[.slice a n c, .int .i64 lo, .int .i64 hi] w fun e w' => Tells (0 ≤ lo ∧ lo ≤ hi ∧ hi ≤ n) w e w' := by
  go_enter Try.func20, Try.ntmps20
  by_cases h0 : 0 ≤ lo
  · by_cases h1 : lo ≤ hi
    · by_cases h2 : hi ≤ n
      · go_wp2_with fail
        go_ret
        exact ⟨true, rfl, rfl, fun _ => ⟨h0, h1, h2⟩⟩
      · go_wp2_with fail
        go_ret
        exact ⟨false, rfl, rfl, fun h => by cases h⟩
    · go_wp2_with fail
      go_ret
      exact ⟨false, rfl, rfl, fun h => by cases h⟩
  · go_wp2_with fail
    go_ret
    exact ⟨false, rfl, rfl, fun h => by cases h⟩

/-- What diffB1IDs answers. -/
def IdPost (xs : List Int) (lo hi n : Nat) (w : World) (e : Ending) (w' : World) : Prop :=
  ∃ (n' : Nat) (ok : Bool), e = .returned (.tuple #[.int .i64 n', .bool ok]) ∧ w' = w ∧ (ok = true → n ≤ n' ∧ n' ≤ 65536 ∧ ∀ i, lo ≤ i → i < hi → 0 ≤ xs.getD i 0 ∧ xs.getD i 0 < n')

set_option maxHeartbeats 1000000 in
theorem ids_calls (a : Option Addr) (len c : Nat) (xs : List Int) (lo hi n : Nat) (w : World) (h : Ints w a len xs) (hl : len ≤ 65536) (h1 : lo ≤ hi) (h2 : hi ≤ len) (hn : n ≤ 65536) :
    Calls Try.prog 21 #[.slice a len c, .int .i64 lo, .int .i64 hi, .int .i64 n] w fun e w' => IdPost xs lo hi n w e w' := by
  have H1 : Hid (Ints w a len xs) := h
  clear h
  go_enter Try.func21, Try.ntmps21
  go_wp2_with fail
  go_loop [3, 10] (fun s i => ∃ k m : Nat, lo ≤ k ∧ k ≤ hi ∧ n ≤ m ∧ m ≤ 65536 ∧ i = .int .i64 k ∧ s = .int .i64 m ∧ Hid (∀ i, lo ≤ i → i < k → 0 ≤ xs.getD i 0 ∧ xs.getD i 0 < m)) (fun _ i => hi - (RowKit.intOf i).toNat)
  case atStart => exact ⟨lo, n, by omega, by omega, by omega, by omega, rfl, rfl, fun i a b => by omega⟩
  case round =>
    obtain ⟨k, m, hk1, hk2, hm1, hm2, rfl, rfl, HR⟩ := hrel
    by_cases hlt : k < hi
    · obtain ⟨p, rfl, hb, g⟩ : ∃ p : Addr, a = some p ∧ p.block < w.heap.size ∧ ∀ i, i < len → w.cell? (p.add i) = some (.int .i64 (xs.getD i 0)) := H1.out.lies.elim (fun e => by omega) id
      obtain ⟨x, hx⟩ : ∃ x, x = xs.getD k 0 := ⟨_, rfl⟩
      have e1 : w.cell? (p.add k) = some (.int .i64 x) := by rw [hx]; exact g k (by omega)
      have HX : Hid (x = xs.getD k 0) := hx
      clear g hx
      by_cases x0 : x < 0
      · go_wp2_with fail
        go_ret2
        exact ⟨m, false, rfl, rfl, fun h => by cases h⟩
      · by_cases x1 : 65536 ≤ x
        · go_wp2_with fail
          go_ret2
          exact ⟨m, false, rfl, rfl, fun h => by cases h⟩
        · obtain ⟨y, rfl⟩ : ∃ y : Nat, x = (y : Int) := ⟨x.toNat, by omega⟩
          by_cases x2 : m ≤ y
          · have HR2 : Hid (∀ i, lo ≤ i → i < k + 1 → 0 ≤ xs.getD i 0 ∧ xs.getD i 0 < ((y + 1 : Nat) : Int)) := fun i a b => by
              by_cases e : i = k
              · subst e; rw [← HX.out]; omega
              · have := HR.out i a (by omega); omega
            go_wp2_with fail
            go_round
            case rel => exact ⟨k + 1, y + 1, by omega, by omega, by omega, by omega, by go_num, by go_num, HR2⟩
            case measure => simp [RowKit.intOf]; omega
          · have HR2 : Hid (∀ i, lo ≤ i → i < k + 1 → 0 ≤ xs.getD i 0 ∧ xs.getD i 0 < (m : Int)) := fun i a b => by
              by_cases e : i = k
              · subst e; rw [← HX.out]; omega
              · exact HR.out i a (by omega)
            go_wp2_with fail
            go_round
            case rel => exact ⟨k + 1, m, by omega, by omega, by omega, by omega, by go_num, by go_num, HR2⟩
            case measure => simp [RowKit.intOf]; omega
    · obtain rfl : k = hi := by omega
      go_wp2_with fail
      go_ret2
      exact ⟨m, true, rfl, rfl, fun _ => ⟨hm1, hm2, HR.out⟩⟩
end Go.Proofs.Qxb6600117a.Kp
