import Derived.Test.Qxb6600117aZz
namespace Go.Proofs.Qxb6600117a.Kp
open Go.ChangeShapes Go.WideShapes Go.RowKit
set_option linter.unusedVariables false

theorem rng_of {xs : List Int} {lo hi N : Nat} (h1 : hi ≤ xs.length) (h : ∀ i, lo ≤ i → i < hi → 0 ≤ xs.getD i 0 ∧ xs.getD i 0 < N) : Rng N (sub xs lo hi) := fun x hx => by
  unfold sub at hx
  obtain ⟨i, hi', rfl⟩ := List.getElem_of_mem hx
  rw [List.getElem_drop, List.getElem_take]
  rw [List.length_drop, List.length_take] at hi'
  have := h (lo + i) (by omega) (by omega)
  rw [List.getD_eq_getElem?_getD, List.getElem?_eq_getElem (by omega)] at this
  exact this
theorem rng_mono {xs : List Int} {N M : Nat} (h : Rng N xs) (hNM : N ≤ M) : Rng M xs := fun x hx => ⟨(h x hx).1, by have := (h x hx).2; omega⟩

/-- The walk's end. -/
def Ends (w : World) (e : Ending) (w' : World) : Prop := e = .returned (.bool true) ∧ Below w.heap.size w w'

set_option maxHeartbeats 8000000 in
set_option maxRecDepth 100000 in
theorem law9 (a0 a1 : Option Addr) (n0 c0 n1 c1 : Nat) (xs ys : List Int) (t2 t3 t4 t5 t6 t7 t8 t9 t10 : Int) (w : World)
    (h0 : Ints w a0 n0 xs) (h1 : Ints w a1 n1 ys) (z0 : a0 = none → n0 = 0 ∧ c0 = 0) (z1 : a1 = none → n1 = 0 ∧ c1 = 0) :
    Calls Try.prog 9 #[.slice a0 n0 c0, .slice a1 n1 c1, .int .i64 t2, .int .i64 t3, .int .i64 t4, .int .i64 t5, .int .i64 t6, .int .i64 t7, .int .i64 t8, .int .i64 t9, .int .i64 t10] w fun e w' => Ends w e w' := by
  have H0 : Hid (Ints w a0 n0 xs) := h0
  have H1 : Hid (Ints w a1 n1 ys) := h1
  have Z0 : Hid (a0 = none → n0 = 0 ∧ c0 = 0) := z0
  have Z1 : Hid (a1 = none → n1 = 0 ∧ c1 = 0) := z1
  clear h0 h1 z0 z1
  go_enter Try.func9, Try.ntmps9
  go_wp2_with fail
  refine (bytes_calls a0 a1 n0 c0 n1 c1 t2 t3 t4 t5 t6 t7 t8 t9 t10 w).mono ?_
  rintro e w' ⟨r, rfl, hw, hbb⟩
  obtain rfl := hw.symm
  clear hw
  cases r with
  | false =>
    go_wp2_with fail
    go_ret
    exact ⟨rfl, Below.refl _ _⟩
  | true =>
    have hb := hbb rfl
    clear hbb
    by_cases l0 : n0 ≤ 65536
    case neg =>
      go_wp2_with fail
      go_ret
      exact ⟨rfl, Below.refl _ _⟩
    by_cases l1 : n1 ≤ 65536
    case neg =>
      go_wp2_with fail
      go_ret
      exact ⟨rfl, Below.refl _ _⟩
    go_wp2_with fail
    refine (range_calls a0 n0 c0 t2 t3 w l0).mono ?_
    rintro e w' ⟨r, rfl, hw, hbb⟩
    obtain rfl := hw.symm
    clear hw
    cases r with
    | false =>
      go_wp2_with fail
      go_ret
      exact ⟨rfl, Below.refl _ _⟩
    | true =>
      obtain ⟨r1, r2, r3⟩ := hbb rfl
      clear hbb
      go_wp2_with fail
      refine (range_calls a1 n1 c1 t4 t5 w l1).mono ?_
      rintro e w' ⟨r, rfl, hw, hbb⟩
      obtain rfl := hw.symm
      clear hw
      cases r with
      | false =>
        go_wp2_with fail
        go_ret
        exact ⟨rfl, Below.refl _ _⟩
      | true =>
        obtain ⟨r4, r5, r6⟩ := hbb rfl
        clear hbb
        by_cases q1 : t6 < t2
        case pos =>
          go_wp2_with fail
          go_ret
          exact ⟨rfl, Below.refl _ _⟩
        by_cases q2 : t7 < t6
        case pos =>
          go_wp2_with fail
          go_ret
          exact ⟨rfl, Below.refl _ _⟩
        by_cases q3 : t3 < t7
        case pos =>
          go_wp2_with fail
          go_ret
          exact ⟨rfl, Below.refl _ _⟩
        by_cases q4 : t8 < t4
        case pos =>
          go_wp2_with fail
          go_ret
          exact ⟨rfl, Below.refl _ _⟩
        by_cases q5 : t9 < t8
        case pos =>
          go_wp2_with fail
          go_ret
          exact ⟨rfl, Below.refl _ _⟩
        by_cases q6 : t5 < t9
        case pos =>
          go_wp2_with fail
          go_ret
          exact ⟨rfl, Below.refl _ _⟩
        obtain ⟨t2, rfl⟩ : ∃ n : Nat, t2 = (n : Int) := ⟨t2.toNat, by omega⟩
        obtain ⟨t3, rfl⟩ : ∃ n : Nat, t3 = (n : Int) := ⟨t3.toNat, by omega⟩
        obtain ⟨t4, rfl⟩ : ∃ n : Nat, t4 = (n : Int) := ⟨t4.toNat, by omega⟩
        obtain ⟨t5, rfl⟩ : ∃ n : Nat, t5 = (n : Int) := ⟨t5.toNat, by omega⟩
        obtain ⟨t6, rfl⟩ : ∃ n : Nat, t6 = (n : Int) := ⟨t6.toNat, by omega⟩
        obtain ⟨t7, rfl⟩ : ∃ n : Nat, t7 = (n : Int) := ⟨t7.toNat, by omega⟩
        obtain ⟨t8, rfl⟩ : ∃ n : Nat, t8 = (n : Int) := ⟨t8.toNat, by omega⟩
        obtain ⟨t9, rfl⟩ : ∃ n : Nat, t9 = (n : Int) := ⟨t9.toNat, by omega⟩
        go_wp2_with fail
        refine (ids_calls a0 n0 c0 xs t2 t3 0 w H0.out l0 (by omega) (by omega) (by omega)).mono ?_
        rintro e w' ⟨N1, ok, rfl, hw, hbb⟩
        obtain rfl := hw.symm
        clear hw
        cases ok with
        | false =>
          go_wp2_with fail
          go_ret
          exact ⟨rfl, Below.refl _ _⟩
        | true =>
          obtain ⟨_, k1, k2⟩ := hbb rfl
          have K2 : Hid (∀ i, t2 ≤ i → i < t3 → 0 ≤ xs.getD i 0 ∧ xs.getD i 0 < N1) := k2
          clear hbb k2
          go_wp2_with fail
          refine (ids_calls a1 n1 c1 ys t4 t5 N1 w H1.out l1 (by omega) (by omega) (by omega)).mono ?_
          rintro e w' ⟨N, ok, rfl, hw, hbb⟩
          obtain rfl := hw.symm
          clear hw
          cases ok with
          | false =>
            go_wp2_with fail
            go_ret
            exact ⟨rfl, Below.refl _ _⟩
          | true =>
            obtain ⟨k3, k4, k5⟩ := hbb rfl
            have K5 : Hid (∀ i, t4 ≤ i → i < t5 → 0 ≤ ys.getD i 0 ∧ ys.getD i 0 < N) := k5
            clear hbb k5
            have hlx := H0.out.len
            have hly := H1.out.len
            have RA : Hid (Rng N (sub xs t2 t3)) := rng_mono (rng_of (by omega) K2.out) k3
            have RB : Hid (Rng N (sub ys t4 t5)) := rng_of (by omega) K5.out
            have RA2 : Hid (Rng N (sub xs t6 t7)) := rng_sub RA.out (by omega) (by omega)
            have RB2 : Hid (Rng N (sub ys t8 t9)) := rng_sub RB.out (by omega) (by omega)
            clear K2 K5
            have hmk := run_make_row' (P := Try.prog) 28 3 (.int .i64 0) 8 Try.underlying28 info3 rfl .i64 .i64 N (by omega) (by omega)
            go_wp2_with fail
            refine (clone_calls a0 n0 c0 xs w H0.out Z0.out l0).mono ?_
            rintro e w1 ⟨a0', rfl, i0, b0, d0⟩
            have I0 : Hid (Ints w1 a0' n0 xs) := i0
            have B0 : Hid (Below w.heap.size w w1) := b0
            have D0' : Hid (∀ p, a0' = some p → p.block < w1.heap.size) := d0
            clear i0 b0 d0
            go_wp2_with fail
            refine (clone_calls a1 n1 c1 ys w1 (H1.out.below B0.out) Z1.out l1).mono ?_
            rintro e w2 ⟨a1', rfl, i1, b1, d1⟩
            have I1 : Hid (Ints w2 a1' n1 ys) := i1
            have B1 : Hid (Below w1.heap.size w1 w2) := b1
            have D1' : Hid (∀ p, a1' = some p → p.block < w2.heap.size) := d1
            clear i1 b1 d1
            go_wp2_with fail
            clear hmk
            have hg : w2.heap.size < (w2.alloc (.cells (madeCells #[.int .i64 0] N) 3)).heap.size := by
              show w2.heap.size < (w2.heap.push _).size
              rw [Array.size_push]; omega
            have I0' : Hid (Ints (w2.alloc (.cells (madeCells #[.int .i64 0] N) 3)) a0' n0 xs) := (I0.out.below B1.out).below ((Below.refl _ _).alloc (Nat.le_refl _) _)
            have I1' : Hid (Ints (w2.alloc (.cells (madeCells #[.int .i64 0] N) 3)) a1' n1 ys) := I1.out.below ((Below.refl _ _).alloc (Nat.le_refl _) _)
            have R0 : Hid ((w2.alloc (.cells (madeCells #[.int .i64 0] N) 3)).rowIs w2.heap.size 3 N (row fun _ => 0)) := World.rowIs_made w2 (.int .i64 0) N 3
            have hs1 := B0.out.size
            have hs2 := B1.out.size
            have BB : Hid (Below w.heap.size w (w2.alloc (.cells (madeCells #[.int .i64 0] N) 3))) := (B0.out.trans (B1.out.mono hs1)).alloc (by omega) _
            have D0 : Hid (∀ p, a0' = some p → p.block ≠ w2.heap.size) := fun p e => by have := D0'.out p e; omega
            have D1 : Hid (∀ p, a1' = some p → p.block ≠ w2.heap.size) := fun p e => by have := D1'.out p e; omega
            have hs3 : w.heap.size ≤ w2.heap.size := by omega
            clear I0 I1 B0 B1 hs1 hs2 D0' D1'
            generalize w2.heap.size = g at *
            generalize w2.alloc (.cells (madeCells #[.int .i64 0] N) 3) = w3 at *
            refine (zz_calls g N a0' a1' n0 n1 xs ys t2 t3 t4 t5 t10 w3 k4 l0 l1 I0'.out I1'.out D0.out D1.out R0.out (by omega) (by omega) (by omega) (by omega) RA.out RB.out).mono ?_
            rintro e w4 ⟨rfl, R4, G4⟩
            have I04 : Hid (Ints w4 a0' n0 xs) := I0'.out.grown G4.out D0.out
            have I14 : Hid (Ints w4 a1' n1 ys) := I1'.out.grown G4.out D1.out
            have BB4 : Hid (Below w.heap.size w w4) := BB.out.grown G4.out BB.out.size (fun k e => by cases e; exact hs3)
            clear I0' I1' BB R0 G4
            go_wp2_with fail
            refine (zz_calls g N a0' a1' n0 n1 xs ys t6 t7 t8 t9 t10 w4 k4 l0 l1 I04.out I14.out D0.out D1.out R4.out (by omega) (by omega) (by omega) (by omega) RA2.out RB2.out).mono ?_
            rintro e w5 ⟨rfl, R5, G5⟩
            have BB5 : Hid (Below w.heap.size w w5) := BB4.out.grown G5.out BB4.out.size (fun k e => by cases e; exact hs3)
            have hlaw := law N t10 (sub xs t2 t3) (sub ys t4 t5) (sub xs t6 t7) (sub ys t8 t9) RA.out RB.out RA2.out RB2.out (cnt_sub xs t2 t3 t6 t7 (by omega) (by omega) (by omega)) (cnt_sub ys t4 t5 t8 t9 (by omega) (by omega) (by omega))
            rw [sub_length xs t2 t3 (by omega), sub_length ys t4 t5 (by omega)] at hlaw
            clear RA RB RA2 RB2 I04 I14 BB4 R4 R5 G5 D0 D1
            generalize keepF t10 (sub xs t2 t3) (sub ys t4 t5) = ro at hlaw ⊢
            generalize keepF t10 (sub xs t6 t7) (sub ys t8 t9) = ri at hlaw ⊢
            obtain ⟨f1, f2, f3, f4⟩ := hlaw
            have f5 : ro ≤ (t3 : Int) - (t2 : Int) := by omega
            have f6 : ro ≤ (t5 : Int) - (t4 : Int) := by omega
            clear f3 f4
            by_cases hle : (t5 : Int) - (t4 : Int) < (t3 : Int) - (t2 : Int)
            · go_wp2_with fail
              go_ret
              exact ⟨rfl, BB5.out⟩
            · go_wp2_with fail
              go_ret
              exact ⟨rfl, BB5.out⟩
end Go.Proofs.Qxb6600117a.Kp
