import Derived.Test.Qxb6000751aProg
import Derived.Test.Qxb6000751aPlain
import Derived.WalkKit
import Derived.WalkSpells
import Derived.WalkLawsBesides
import Derived.Outline
import Derived.Deep.DeepFit
import Derived.BigQuiet
import Derived.Deep.QuietTactic
namespace Go.Proofs.Qxb6000751a.Por
open Go.ChangeShapes Go.WideShapes Go.RowKit
set_option linter.unusedVariables false

theorem retb {a b : Bool} (h : a = b) : Ending.returned (.bool a) = .returned (.bool b) := by rw [h]
theorem reti {k : IntKind} {a b : Int} (h : a = b) : Ending.returned (.int k a) = .returned (.int k b) := by rw [h]

/-- The stemmer at block S holds the word bs. -/
structure Stem (w : World) (S b o n c : Nat) (bs : List Int) : Prop where
  cell : w.cell? ⟨S, 0, none⟩ = some (.slice (some ⟨b, o, none⟩) n c)
  len : n = bs.length
  small : n ≤ 1048576
  at' : ∀ i, i < n → w.cell? ⟨b, o + i, none⟩ = some (.int .u8 (bs.getD i 0))

theorem vowel_cases (x : Int) (h : vowel x = true) : x = 97 ∨ x = 101 ∨ x = 105 ∨ x = 111 ∨ x = 117 := by
  simpa [vowel] using h
theorem not_vowel (x : Int) (h : vowel x = false) : (x == 97) = false ∧ (x == 101) = false ∧ (x == 105) = false ∧ (x == 111) = false ∧ (x == 117) = false := by
  simpa [vowel] using h

set_option maxHeartbeats 400000 in
theorem cons_vowel (S b o n c i : Nat) (x : Int) (w : World) (hc : w.cell? ⟨S, 0, none⟩ = some (.slice (some ⟨b, o, none⟩) n c)) (hn : n ≤ 1048576) (hi : i < n)
    (hx : w.cell? ⟨b, o + i, none⟩ = some (.int .u8 x)) (hv : vowel x = true) :
    Calls Try.prog 36 #[.pointer (some ⟨S, 0, none⟩), .int .i64 i] w fun e w' => e = .returned (.bool false) ∧ w' = w := by
  rcases vowel_cases x hv with rfl | rfl | rfl | rfl | rfl <;> clear hv
  all_goals
    go_enter Try.func36, Try.ntmps36
    go_wp2_with fail
    go_ret
    exact ⟨rfl, rfl⟩

set_option maxHeartbeats 400000 in
theorem cons_plain (S b o n c i : Nat) (x : Int) (w : World) (hc : w.cell? ⟨S, 0, none⟩ = some (.slice (some ⟨b, o, none⟩) n c)) (hn : n ≤ 1048576) (hi : i < n)
    (hx : w.cell? ⟨b, o + i, none⟩ = some (.int .u8 x)) (hv : vowel x = false) (hy : (x == 121) = false) :
    Calls Try.prog 36 #[.pointer (some ⟨S, 0, none⟩), .int .i64 i] w fun e w' => e = .returned (.bool true) ∧ w' = w := by
  obtain ⟨h1, h2, h3, h4, h5⟩ := not_vowel x hv
  clear hv
  go_enter Try.func36, Try.ntmps36
  go_wp2_with fail
  go_ret
  exact ⟨rfl, rfl⟩

set_option maxHeartbeats 400000 in
theorem cons_first (S b o n c i : Nat) (w : World) (hc : w.cell? ⟨S, 0, none⟩ = some (.slice (some ⟨b, o, none⟩) n c)) (hn : n ≤ 1048576) (hi : i < n)
    (hx : w.cell? ⟨b, o + i, none⟩ = some (.int .u8 121)) (h0 : ((i : Int) == 0) = true) :
    Calls Try.prog 36 #[.pointer (some ⟨S, 0, none⟩), .int .i64 i] w fun e w' => e = .returned (.bool true) ∧ w' = w := by
  go_enter Try.func36, Try.ntmps36
  go_wp2_with fail
  go_ret
  exact ⟨rfl, rfl⟩

set_option maxHeartbeats 400000 in
theorem cons_next (S b o n c i : Nat) (r : Bool) (w : World) (hc : w.cell? ⟨S, 0, none⟩ = some (.slice (some ⟨b, o, none⟩) n c)) (hn : n ≤ 1048576) (hi : i < n)
    (hx : w.cell? ⟨b, o + i, none⟩ = some (.int .u8 121)) (h0 : ((i : Int) == 0) = false)
    (ih : Calls Try.prog 36 #[.pointer (some ⟨S, 0, none⟩), .int .i64 ((i : Int) - 1)] w fun e w' => e = .returned (.bool r) ∧ w' = w) :
    Calls Try.prog 36 #[.pointer (some ⟨S, 0, none⟩), .int .i64 i] w fun e w' => e = .returned (.bool (!r)) ∧ w' = w := by
  have h1 : 0 < (i : Int) := by have := beq_eq_false_iff_ne.1 h0; omega
  have IH : Hid (Calls Try.prog 36 #[.pointer (some ⟨S, 0, none⟩), .int .i64 ((i : Int) - 1)] w fun e w' => e = .returned (.bool r) ∧ w' = w) := ih
  clear ih
  go_enter Try.func36, Try.ntmps36
  go_wp2_with fail
  refine IH.out.mono ?_
  rintro e w' ⟨rfl, rfl⟩
  go_wp2_with fail
  go_ret
  exact ⟨rfl, rfl⟩

theorem cons_calls (S b o n c : Nat) (bs : List Int) (w : World) (h : Stem w S b o n c bs) : ∀ (i : Nat), i < n →
    Calls Try.prog 36 #[.pointer (some ⟨S, 0, none⟩), .int .i64 i] w fun e w' => e = .returned (.bool (cons bs i)) ∧ w' = w := by
  intro i
  induction i with
  | zero =>
    intro hi
    have hx := h.at' 0 hi
    cases hv : vowel (bs.getD 0 0) with
    | true =>
      have e : cons bs 0 = false := by rw [cons, hv]; rfl
      rw [e]
      exact cons_vowel S b o n c 0 _ w h.cell h.small hi hx hv
    | false =>
      have e : cons bs 0 = true := by rw [cons, hv]; rfl
      rw [e]
      cases hy : (bs.getD 0 0 == 121) with
      | true =>
        have hy' := beq_iff_eq.1 hy
        rw [hy'] at hx
        exact cons_first S b o n c 0 w h.cell h.small hi hx rfl
      | false => exact cons_plain S b o n c 0 _ w h.cell h.small hi hx hv hy
  | succ i ih =>
    intro hi
    have hx := h.at' (i + 1) hi
    cases hv : vowel (bs.getD (i + 1) 0) with
    | true =>
      have e : cons bs (i + 1) = false := by rw [cons, hv]; rfl
      rw [e]
      exact cons_vowel S b o n c (i + 1) _ w h.cell h.small hi hx hv
    | false =>
      cases hy : (bs.getD (i + 1) 0 == 121) with
      | true =>
        have e : cons bs (i + 1) = !cons bs i := by rw [cons, hv, hy]; rfl
        rw [e]
        have hy' := beq_iff_eq.1 hy
        rw [hy'] at hx
        refine cons_next S b o n c (i + 1) _ w h.cell h.small hi hx (beq_eq_false_iff_ne.2 (by omega)) ?_
        have := ih (by omega)
        rwa [show ((i + 1 : Nat) : Int) - 1 = (i : Int) by omega]
      | false =>
        have e : cons bs (i + 1) = true := by rw [cons, hv, hy]; rfl
        rw [e]
        exact cons_plain S b o n c (i + 1) _ w h.cell h.small hi hx hv hy

theorem or_left {p q r : Prop} (h : p ∨ q) : p ∨ q ∨ r := by
  rcases h with h | h
  · exact Or.inl h
  · exact Or.inr (Or.inl h)

set_option maxHeartbeats 1000000 in
theorem meas_calls (S b o n c : Nat) (bs : List Int) (w : World) (h : Stem w S b o n c bs) (k : Nat) (hk : k ≤ n) :
    Calls Try.prog 33 #[.pointer (some ⟨S, 0, none⟩), .int .i64 k] w fun e w' => e = .returned (.int .i64 (turns bs k)) ∧ w' = w := by
  have hn := h.small
  have HS : Hid (Stem w S b o n c bs) := h
  clear h
  go_enter Try.func33, Try.ntmps33
  go_wp2_with fail
  go_loop [6] (fun i => ∃ j : Nat, j ≤ k ∧ i = .int .i64 j ∧ Hid (turns bs j = 0) ∧ Hid (j = 0 ∨ cons bs (j - 1) = true)) (fun i => k - (RowKit.intOf i).toNat)
  case atStart => exact ⟨0, by omega, rfl, rfl, Or.inl rfl⟩
  case round =>
    obtain ⟨j, hj, rfl, ht, hp⟩ := hrel
    by_cases hgo : j < k ∧ cons bs j = true
    · obtain ⟨hlt, hcj⟩ := hgo
      have C := cons_calls S b o n c bs _ HS.out j (by omega)
      rw [hcj] at C
      have HC : Hid (cons bs j = true) := hcj
      clear hcj
      go_wp2_with fail
      refine C.mono ?_
      rintro e w' ⟨rfl, rfl⟩
      go_wp2_with fail
      go_round
      case rel => exact ⟨j + 1, by omega, by go_num, (turns_same bs j (or_left hp.out)).trans ht.out, Or.inr HC.out⟩
      case measure => simp [RowKit.intOf]; omega
    · have HX : Hid (j < k → cons bs j = false) := fun h => by
        cases e : cons bs j with
        | true => exact absurd ⟨h, e⟩ hgo
        | false => rfl
      clear hgo
      by_cases hlt : j < k
      case' pos =>
        have C := cons_calls S b o n c bs _ HS.out j (by omega)
        rw [HX.out hlt] at C
        go_wp2_with fail
        refine C.mono ?_
        rintro e w' ⟨rfl, rfl⟩
        clear C
        go_wp2_with fail
      case' neg =>
        go_wp2_with fail
      all_goals
        go_loop [5, 6] (fun m i => ∃ j T : Nat, j ≤ k ∧ 2 * T ≤ j ∧ i = .int .i64 j ∧ m = .int .i64 T ∧ Hid (T = turns bs j) ∧ Hid (j < k → cons bs j = false)) (fun _ i => k - (RowKit.intOf i).toNat)
        case atStart => exact ⟨j, 0, hj, by omega, rfl, rfl, ht.out.symm, HX⟩
        case round =>
          clear ht hp HX hlt
          obtain ⟨j0, T, hj0, hT, rfl, rfl, hTt, hX0⟩ := hrel
          by_cases hl0 : j0 < k
          · go_wp2_with fail
            go_loop [6] (fun i => ∃ j1 : Nat, j0 ≤ j1 ∧ j1 ≤ k ∧ i = .int .i64 j1 ∧ Hid (turns bs j1 = T) ∧ Hid (j0 < j1 → cons bs (j1 - 1) = false)) (fun i => k - (RowKit.intOf i).toNat)
            case atStart => exact ⟨j0, by omega, by omega, rfl, hTt.out.symm, fun h => absurd h (by omega)⟩
            case round =>
              obtain ⟨j1, hj1, hj2, rfl, ht1, hp1⟩ := hrel
              by_cases hl1 : j1 < k
              · have C := cons_calls S b o n c bs _ HS.out j1 (by omega)
                cases hcj : cons bs j1 with
                | false =>
                  rw [hcj] at C
                  have HC : Hid (cons bs j1 = false) := hcj
                  clear hcj
                  go_wp2_with fail
                  refine C.mono ?_
                  rintro e w' ⟨rfl, rfl⟩
                  go_wp2_with fail
                  go_round
                  case rel => exact ⟨j1 + 1, by omega, by omega, by go_num, (turns_same bs j1 (Or.inr (Or.inr HC.out))).trans ht1.out, fun _ => HC.out⟩
                  case measure => simp [RowKit.intOf]; omega
                | true =>
                  rw [hcj] at C
                  have HC : Hid (cons bs j1 = true) := hcj
                  have hlt1 : j0 < j1 := by
                    rcases Nat.lt_or_ge j0 j1 with h | h
                    · exact h
                    · have e : j1 = j0 := by omega
                      rw [e, hX0.out hl0] at hcj
                      cases hcj
                  clear hcj
                  have hne : ((j1 : Int) == (k : Int)) = false := beq_eq_false_iff_ne.2 (by omega)
                  go_wp2_with fail
                  refine C.mono ?_
                  rintro e w' ⟨rfl, rfl⟩
                  clear C
                  go_wp2_with fail
                  go_loop [6] (fun i => ∃ j2 : Nat, j1 ≤ j2 ∧ j2 ≤ k ∧ i = .int .i64 j2 ∧ Hid (j2 = j1 ∨ (turns bs j2 = T + 1 ∧ cons bs (j2 - 1) = true))) (fun i => k - (RowKit.intOf i).toNat)
                  case atStart => exact ⟨j1, by omega, by omega, rfl, Or.inl rfl⟩
                  case round =>
                    obtain ⟨j2, hj3, hj4, rfl, ht2⟩ := hrel
                    by_cases hl2 : j2 < k
                    · have C := cons_calls S b o n c bs _ HS.out j2 (by omega)
                      cases hcj : cons bs j2 with
                      | true =>
                        rw [hcj] at C
                        have HC2 : Hid (cons bs j2 = true) := hcj
                        clear hcj
                        have HT2 : Hid (turns bs (j2 + 1) = T + 1) := by
                          rcases ht2.out with e | ⟨e, e'⟩
                          · rw [e]
                            exact (turns_step bs j1 (by omega) (hp1.out hlt1) HC.out).trans (by rw [ht1.out])
                          · exact (turns_same bs j2 (Or.inr (Or.inl e'))).trans e
                        go_wp2_with fail
                        refine C.mono ?_
                        rintro e w' ⟨rfl, rfl⟩
                        go_wp2_with fail
                        go_round
                        case rel => exact ⟨j2 + 1, by omega, by omega, by go_num, Or.inr ⟨HT2.out, HC2.out⟩⟩
                        case measure => simp [RowKit.intOf]; omega
                      | false =>
                        rw [hcj] at C
                        have HC2 : Hid (cons bs j2 = false) := hcj
                        have HT2 : Hid (turns bs j2 = T + 1) := by
                          rcases ht2.out with e | ⟨e, e'⟩
                          · rw [e, HC.out] at hcj; cases hcj
                          · exact e
                        clear hcj
                        have hh := turns_half bs j2
                        rw [HT2.out] at hh
                        have hlt2 : j1 < j2 := by
                          rcases Nat.lt_or_ge j1 j2 with h | h
                          · exact h
                          · have e : j2 = j1 := by omega
                            have := HC2.out
                            rw [e, HC.out] at this; cases this
                        go_wp2_with fail
                        refine C.mono ?_
                        rintro e w' ⟨rfl, rfl⟩
                        clear C
                        go_wp2_with fail
                        go_round
                        case rel => exact ⟨j2, T + 1, by omega, by omega, rfl, by go_num, HT2.out.symm, fun _ => HC2.out⟩
                        case measure => simp [RowKit.intOf]; omega
                    · have HT2 : Hid (turns bs j2 = T + 1) := by
                        rcases ht2.out with e | ⟨e, e'⟩
                        · omega
                        · exact e
                      have hh := turns_half bs j2
                      rw [HT2.out] at hh
                      go_wp2_with fail
                      go_round
                      case rel => exact ⟨j2, T + 1, by omega, by omega, rfl, by go_num, HT2.out.symm, fun h => absurd h (by omega)⟩
                      case measure => simp [RowKit.intOf]; omega
              · have hk1 : j1 = k := by omega
                have HT1 : Hid (turns bs k = T) := by rw [← hk1]; exact ht1.out
                have hne : ((j1 : Int) == (k : Int)) = true := beq_iff_eq.2 (by omega)
                clear hk1
                go_wp2_with fail
                go_ret
                exact ⟨reti (by rw [HT1.out]), rfl⟩
          · have hk0 : j0 = k := by omega
            have HT0 : Hid (T = turns bs k) := by rw [← hk0]; exact hTt.out
            clear hk0
            go_wp2_with fail
            go_ret
            exact ⟨reti (by rw [HT0.out]), rfl⟩
end Go.Proofs.Qxb6000751a.Por
