import Derived.Test.Qxb6613140aStr
import Derived.BigQuiet
import Derived.Deep.QuietTactic
namespace Go.Proofs.Qxb6613140a.Spi
open Go.ChangeShapes Go.WideShapes Go.RowKit Go.Lib

theorem bcell {W w1 : World} (hb : Below W.heap.size W w1) : (∀ b o, b < W.heap.size → w1.cell? ⟨b, o, none⟩ = W.cell? ⟨b, o, none⟩) ∧ (∀ b o, b < W.heap.size → w1.frozen? ⟨b, o, none⟩ = W.frozen? ⟨b, o, none⟩) :=
  ⟨fun b o h => hb.cell (p := ⟨b, o, none⟩) h, fun b o h => hb.frozen (p := ⟨b, o, none⟩) h⟩

theorem below_drewN {B : Nat} {a w : World} (h : Below B a w) (n : Nat) : Below B a (w.drewN n) := ⟨h.os, h.tape, h.output, h.size, h.block⟩

theorem dig_hi (x : Int) (h0 : 0 ≤ x) (h1 : x < 256) (h : (x / 16).toNat < 16) : Hx.digit ((UInt8.ofNat x.toNat).toNat / 16) = (⟨#[48, 49, 50, 51, 52, 53, 54, 55, 56, 57, 97, 98, 99, 100, 101, 102]⟩ : ByteArray)[(x / 16).toNat]'h := by
  have e := Hx.dig_hi x h0 h1 h
  apply UInt8.toNat_inj.1
  exact (Int.ofNat.inj e).symm
theorem dig_lo (x : Int) (h0 : 0 ≤ x) (h1 : x < 256) (h : (x % 16).toNat < 16) : Hx.digit ((UInt8.ofNat x.toNat).toNat % 16) = (⟨#[48, 49, 50, 51, 52, 53, 54, 55, 56, 57, 97, 98, 99, 100, 101, 102]⟩ : ByteArray)[(x % 16).toNat]'h := by
  have e := Hx.dig_lo x h0 h1 h
  apply UInt8.toNat_inj.1
  exact (Int.ofNat.inj e).symm

set_option maxHeartbeats 400000 in
theorem one_out (x0 x1 x2 x3 x4 x5 x6 x7 i v : Int) (w : World) (hi : i < 0 ∨ 7 < i) :
    Calls Try.prog 8 #[.agg #[.int .u8 x0, .int .u8 x1, .int .u8 x2, .int .u8 x3, .int .u8 x4, .int .u8 x5, .int .u8 x6, .int .u8 x7], .int .i64 i, .int .u8 v] w fun e w' => e = .returned (.bool true) ∧ Below w.heap.size w w' := by
  rcases hi with hi | hi
  · go_enter Try.func8, Try.ntmps8
    go_wp2_with fail
    go_ret
    exact ⟨rfl, (Below.refl _ _).alloc (Nat.le_refl _) _⟩
  · have h' : ¬ i < 0 := by omega
    go_enter Try.func8, Try.ntmps8
    go_wp2_with fail
    go_ret
    exact ⟨rfl, (Below.refl _ _).alloc (Nat.le_refl _) _⟩

theorem lt16 {k : Nat} (h : k < 16) : k = 0 ∨ k = 1 ∨ k = 2 ∨ k = 3 ∨ k = 4 ∨ k = 5 ∨ k = 6 ∨ k = 7 ∨ k = 8 ∨ k = 9 ∨ k = 10 ∨ k = 11 ∨ k = 12 ∨ k = 13 ∨ k = 14 ∨ k = 15 := by omega

theorem same_0 (x0 x1 x2 x3 x4 x5 x6 x7 v : Int) (k : Nat) (h : k < (hex x0 x1 x2 x3 x4 x5 x6 x7).size) (h' : k < (hex v x1 x2 x3 x4 x5 x6 x7).size) (ha : k ≠ 0) (hb : k ≠ 1) : (hex x0 x1 x2 x3 x4 x5 x6 x7)[k] = (hex v x1 x2 x3 x4 x5 x6 x7)[k] := by
  have hk : k < 16 := h
  rcases lt16 hk with rfl | rfl | rfl | rfl | rfl | rfl | rfl | rfl | rfl | rfl | rfl | rfl | rfl | rfl | rfl | rfl
  all_goals first | exact absurd rfl ha | exact absurd rfl hb | rfl

set_option maxHeartbeats 1000000 in
theorem one_0 (x0 x1 x2 x3 x4 x5 x6 x7 v : Int) (w : World) (h0 : isB x0) (h1 : isB x1) (h2 : isB x2) (h3 : isB x3) (h4 : isB x4) (h5 : isB x5) (h6 : isB x6) (h7 : isB x7) (hv : isB v) :
    Calls Try.prog 8 #[.agg #[.int .u8 x0, .int .u8 x1, .int .u8 x2, .int .u8 x3, .int .u8 x4, .int .u8 x5, .int .u8 x6, .int .u8 x7], .int .i64 0, .int .u8 v] w fun e w' => e = .returned (.bool true) ∧ Below w.heap.size w w' := by
  go_enter Try.func8, Try.ntmps8
  go_wp2_with fail
  refine (str_calls _ _ _ _ _ _ _ _ _ h0 h1 h2 h3 h4 h5 h6 h7).mono ?_
  rintro e w1 ⟨rfl, hb1⟩
  obtain ⟨hc1, hf1⟩ := bcell hb1
  generalize hA : hex x0 x1 x2 x3 x4 x5 x6 x7 = A
  have HA : Hid _ := hA
  clear hA
  go_wp2_with fail
  refine (str_calls _ _ _ _ _ _ _ _ _ hv h1 h2 h3 h4 h5 h6 h7).mono ?_
  rintro e w2 ⟨rfl, hb2⟩
  obtain ⟨hc2, hf2⟩ := bcell hb2
  generalize hC : hex v x1 x2 x3 x4 x5 x6 x7 = C
  have HC : Hid _ := hC
  clear hC
  have hz1 : w.heap.size + 1 < w1.heap.size := by have := hb1.size; simp at this; omega
  have hcell : w2.cell? ⟨w.heap.size, 0, none⟩ = some (.int .u8 x0) := by rw [hc2 _ _ (by omega), hc1 _ _ (by simp; omega)]; simp
  clear hc1 hf1 hc2 hf2
  have sA : A.size = 16 := by rw [← HA.out]; rfl
  have sC : C.size = 16 := by rw [← HC.out]; rfl
  have HAC : Hid (∀ k : Nat, (h : k < A.size) → (h' : k < C.size) → k ≠ 0 → k ≠ 1 → A[k] = C[k]) := by
    have e1 := HA.out
    have e2 := HC.out
    subst e1 e2
    exact same_0 x0 x1 x2 x3 x4 x5 x6 x7 v
  obtain ⟨hv0, hv1⟩ := hv
  obtain ⟨hx0, hx1⟩ := h0
  have q1 : 0 ≤ v / 16 := by omega
  have q2 : v / 16 < 16 := by omega
  have q3 : 0 ≤ v % 16 := by omega
  have q4 : v % 16 < 16 := by omega
  have q5 : 0 ≤ x0 / 16 := by omega
  have q6 : x0 / 16 < 16 := by omega
  have q7 : 0 ≤ x0 % 16 := by omega
  have q8 : x0 % 16 < 16 := by omega
  have D1 : Hid ((((C[0]'(by omega)).toNat : Int) == (((⟨#[48, 49, 50, 51, 52, 53, 54, 55, 56, 57, 97, 98, 99, 100, 101, 102]⟩ : ByteArray)[(v / 16).toNat]'(by show _ < 16; omega)).toNat : Int)) = true) := by
    apply beq_iff_eq.2
    apply congrArg (fun c : UInt8 => (c.toNat : Int))
    have e2 := HC.out
    subst e2
    exact dig_hi v hv0 hv1 (by omega)
  have D2 : Hid ((((C[1]'(by omega)).toNat : Int) == (((⟨#[48, 49, 50, 51, 52, 53, 54, 55, 56, 57, 97, 98, 99, 100, 101, 102]⟩ : ByteArray)[(v % 16).toNat]'(by show _ < 16; omega)).toNat : Int)) = true) := by
    apply beq_iff_eq.2
    apply congrArg (fun c : UInt8 => (c.toNat : Int))
    have e2 := HC.out
    subst e2
    exact dig_lo v hv0 hv1 (by omega)
  have D3 : Hid ((((A[0]'(by omega)).toNat : Int) == (((⟨#[48, 49, 50, 51, 52, 53, 54, 55, 56, 57, 97, 98, 99, 100, 101, 102]⟩ : ByteArray)[(x0 / 16).toNat]'(by show _ < 16; omega)).toNat : Int)) = true) := by
    apply beq_iff_eq.2
    apply congrArg (fun c : UInt8 => (c.toNat : Int))
    have e2 := HA.out
    subst e2
    exact dig_hi x0 hx0 hx1 (by omega)
  have D4 : Hid ((((A[1]'(by omega)).toNat : Int) == (((⟨#[48, 49, 50, 51, 52, 53, 54, 55, 56, 57, 97, 98, 99, 100, 101, 102]⟩ : ByteArray)[(x0 % 16).toNat]'(by show _ < 16; omega)).toNat : Int)) = true) := by
    apply beq_iff_eq.2
    apply congrArg (fun c : UInt8 => (c.toNat : Int))
    have e2 := HA.out
    subst e2
    exact dig_lo x0 hx0 hx1 (by omega)
  go_wp2_with fail
  go_loopw [10] (fun j wr => ∃ k m : Nat, k ≤ 16 ∧ j = .int .i64 k ∧ wr = w2.drewN m) (fun j _ => 16 - (RowKit.intOf j).toNat)
  case atStart => exact ⟨0, 0, by omega, rfl, rfl⟩
  case round =>
    obtain ⟨k, m, hk, rfl, rfl⟩ := hrel
    by_cases hlt : k < 16
    · by_cases h6 : k = 0
      · subst h6
        go_wp2
        go_roundw
        case rel => exact ⟨1, m, by omega, rfl, rfl⟩
        case measure => simp [RowKit.intOf]
      · by_cases h7 : k = 1
        · subst h7
          go_wp2
          go_roundw
          case rel => exact ⟨2, m, by omega, rfl, rfl⟩
          case measure => simp [RowKit.intOf]
        · have e6 : ((k : Int) == 0) = false := beq_eq_false_iff_ne.2 (by omega)
          have e7 : ((k : Int) == 1) = false := beq_eq_false_iff_ne.2 (by omega)
          have hAC := HAC.out k (by omega) (by omega) h6 h7
          go_wp2
          go_quiet (fail)
          go_wp2
          go_roundw
          case rel => exact ⟨k + 1, m + nq, by omega, by go_num, rfl⟩
          case measure => simp [RowKit.intOf]; omega
    · have hk16 : k = 16 := by omega
      subst hk16
      have d1 := D1.out
      have d2 := D2.out
      have d3 := D3.out
      have d4 := D4.out
      clear D1 D2 D3 D4 HAC
      go_wp2
      go_quiet (fail)
      go_wp2
      go_ret
      exact ⟨rfl, below_drewN (below_drewN (((((Below.refl _ _).alloc (Nat.le_refl _) _).alloc (by simp) _).trans (hb1.mono (by simp; omega))).trans (hb2.mono (by have := hb1.size; simp at this; omega))) _) _⟩

theorem same_1 (x0 x1 x2 x3 x4 x5 x6 x7 v : Int) (k : Nat) (h : k < (hex x0 x1 x2 x3 x4 x5 x6 x7).size) (h' : k < (hex x0 v x2 x3 x4 x5 x6 x7).size) (ha : k ≠ 2) (hb : k ≠ 3) : (hex x0 x1 x2 x3 x4 x5 x6 x7)[k] = (hex x0 v x2 x3 x4 x5 x6 x7)[k] := by
  have hk : k < 16 := h
  rcases lt16 hk with rfl | rfl | rfl | rfl | rfl | rfl | rfl | rfl | rfl | rfl | rfl | rfl | rfl | rfl | rfl | rfl
  all_goals first | exact absurd rfl ha | exact absurd rfl hb | rfl

set_option maxHeartbeats 1000000 in
theorem one_1 (x0 x1 x2 x3 x4 x5 x6 x7 v : Int) (w : World) (h0 : isB x0) (h1 : isB x1) (h2 : isB x2) (h3 : isB x3) (h4 : isB x4) (h5 : isB x5) (h6 : isB x6) (h7 : isB x7) (hv : isB v) :
    Calls Try.prog 8 #[.agg #[.int .u8 x0, .int .u8 x1, .int .u8 x2, .int .u8 x3, .int .u8 x4, .int .u8 x5, .int .u8 x6, .int .u8 x7], .int .i64 1, .int .u8 v] w fun e w' => e = .returned (.bool true) ∧ Below w.heap.size w w' := by
  go_enter Try.func8, Try.ntmps8
  go_wp2_with fail
  refine (str_calls _ _ _ _ _ _ _ _ _ h0 h1 h2 h3 h4 h5 h6 h7).mono ?_
  rintro e w1 ⟨rfl, hb1⟩
  obtain ⟨hc1, hf1⟩ := bcell hb1
  generalize hA : hex x0 x1 x2 x3 x4 x5 x6 x7 = A
  have HA : Hid _ := hA
  clear hA
  go_wp2_with fail
  refine (str_calls _ _ _ _ _ _ _ _ _ h0 hv h2 h3 h4 h5 h6 h7).mono ?_
  rintro e w2 ⟨rfl, hb2⟩
  obtain ⟨hc2, hf2⟩ := bcell hb2
  generalize hC : hex x0 v x2 x3 x4 x5 x6 x7 = C
  have HC : Hid _ := hC
  clear hC
  have hz1 : w.heap.size + 1 < w1.heap.size := by have := hb1.size; simp at this; omega
  have hcell : w2.cell? ⟨w.heap.size, 1, none⟩ = some (.int .u8 x1) := by rw [hc2 _ _ (by omega), hc1 _ _ (by simp; omega)]; simp
  clear hc1 hf1 hc2 hf2
  have sA : A.size = 16 := by rw [← HA.out]; rfl
  have sC : C.size = 16 := by rw [← HC.out]; rfl
  have HAC : Hid (∀ k : Nat, (h : k < A.size) → (h' : k < C.size) → k ≠ 2 → k ≠ 3 → A[k] = C[k]) := by
    have e1 := HA.out
    have e2 := HC.out
    subst e1 e2
    exact same_1 x0 x1 x2 x3 x4 x5 x6 x7 v
  obtain ⟨hv0, hv1⟩ := hv
  obtain ⟨hx0, hx1⟩ := h1
  have q1 : 0 ≤ v / 16 := by omega
  have q2 : v / 16 < 16 := by omega
  have q3 : 0 ≤ v % 16 := by omega
  have q4 : v % 16 < 16 := by omega
  have q5 : 0 ≤ x1 / 16 := by omega
  have q6 : x1 / 16 < 16 := by omega
  have q7 : 0 ≤ x1 % 16 := by omega
  have q8 : x1 % 16 < 16 := by omega
  have D1 : Hid ((((C[2]'(by omega)).toNat : Int) == (((⟨#[48, 49, 50, 51, 52, 53, 54, 55, 56, 57, 97, 98, 99, 100, 101, 102]⟩ : ByteArray)[(v / 16).toNat]'(by show _ < 16; omega)).toNat : Int)) = true) := by
    apply beq_iff_eq.2
    apply congrArg (fun c : UInt8 => (c.toNat : Int))
    have e2 := HC.out
    subst e2
    exact dig_hi v hv0 hv1 (by omega)
  have D2 : Hid ((((C[3]'(by omega)).toNat : Int) == (((⟨#[48, 49, 50, 51, 52, 53, 54, 55, 56, 57, 97, 98, 99, 100, 101, 102]⟩ : ByteArray)[(v % 16).toNat]'(by show _ < 16; omega)).toNat : Int)) = true) := by
    apply beq_iff_eq.2
    apply congrArg (fun c : UInt8 => (c.toNat : Int))
    have e2 := HC.out
    subst e2
    exact dig_lo v hv0 hv1 (by omega)
  have D3 : Hid ((((A[2]'(by omega)).toNat : Int) == (((⟨#[48, 49, 50, 51, 52, 53, 54, 55, 56, 57, 97, 98, 99, 100, 101, 102]⟩ : ByteArray)[(x1 / 16).toNat]'(by show _ < 16; omega)).toNat : Int)) = true) := by
    apply beq_iff_eq.2
    apply congrArg (fun c : UInt8 => (c.toNat : Int))
    have e2 := HA.out
    subst e2
    exact dig_hi x1 hx0 hx1 (by omega)
  have D4 : Hid ((((A[3]'(by omega)).toNat : Int) == (((⟨#[48, 49, 50, 51, 52, 53, 54, 55, 56, 57, 97, 98, 99, 100, 101, 102]⟩ : ByteArray)[(x1 % 16).toNat]'(by show _ < 16; omega)).toNat : Int)) = true) := by
    apply beq_iff_eq.2
    apply congrArg (fun c : UInt8 => (c.toNat : Int))
    have e2 := HA.out
    subst e2
    exact dig_lo x1 hx0 hx1 (by omega)
  go_wp2_with fail
  go_loopw [10] (fun j wr => ∃ k m : Nat, k ≤ 16 ∧ j = .int .i64 k ∧ wr = w2.drewN m) (fun j _ => 16 - (RowKit.intOf j).toNat)
  case atStart => exact ⟨0, 0, by omega, rfl, rfl⟩
  case round =>
    obtain ⟨k, m, hk, rfl, rfl⟩ := hrel
    by_cases hlt : k < 16
    · by_cases h6 : k = 2
      · subst h6
        go_wp2
        go_roundw
        case rel => exact ⟨3, m, by omega, rfl, rfl⟩
        case measure => simp [RowKit.intOf]
      · by_cases h7 : k = 3
        · subst h7
          go_wp2
          go_roundw
          case rel => exact ⟨4, m, by omega, rfl, rfl⟩
          case measure => simp [RowKit.intOf]
        · have e6 : ((k : Int) == 2) = false := beq_eq_false_iff_ne.2 (by omega)
          have e7 : ((k : Int) == 3) = false := beq_eq_false_iff_ne.2 (by omega)
          have hAC := HAC.out k (by omega) (by omega) h6 h7
          go_wp2
          go_quiet (fail)
          go_wp2
          go_roundw
          case rel => exact ⟨k + 1, m + nq, by omega, by go_num, rfl⟩
          case measure => simp [RowKit.intOf]; omega
    · have hk16 : k = 16 := by omega
      subst hk16
      have d1 := D1.out
      have d2 := D2.out
      have d3 := D3.out
      have d4 := D4.out
      clear D1 D2 D3 D4 HAC
      go_wp2
      go_quiet (fail)
      go_wp2
      go_ret
      exact ⟨rfl, below_drewN (below_drewN (((((Below.refl _ _).alloc (Nat.le_refl _) _).alloc (by simp) _).trans (hb1.mono (by simp; omega))).trans (hb2.mono (by have := hb1.size; simp at this; omega))) _) _⟩

theorem same_2 (x0 x1 x2 x3 x4 x5 x6 x7 v : Int) (k : Nat) (h : k < (hex x0 x1 x2 x3 x4 x5 x6 x7).size) (h' : k < (hex x0 x1 v x3 x4 x5 x6 x7).size) (ha : k ≠ 4) (hb : k ≠ 5) : (hex x0 x1 x2 x3 x4 x5 x6 x7)[k] = (hex x0 x1 v x3 x4 x5 x6 x7)[k] := by
  have hk : k < 16 := h
  rcases lt16 hk with rfl | rfl | rfl | rfl | rfl | rfl | rfl | rfl | rfl | rfl | rfl | rfl | rfl | rfl | rfl | rfl
  all_goals first | exact absurd rfl ha | exact absurd rfl hb | rfl

set_option maxHeartbeats 1000000 in
theorem one_2 (x0 x1 x2 x3 x4 x5 x6 x7 v : Int) (w : World) (h0 : isB x0) (h1 : isB x1) (h2 : isB x2) (h3 : isB x3) (h4 : isB x4) (h5 : isB x5) (h6 : isB x6) (h7 : isB x7) (hv : isB v) :
    Calls Try.prog 8 #[.agg #[.int .u8 x0, .int .u8 x1, .int .u8 x2, .int .u8 x3, .int .u8 x4, .int .u8 x5, .int .u8 x6, .int .u8 x7], .int .i64 2, .int .u8 v] w fun e w' => e = .returned (.bool true) ∧ Below w.heap.size w w' := by
  go_enter Try.func8, Try.ntmps8
  go_wp2_with fail
  refine (str_calls _ _ _ _ _ _ _ _ _ h0 h1 h2 h3 h4 h5 h6 h7).mono ?_
  rintro e w1 ⟨rfl, hb1⟩
  obtain ⟨hc1, hf1⟩ := bcell hb1
  generalize hA : hex x0 x1 x2 x3 x4 x5 x6 x7 = A
  have HA : Hid _ := hA
  clear hA
  go_wp2_with fail
  refine (str_calls _ _ _ _ _ _ _ _ _ h0 h1 hv h3 h4 h5 h6 h7).mono ?_
  rintro e w2 ⟨rfl, hb2⟩
  obtain ⟨hc2, hf2⟩ := bcell hb2
  generalize hC : hex x0 x1 v x3 x4 x5 x6 x7 = C
  have HC : Hid _ := hC
  clear hC
  have hz1 : w.heap.size + 1 < w1.heap.size := by have := hb1.size; simp at this; omega
  have hcell : w2.cell? ⟨w.heap.size, 2, none⟩ = some (.int .u8 x2) := by rw [hc2 _ _ (by omega), hc1 _ _ (by simp; omega)]; simp
  clear hc1 hf1 hc2 hf2
  have sA : A.size = 16 := by rw [← HA.out]; rfl
  have sC : C.size = 16 := by rw [← HC.out]; rfl
  have HAC : Hid (∀ k : Nat, (h : k < A.size) → (h' : k < C.size) → k ≠ 4 → k ≠ 5 → A[k] = C[k]) := by
    have e1 := HA.out
    have e2 := HC.out
    subst e1 e2
    exact same_2 x0 x1 x2 x3 x4 x5 x6 x7 v
  obtain ⟨hv0, hv1⟩ := hv
  obtain ⟨hx0, hx1⟩ := h2
  have q1 : 0 ≤ v / 16 := by omega
  have q2 : v / 16 < 16 := by omega
  have q3 : 0 ≤ v % 16 := by omega
  have q4 : v % 16 < 16 := by omega
  have q5 : 0 ≤ x2 / 16 := by omega
  have q6 : x2 / 16 < 16 := by omega
  have q7 : 0 ≤ x2 % 16 := by omega
  have q8 : x2 % 16 < 16 := by omega
  have D1 : Hid ((((C[4]'(by omega)).toNat : Int) == (((⟨#[48, 49, 50, 51, 52, 53, 54, 55, 56, 57, 97, 98, 99, 100, 101, 102]⟩ : ByteArray)[(v / 16).toNat]'(by show _ < 16; omega)).toNat : Int)) = true) := by
    apply beq_iff_eq.2
    apply congrArg (fun c : UInt8 => (c.toNat : Int))
    have e2 := HC.out
    subst e2
    exact dig_hi v hv0 hv1 (by omega)
  have D2 : Hid ((((C[5]'(by omega)).toNat : Int) == (((⟨#[48, 49, 50, 51, 52, 53, 54, 55, 56, 57, 97, 98, 99, 100, 101, 102]⟩ : ByteArray)[(v % 16).toNat]'(by show _ < 16; omega)).toNat : Int)) = true) := by
    apply beq_iff_eq.2
    apply congrArg (fun c : UInt8 => (c.toNat : Int))
    have e2 := HC.out
    subst e2
    exact dig_lo v hv0 hv1 (by omega)
  have D3 : Hid ((((A[4]'(by omega)).toNat : Int) == (((⟨#[48, 49, 50, 51, 52, 53, 54, 55, 56, 57, 97, 98, 99, 100, 101, 102]⟩ : ByteArray)[(x2 / 16).toNat]'(by show _ < 16; omega)).toNat : Int)) = true) := by
    apply beq_iff_eq.2
    apply congrArg (fun c : UInt8 => (c.toNat : Int))
    have e2 := HA.out
    subst e2
    exact dig_hi x2 hx0 hx1 (by omega)
  have D4 : Hid ((((A[5]'(by omega)).toNat : Int) == (((⟨#[48, 49, 50, 51, 52, 53, 54, 55, 56, 57, 97, 98, 99, 100, 101, 102]⟩ : ByteArray)[(x2 % 16).toNat]'(by show _ < 16; omega)).toNat : Int)) = true) := by
    apply beq_iff_eq.2
    apply congrArg (fun c : UInt8 => (c.toNat : Int))
    have e2 := HA.out
    subst e2
    exact dig_lo x2 hx0 hx1 (by omega)
  go_wp2_with fail
  go_loopw [10] (fun j wr => ∃ k m : Nat, k ≤ 16 ∧ j = .int .i64 k ∧ wr = w2.drewN m) (fun j _ => 16 - (RowKit.intOf j).toNat)
  case atStart => exact ⟨0, 0, by omega, rfl, rfl⟩
  case round =>
    obtain ⟨k, m, hk, rfl, rfl⟩ := hrel
    by_cases hlt : k < 16
    · by_cases h6 : k = 4
      · subst h6
        go_wp2
        go_roundw
        case rel => exact ⟨5, m, by omega, rfl, rfl⟩
        case measure => simp [RowKit.intOf]
      · by_cases h7 : k = 5
        · subst h7
          go_wp2
          go_roundw
          case rel => exact ⟨6, m, by omega, rfl, rfl⟩
          case measure => simp [RowKit.intOf]
        · have e6 : ((k : Int) == 4) = false := beq_eq_false_iff_ne.2 (by omega)
          have e7 : ((k : Int) == 5) = false := beq_eq_false_iff_ne.2 (by omega)
          have hAC := HAC.out k (by omega) (by omega) h6 h7
          go_wp2
          go_quiet (fail)
          go_wp2
          go_roundw
          case rel => exact ⟨k + 1, m + nq, by omega, by go_num, rfl⟩
          case measure => simp [RowKit.intOf]; omega
    · have hk16 : k = 16 := by omega
      subst hk16
      have d1 := D1.out
      have d2 := D2.out
      have d3 := D3.out
      have d4 := D4.out
      clear D1 D2 D3 D4 HAC
      go_wp2
      go_quiet (fail)
      go_wp2
      go_ret
      exact ⟨rfl, below_drewN (below_drewN (((((Below.refl _ _).alloc (Nat.le_refl _) _).alloc (by simp) _).trans (hb1.mono (by simp; omega))).trans (hb2.mono (by have := hb1.size; simp at this; omega))) _) _⟩

theorem same_3 (x0 x1 x2 x3 x4 x5 x6 x7 v : Int) (k : Nat) (h : k < (hex x0 x1 x2 x3 x4 x5 x6 x7).size) (h' : k < (hex x0 x1 x2 v x4 x5 x6 x7).size) (ha : k ≠ 6) (hb : k ≠ 7) : (hex x0 x1 x2 x3 x4 x5 x6 x7)[k] = (hex x0 x1 x2 v x4 x5 x6 x7)[k] := by
  have hk : k < 16 := h
  rcases lt16 hk with rfl | rfl | rfl | rfl | rfl | rfl | rfl | rfl | rfl | rfl | rfl | rfl | rfl | rfl | rfl | rfl
  all_goals first | exact absurd rfl ha | exact absurd rfl hb | rfl

set_option maxHeartbeats 1000000 in
theorem one_3 (x0 x1 x2 x3 x4 x5 x6 x7 v : Int) (w : World) (h0 : isB x0) (h1 : isB x1) (h2 : isB x2) (h3 : isB x3) (h4 : isB x4) (h5 : isB x5) (h6 : isB x6) (h7 : isB x7) (hv : isB v) :
    Calls Try.prog 8 #[.agg #[.int .u8 x0, .int .u8 x1, .int .u8 x2, .int .u8 x3, .int .u8 x4, .int .u8 x5, .int .u8 x6, .int .u8 x7], .int .i64 3, .int .u8 v] w fun e w' => e = .returned (.bool true) ∧ Below w.heap.size w w' := by
  go_enter Try.func8, Try.ntmps8
  go_wp2_with fail
  refine (str_calls _ _ _ _ _ _ _ _ _ h0 h1 h2 h3 h4 h5 h6 h7).mono ?_
  rintro e w1 ⟨rfl, hb1⟩
  obtain ⟨hc1, hf1⟩ := bcell hb1
  generalize hA : hex x0 x1 x2 x3 x4 x5 x6 x7 = A
  have HA : Hid _ := hA
  clear hA
  go_wp2_with fail
  refine (str_calls _ _ _ _ _ _ _ _ _ h0 h1 h2 hv h4 h5 h6 h7).mono ?_
  rintro e w2 ⟨rfl, hb2⟩
  obtain ⟨hc2, hf2⟩ := bcell hb2
  generalize hC : hex x0 x1 x2 v x4 x5 x6 x7 = C
  have HC : Hid _ := hC
  clear hC
  have hz1 : w.heap.size + 1 < w1.heap.size := by have := hb1.size; simp at this; omega
  have hcell : w2.cell? ⟨w.heap.size, 3, none⟩ = some (.int .u8 x3) := by rw [hc2 _ _ (by omega), hc1 _ _ (by simp; omega)]; simp
  clear hc1 hf1 hc2 hf2
  have sA : A.size = 16 := by rw [← HA.out]; rfl
  have sC : C.size = 16 := by rw [← HC.out]; rfl
  have HAC : Hid (∀ k : Nat, (h : k < A.size) → (h' : k < C.size) → k ≠ 6 → k ≠ 7 → A[k] = C[k]) := by
    have e1 := HA.out
    have e2 := HC.out
    subst e1 e2
    exact same_3 x0 x1 x2 x3 x4 x5 x6 x7 v
  obtain ⟨hv0, hv1⟩ := hv
  obtain ⟨hx0, hx1⟩ := h3
  have q1 : 0 ≤ v / 16 := by omega
  have q2 : v / 16 < 16 := by omega
  have q3 : 0 ≤ v % 16 := by omega
  have q4 : v % 16 < 16 := by omega
  have q5 : 0 ≤ x3 / 16 := by omega
  have q6 : x3 / 16 < 16 := by omega
  have q7 : 0 ≤ x3 % 16 := by omega
  have q8 : x3 % 16 < 16 := by omega
  have D1 : Hid ((((C[6]'(by omega)).toNat : Int) == (((⟨#[48, 49, 50, 51, 52, 53, 54, 55, 56, 57, 97, 98, 99, 100, 101, 102]⟩ : ByteArray)[(v / 16).toNat]'(by show _ < 16; omega)).toNat : Int)) = true) := by
    apply beq_iff_eq.2
    apply congrArg (fun c : UInt8 => (c.toNat : Int))
    have e2 := HC.out
    subst e2
    exact dig_hi v hv0 hv1 (by omega)
  have D2 : Hid ((((C[7]'(by omega)).toNat : Int) == (((⟨#[48, 49, 50, 51, 52, 53, 54, 55, 56, 57, 97, 98, 99, 100, 101, 102]⟩ : ByteArray)[(v % 16).toNat]'(by show _ < 16; omega)).toNat : Int)) = true) := by
    apply beq_iff_eq.2
    apply congrArg (fun c : UInt8 => (c.toNat : Int))
    have e2 := HC.out
    subst e2
    exact dig_lo v hv0 hv1 (by omega)
  have D3 : Hid ((((A[6]'(by omega)).toNat : Int) == (((⟨#[48, 49, 50, 51, 52, 53, 54, 55, 56, 57, 97, 98, 99, 100, 101, 102]⟩ : ByteArray)[(x3 / 16).toNat]'(by show _ < 16; omega)).toNat : Int)) = true) := by
    apply beq_iff_eq.2
    apply congrArg (fun c : UInt8 => (c.toNat : Int))
    have e2 := HA.out
    subst e2
    exact dig_hi x3 hx0 hx1 (by omega)
  have D4 : Hid ((((A[7]'(by omega)).toNat : Int) == (((⟨#[48, 49, 50, 51, 52, 53, 54, 55, 56, 57, 97, 98, 99, 100, 101, 102]⟩ : ByteArray)[(x3 % 16).toNat]'(by show _ < 16; omega)).toNat : Int)) = true) := by
    apply beq_iff_eq.2
    apply congrArg (fun c : UInt8 => (c.toNat : Int))
    have e2 := HA.out
    subst e2
    exact dig_lo x3 hx0 hx1 (by omega)
  go_wp2_with fail
  go_loopw [10] (fun j wr => ∃ k m : Nat, k ≤ 16 ∧ j = .int .i64 k ∧ wr = w2.drewN m) (fun j _ => 16 - (RowKit.intOf j).toNat)
  case atStart => exact ⟨0, 0, by omega, rfl, rfl⟩
  case round =>
    obtain ⟨k, m, hk, rfl, rfl⟩ := hrel
    by_cases hlt : k < 16
    · by_cases h6 : k = 6
      · subst h6
        go_wp2
        go_roundw
        case rel => exact ⟨7, m, by omega, rfl, rfl⟩
        case measure => simp [RowKit.intOf]
      · by_cases h7 : k = 7
        · subst h7
          go_wp2
          go_roundw
          case rel => exact ⟨8, m, by omega, rfl, rfl⟩
          case measure => simp [RowKit.intOf]
        · have e6 : ((k : Int) == 6) = false := beq_eq_false_iff_ne.2 (by omega)
          have e7 : ((k : Int) == 7) = false := beq_eq_false_iff_ne.2 (by omega)
          have hAC := HAC.out k (by omega) (by omega) h6 h7
          go_wp2
          go_quiet (fail)
          go_wp2
          go_roundw
          case rel => exact ⟨k + 1, m + nq, by omega, by go_num, rfl⟩
          case measure => simp [RowKit.intOf]; omega
    · have hk16 : k = 16 := by omega
      subst hk16
      have d1 := D1.out
      have d2 := D2.out
      have d3 := D3.out
      have d4 := D4.out
      clear D1 D2 D3 D4 HAC
      go_wp2
      go_quiet (fail)
      go_wp2
      go_ret
      exact ⟨rfl, below_drewN (below_drewN (((((Below.refl _ _).alloc (Nat.le_refl _) _).alloc (by simp) _).trans (hb1.mono (by simp; omega))).trans (hb2.mono (by have := hb1.size; simp at this; omega))) _) _⟩

theorem same_4 (x0 x1 x2 x3 x4 x5 x6 x7 v : Int) (k : Nat) (h : k < (hex x0 x1 x2 x3 x4 x5 x6 x7).size) (h' : k < (hex x0 x1 x2 x3 v x5 x6 x7).size) (ha : k ≠ 8) (hb : k ≠ 9) : (hex x0 x1 x2 x3 x4 x5 x6 x7)[k] = (hex x0 x1 x2 x3 v x5 x6 x7)[k] := by
  have hk : k < 16 := h
  rcases lt16 hk with rfl | rfl | rfl | rfl | rfl | rfl | rfl | rfl | rfl | rfl | rfl | rfl | rfl | rfl | rfl | rfl
  all_goals first | exact absurd rfl ha | exact absurd rfl hb | rfl

set_option maxHeartbeats 1000000 in
theorem one_4 (x0 x1 x2 x3 x4 x5 x6 x7 v : Int) (w : World) (h0 : isB x0) (h1 : isB x1) (h2 : isB x2) (h3 : isB x3) (h4 : isB x4) (h5 : isB x5) (h6 : isB x6) (h7 : isB x7) (hv : isB v) :
    Calls Try.prog 8 #[.agg #[.int .u8 x0, .int .u8 x1, .int .u8 x2, .int .u8 x3, .int .u8 x4, .int .u8 x5, .int .u8 x6, .int .u8 x7], .int .i64 4, .int .u8 v] w fun e w' => e = .returned (.bool true) ∧ Below w.heap.size w w' := by
  go_enter Try.func8, Try.ntmps8
  go_wp2_with fail
  refine (str_calls _ _ _ _ _ _ _ _ _ h0 h1 h2 h3 h4 h5 h6 h7).mono ?_
  rintro e w1 ⟨rfl, hb1⟩
  obtain ⟨hc1, hf1⟩ := bcell hb1
  generalize hA : hex x0 x1 x2 x3 x4 x5 x6 x7 = A
  have HA : Hid _ := hA
  clear hA
  go_wp2_with fail
  refine (str_calls _ _ _ _ _ _ _ _ _ h0 h1 h2 h3 hv h5 h6 h7).mono ?_
  rintro e w2 ⟨rfl, hb2⟩
  obtain ⟨hc2, hf2⟩ := bcell hb2
  generalize hC : hex x0 x1 x2 x3 v x5 x6 x7 = C
  have HC : Hid _ := hC
  clear hC
  have hz1 : w.heap.size + 1 < w1.heap.size := by have := hb1.size; simp at this; omega
  have hcell : w2.cell? ⟨w.heap.size, 4, none⟩ = some (.int .u8 x4) := by rw [hc2 _ _ (by omega), hc1 _ _ (by simp; omega)]; simp
  clear hc1 hf1 hc2 hf2
  have sA : A.size = 16 := by rw [← HA.out]; rfl
  have sC : C.size = 16 := by rw [← HC.out]; rfl
  have HAC : Hid (∀ k : Nat, (h : k < A.size) → (h' : k < C.size) → k ≠ 8 → k ≠ 9 → A[k] = C[k]) := by
    have e1 := HA.out
    have e2 := HC.out
    subst e1 e2
    exact same_4 x0 x1 x2 x3 x4 x5 x6 x7 v
  obtain ⟨hv0, hv1⟩ := hv
  obtain ⟨hx0, hx1⟩ := h4
  have q1 : 0 ≤ v / 16 := by omega
  have q2 : v / 16 < 16 := by omega
  have q3 : 0 ≤ v % 16 := by omega
  have q4 : v % 16 < 16 := by omega
  have q5 : 0 ≤ x4 / 16 := by omega
  have q6 : x4 / 16 < 16 := by omega
  have q7 : 0 ≤ x4 % 16 := by omega
  have q8 : x4 % 16 < 16 := by omega
  have D1 : Hid ((((C[8]'(by omega)).toNat : Int) == (((⟨#[48, 49, 50, 51, 52, 53, 54, 55, 56, 57, 97, 98, 99, 100, 101, 102]⟩ : ByteArray)[(v / 16).toNat]'(by show _ < 16; omega)).toNat : Int)) = true) := by
    apply beq_iff_eq.2
    apply congrArg (fun c : UInt8 => (c.toNat : Int))
    have e2 := HC.out
    subst e2
    exact dig_hi v hv0 hv1 (by omega)
  have D2 : Hid ((((C[9]'(by omega)).toNat : Int) == (((⟨#[48, 49, 50, 51, 52, 53, 54, 55, 56, 57, 97, 98, 99, 100, 101, 102]⟩ : ByteArray)[(v % 16).toNat]'(by show _ < 16; omega)).toNat : Int)) = true) := by
    apply beq_iff_eq.2
    apply congrArg (fun c : UInt8 => (c.toNat : Int))
    have e2 := HC.out
    subst e2
    exact dig_lo v hv0 hv1 (by omega)
  have D3 : Hid ((((A[8]'(by omega)).toNat : Int) == (((⟨#[48, 49, 50, 51, 52, 53, 54, 55, 56, 57, 97, 98, 99, 100, 101, 102]⟩ : ByteArray)[(x4 / 16).toNat]'(by show _ < 16; omega)).toNat : Int)) = true) := by
    apply beq_iff_eq.2
    apply congrArg (fun c : UInt8 => (c.toNat : Int))
    have e2 := HA.out
    subst e2
    exact dig_hi x4 hx0 hx1 (by omega)
  have D4 : Hid ((((A[9]'(by omega)).toNat : Int) == (((⟨#[48, 49, 50, 51, 52, 53, 54, 55, 56, 57, 97, 98, 99, 100, 101, 102]⟩ : ByteArray)[(x4 % 16).toNat]'(by show _ < 16; omega)).toNat : Int)) = true) := by
    apply beq_iff_eq.2
    apply congrArg (fun c : UInt8 => (c.toNat : Int))
    have e2 := HA.out
    subst e2
    exact dig_lo x4 hx0 hx1 (by omega)
  go_wp2_with fail
  go_loopw [10] (fun j wr => ∃ k m : Nat, k ≤ 16 ∧ j = .int .i64 k ∧ wr = w2.drewN m) (fun j _ => 16 - (RowKit.intOf j).toNat)
  case atStart => exact ⟨0, 0, by omega, rfl, rfl⟩
  case round =>
    obtain ⟨k, m, hk, rfl, rfl⟩ := hrel
    by_cases hlt : k < 16
    · by_cases h6 : k = 8
      · subst h6
        go_wp2
        go_roundw
        case rel => exact ⟨9, m, by omega, rfl, rfl⟩
        case measure => simp [RowKit.intOf]
      · by_cases h7 : k = 9
        · subst h7
          go_wp2
          go_roundw
          case rel => exact ⟨10, m, by omega, rfl, rfl⟩
          case measure => simp [RowKit.intOf]
        · have e6 : ((k : Int) == 8) = false := beq_eq_false_iff_ne.2 (by omega)
          have e7 : ((k : Int) == 9) = false := beq_eq_false_iff_ne.2 (by omega)
          have hAC := HAC.out k (by omega) (by omega) h6 h7
          go_wp2
          go_quiet (fail)
          go_wp2
          go_roundw
          case rel => exact ⟨k + 1, m + nq, by omega, by go_num, rfl⟩
          case measure => simp [RowKit.intOf]; omega
    · have hk16 : k = 16 := by omega
      subst hk16
      have d1 := D1.out
      have d2 := D2.out
      have d3 := D3.out
      have d4 := D4.out
      clear D1 D2 D3 D4 HAC
      go_wp2
      go_quiet (fail)
      go_wp2
      go_ret
      exact ⟨rfl, below_drewN (below_drewN (((((Below.refl _ _).alloc (Nat.le_refl _) _).alloc (by simp) _).trans (hb1.mono (by simp; omega))).trans (hb2.mono (by have := hb1.size; simp at this; omega))) _) _⟩

theorem same_5 (x0 x1 x2 x3 x4 x5 x6 x7 v : Int) (k : Nat) (h : k < (hex x0 x1 x2 x3 x4 x5 x6 x7).size) (h' : k < (hex x0 x1 x2 x3 x4 v x6 x7).size) (ha : k ≠ 10) (hb : k ≠ 11) : (hex x0 x1 x2 x3 x4 x5 x6 x7)[k] = (hex x0 x1 x2 x3 x4 v x6 x7)[k] := by
  have hk : k < 16 := h
  rcases lt16 hk with rfl | rfl | rfl | rfl | rfl | rfl | rfl | rfl | rfl | rfl | rfl | rfl | rfl | rfl | rfl | rfl
  all_goals first | exact absurd rfl ha | exact absurd rfl hb | rfl

set_option maxHeartbeats 1000000 in
theorem one_5 (x0 x1 x2 x3 x4 x5 x6 x7 v : Int) (w : World) (h0 : isB x0) (h1 : isB x1) (h2 : isB x2) (h3 : isB x3) (h4 : isB x4) (h5 : isB x5) (h6 : isB x6) (h7 : isB x7) (hv : isB v) :
    Calls Try.prog 8 #[.agg #[.int .u8 x0, .int .u8 x1, .int .u8 x2, .int .u8 x3, .int .u8 x4, .int .u8 x5, .int .u8 x6, .int .u8 x7], .int .i64 5, .int .u8 v] w fun e w' => e = .returned (.bool true) ∧ Below w.heap.size w w' := by
  go_enter Try.func8, Try.ntmps8
  go_wp2_with fail
  refine (str_calls _ _ _ _ _ _ _ _ _ h0 h1 h2 h3 h4 h5 h6 h7).mono ?_
  rintro e w1 ⟨rfl, hb1⟩
  obtain ⟨hc1, hf1⟩ := bcell hb1
  generalize hA : hex x0 x1 x2 x3 x4 x5 x6 x7 = A
  have HA : Hid _ := hA
  clear hA
  go_wp2_with fail
  refine (str_calls _ _ _ _ _ _ _ _ _ h0 h1 h2 h3 h4 hv h6 h7).mono ?_
  rintro e w2 ⟨rfl, hb2⟩
  obtain ⟨hc2, hf2⟩ := bcell hb2
  generalize hC : hex x0 x1 x2 x3 x4 v x6 x7 = C
  have HC : Hid _ := hC
  clear hC
  have hz1 : w.heap.size + 1 < w1.heap.size := by have := hb1.size; simp at this; omega
  have hcell : w2.cell? ⟨w.heap.size, 5, none⟩ = some (.int .u8 x5) := by rw [hc2 _ _ (by omega), hc1 _ _ (by simp; omega)]; simp
  clear hc1 hf1 hc2 hf2
  have sA : A.size = 16 := by rw [← HA.out]; rfl
  have sC : C.size = 16 := by rw [← HC.out]; rfl
  have HAC : Hid (∀ k : Nat, (h : k < A.size) → (h' : k < C.size) → k ≠ 10 → k ≠ 11 → A[k] = C[k]) := by
    have e1 := HA.out
    have e2 := HC.out
    subst e1 e2
    exact same_5 x0 x1 x2 x3 x4 x5 x6 x7 v
  obtain ⟨hv0, hv1⟩ := hv
  obtain ⟨hx0, hx1⟩ := h5
  have q1 : 0 ≤ v / 16 := by omega
  have q2 : v / 16 < 16 := by omega
  have q3 : 0 ≤ v % 16 := by omega
  have q4 : v % 16 < 16 := by omega
  have q5 : 0 ≤ x5 / 16 := by omega
  have q6 : x5 / 16 < 16 := by omega
  have q7 : 0 ≤ x5 % 16 := by omega
  have q8 : x5 % 16 < 16 := by omega
  have D1 : Hid ((((C[10]'(by omega)).toNat : Int) == (((⟨#[48, 49, 50, 51, 52, 53, 54, 55, 56, 57, 97, 98, 99, 100, 101, 102]⟩ : ByteArray)[(v / 16).toNat]'(by show _ < 16; omega)).toNat : Int)) = true) := by
    apply beq_iff_eq.2
    apply congrArg (fun c : UInt8 => (c.toNat : Int))
    have e2 := HC.out
    subst e2
    exact dig_hi v hv0 hv1 (by omega)
  have D2 : Hid ((((C[11]'(by omega)).toNat : Int) == (((⟨#[48, 49, 50, 51, 52, 53, 54, 55, 56, 57, 97, 98, 99, 100, 101, 102]⟩ : ByteArray)[(v % 16).toNat]'(by show _ < 16; omega)).toNat : Int)) = true) := by
    apply beq_iff_eq.2
    apply congrArg (fun c : UInt8 => (c.toNat : Int))
    have e2 := HC.out
    subst e2
    exact dig_lo v hv0 hv1 (by omega)
  have D3 : Hid ((((A[10]'(by omega)).toNat : Int) == (((⟨#[48, 49, 50, 51, 52, 53, 54, 55, 56, 57, 97, 98, 99, 100, 101, 102]⟩ : ByteArray)[(x5 / 16).toNat]'(by show _ < 16; omega)).toNat : Int)) = true) := by
    apply beq_iff_eq.2
    apply congrArg (fun c : UInt8 => (c.toNat : Int))
    have e2 := HA.out
    subst e2
    exact dig_hi x5 hx0 hx1 (by omega)
  have D4 : Hid ((((A[11]'(by omega)).toNat : Int) == (((⟨#[48, 49, 50, 51, 52, 53, 54, 55, 56, 57, 97, 98, 99, 100, 101, 102]⟩ : ByteArray)[(x5 % 16).toNat]'(by show _ < 16; omega)).toNat : Int)) = true) := by
    apply beq_iff_eq.2
    apply congrArg (fun c : UInt8 => (c.toNat : Int))
    have e2 := HA.out
    subst e2
    exact dig_lo x5 hx0 hx1 (by omega)
  go_wp2_with fail
  go_loopw [10] (fun j wr => ∃ k m : Nat, k ≤ 16 ∧ j = .int .i64 k ∧ wr = w2.drewN m) (fun j _ => 16 - (RowKit.intOf j).toNat)
  case atStart => exact ⟨0, 0, by omega, rfl, rfl⟩
  case round =>
    obtain ⟨k, m, hk, rfl, rfl⟩ := hrel
    by_cases hlt : k < 16
    · by_cases h6 : k = 10
      · subst h6
        go_wp2
        go_roundw
        case rel => exact ⟨11, m, by omega, rfl, rfl⟩
        case measure => simp [RowKit.intOf]
      · by_cases h7 : k = 11
        · subst h7
          go_wp2
          go_roundw
          case rel => exact ⟨12, m, by omega, rfl, rfl⟩
          case measure => simp [RowKit.intOf]
        · have e6 : ((k : Int) == 10) = false := beq_eq_false_iff_ne.2 (by omega)
          have e7 : ((k : Int) == 11) = false := beq_eq_false_iff_ne.2 (by omega)
          have hAC := HAC.out k (by omega) (by omega) h6 h7
          go_wp2
          go_quiet (fail)
          go_wp2
          go_roundw
          case rel => exact ⟨k + 1, m + nq, by omega, by go_num, rfl⟩
          case measure => simp [RowKit.intOf]; omega
    · have hk16 : k = 16 := by omega
      subst hk16
      have d1 := D1.out
      have d2 := D2.out
      have d3 := D3.out
      have d4 := D4.out
      clear D1 D2 D3 D4 HAC
      go_wp2
      go_quiet (fail)
      go_wp2
      go_ret
      exact ⟨rfl, below_drewN (below_drewN (((((Below.refl _ _).alloc (Nat.le_refl _) _).alloc (by simp) _).trans (hb1.mono (by simp; omega))).trans (hb2.mono (by have := hb1.size; simp at this; omega))) _) _⟩

theorem same_6 (x0 x1 x2 x3 x4 x5 x6 x7 v : Int) (k : Nat) (h : k < (hex x0 x1 x2 x3 x4 x5 x6 x7).size) (h' : k < (hex x0 x1 x2 x3 x4 x5 v x7).size) (ha : k ≠ 12) (hb : k ≠ 13) : (hex x0 x1 x2 x3 x4 x5 x6 x7)[k] = (hex x0 x1 x2 x3 x4 x5 v x7)[k] := by
  have hk : k < 16 := h
  rcases lt16 hk with rfl | rfl | rfl | rfl | rfl | rfl | rfl | rfl | rfl | rfl | rfl | rfl | rfl | rfl | rfl | rfl
  all_goals first | exact absurd rfl ha | exact absurd rfl hb | rfl

set_option maxHeartbeats 1000000 in
theorem one_6 (x0 x1 x2 x3 x4 x5 x6 x7 v : Int) (w : World) (h0 : isB x0) (h1 : isB x1) (h2 : isB x2) (h3 : isB x3) (h4 : isB x4) (h5 : isB x5) (h6 : isB x6) (h7 : isB x7) (hv : isB v) :
    Calls Try.prog 8 #[.agg #[.int .u8 x0, .int .u8 x1, .int .u8 x2, .int .u8 x3, .int .u8 x4, .int .u8 x5, .int .u8 x6, .int .u8 x7], .int .i64 6, .int .u8 v] w fun e w' => e = .returned (.bool true) ∧ Below w.heap.size w w' := by
  go_enter Try.func8, Try.ntmps8
  go_wp2_with fail
  refine (str_calls _ _ _ _ _ _ _ _ _ h0 h1 h2 h3 h4 h5 h6 h7).mono ?_
  rintro e w1 ⟨rfl, hb1⟩
  obtain ⟨hc1, hf1⟩ := bcell hb1
  generalize hA : hex x0 x1 x2 x3 x4 x5 x6 x7 = A
  have HA : Hid _ := hA
  clear hA
  go_wp2_with fail
  refine (str_calls _ _ _ _ _ _ _ _ _ h0 h1 h2 h3 h4 h5 hv h7).mono ?_
  rintro e w2 ⟨rfl, hb2⟩
  obtain ⟨hc2, hf2⟩ := bcell hb2
  generalize hC : hex x0 x1 x2 x3 x4 x5 v x7 = C
  have HC : Hid _ := hC
  clear hC
  have hz1 : w.heap.size + 1 < w1.heap.size := by have := hb1.size; simp at this; omega
  have hcell : w2.cell? ⟨w.heap.size, 6, none⟩ = some (.int .u8 x6) := by rw [hc2 _ _ (by omega), hc1 _ _ (by simp; omega)]; simp
  clear hc1 hf1 hc2 hf2
  have sA : A.size = 16 := by rw [← HA.out]; rfl
  have sC : C.size = 16 := by rw [← HC.out]; rfl
  have HAC : Hid (∀ k : Nat, (h : k < A.size) → (h' : k < C.size) → k ≠ 12 → k ≠ 13 → A[k] = C[k]) := by
    have e1 := HA.out
    have e2 := HC.out
    subst e1 e2
    exact same_6 x0 x1 x2 x3 x4 x5 x6 x7 v
  obtain ⟨hv0, hv1⟩ := hv
  obtain ⟨hx0, hx1⟩ := h6
  have q1 : 0 ≤ v / 16 := by omega
  have q2 : v / 16 < 16 := by omega
  have q3 : 0 ≤ v % 16 := by omega
  have q4 : v % 16 < 16 := by omega
  have q5 : 0 ≤ x6 / 16 := by omega
  have q6 : x6 / 16 < 16 := by omega
  have q7 : 0 ≤ x6 % 16 := by omega
  have q8 : x6 % 16 < 16 := by omega
  have D1 : Hid ((((C[12]'(by omega)).toNat : Int) == (((⟨#[48, 49, 50, 51, 52, 53, 54, 55, 56, 57, 97, 98, 99, 100, 101, 102]⟩ : ByteArray)[(v / 16).toNat]'(by show _ < 16; omega)).toNat : Int)) = true) := by
    apply beq_iff_eq.2
    apply congrArg (fun c : UInt8 => (c.toNat : Int))
    have e2 := HC.out
    subst e2
    exact dig_hi v hv0 hv1 (by omega)
  have D2 : Hid ((((C[13]'(by omega)).toNat : Int) == (((⟨#[48, 49, 50, 51, 52, 53, 54, 55, 56, 57, 97, 98, 99, 100, 101, 102]⟩ : ByteArray)[(v % 16).toNat]'(by show _ < 16; omega)).toNat : Int)) = true) := by
    apply beq_iff_eq.2
    apply congrArg (fun c : UInt8 => (c.toNat : Int))
    have e2 := HC.out
    subst e2
    exact dig_lo v hv0 hv1 (by omega)
  have D3 : Hid ((((A[12]'(by omega)).toNat : Int) == (((⟨#[48, 49, 50, 51, 52, 53, 54, 55, 56, 57, 97, 98, 99, 100, 101, 102]⟩ : ByteArray)[(x6 / 16).toNat]'(by show _ < 16; omega)).toNat : Int)) = true) := by
    apply beq_iff_eq.2
    apply congrArg (fun c : UInt8 => (c.toNat : Int))
    have e2 := HA.out
    subst e2
    exact dig_hi x6 hx0 hx1 (by omega)
  have D4 : Hid ((((A[13]'(by omega)).toNat : Int) == (((⟨#[48, 49, 50, 51, 52, 53, 54, 55, 56, 57, 97, 98, 99, 100, 101, 102]⟩ : ByteArray)[(x6 % 16).toNat]'(by show _ < 16; omega)).toNat : Int)) = true) := by
    apply beq_iff_eq.2
    apply congrArg (fun c : UInt8 => (c.toNat : Int))
    have e2 := HA.out
    subst e2
    exact dig_lo x6 hx0 hx1 (by omega)
  go_wp2_with fail
  go_loopw [10] (fun j wr => ∃ k m : Nat, k ≤ 16 ∧ j = .int .i64 k ∧ wr = w2.drewN m) (fun j _ => 16 - (RowKit.intOf j).toNat)
  case atStart => exact ⟨0, 0, by omega, rfl, rfl⟩
  case round =>
    obtain ⟨k, m, hk, rfl, rfl⟩ := hrel
    by_cases hlt : k < 16
    · by_cases h6 : k = 12
      · subst h6
        go_wp2
        go_roundw
        case rel => exact ⟨13, m, by omega, rfl, rfl⟩
        case measure => simp [RowKit.intOf]
      · by_cases h7 : k = 13
        · subst h7
          go_wp2
          go_roundw
          case rel => exact ⟨14, m, by omega, rfl, rfl⟩
          case measure => simp [RowKit.intOf]
        · have e6 : ((k : Int) == 12) = false := beq_eq_false_iff_ne.2 (by omega)
          have e7 : ((k : Int) == 13) = false := beq_eq_false_iff_ne.2 (by omega)
          have hAC := HAC.out k (by omega) (by omega) h6 h7
          go_wp2
          go_quiet (fail)
          go_wp2
          go_roundw
          case rel => exact ⟨k + 1, m + nq, by omega, by go_num, rfl⟩
          case measure => simp [RowKit.intOf]; omega
    · have hk16 : k = 16 := by omega
      subst hk16
      have d1 := D1.out
      have d2 := D2.out
      have d3 := D3.out
      have d4 := D4.out
      clear D1 D2 D3 D4 HAC
      go_wp2
      go_quiet (fail)
      go_wp2
      go_ret
      exact ⟨rfl, below_drewN (below_drewN (((((Below.refl _ _).alloc (Nat.le_refl _) _).alloc (by simp) _).trans (hb1.mono (by simp; omega))).trans (hb2.mono (by have := hb1.size; simp at this; omega))) _) _⟩

theorem same_7 (x0 x1 x2 x3 x4 x5 x6 x7 v : Int) (k : Nat) (h : k < (hex x0 x1 x2 x3 x4 x5 x6 x7).size) (h' : k < (hex x0 x1 x2 x3 x4 x5 x6 v).size) (ha : k ≠ 14) (hb : k ≠ 15) : (hex x0 x1 x2 x3 x4 x5 x6 x7)[k] = (hex x0 x1 x2 x3 x4 x5 x6 v)[k] := by
  have hk : k < 16 := h
  rcases lt16 hk with rfl | rfl | rfl | rfl | rfl | rfl | rfl | rfl | rfl | rfl | rfl | rfl | rfl | rfl | rfl | rfl
  all_goals first | exact absurd rfl ha | exact absurd rfl hb | rfl

set_option maxHeartbeats 1000000 in
theorem one_7 (x0 x1 x2 x3 x4 x5 x6 x7 v : Int) (w : World) (h0 : isB x0) (h1 : isB x1) (h2 : isB x2) (h3 : isB x3) (h4 : isB x4) (h5 : isB x5) (h6 : isB x6) (h7 : isB x7) (hv : isB v) :
    Calls Try.prog 8 #[.agg #[.int .u8 x0, .int .u8 x1, .int .u8 x2, .int .u8 x3, .int .u8 x4, .int .u8 x5, .int .u8 x6, .int .u8 x7], .int .i64 7, .int .u8 v] w fun e w' => e = .returned (.bool true) ∧ Below w.heap.size w w' := by
  go_enter Try.func8, Try.ntmps8
  go_wp2_with fail
  refine (str_calls _ _ _ _ _ _ _ _ _ h0 h1 h2 h3 h4 h5 h6 h7).mono ?_
  rintro e w1 ⟨rfl, hb1⟩
  obtain ⟨hc1, hf1⟩ := bcell hb1
  generalize hA : hex x0 x1 x2 x3 x4 x5 x6 x7 = A
  have HA : Hid _ := hA
  clear hA
  go_wp2_with fail
  refine (str_calls _ _ _ _ _ _ _ _ _ h0 h1 h2 h3 h4 h5 h6 hv).mono ?_
  rintro e w2 ⟨rfl, hb2⟩
  obtain ⟨hc2, hf2⟩ := bcell hb2
  generalize hC : hex x0 x1 x2 x3 x4 x5 x6 v = C
  have HC : Hid _ := hC
  clear hC
  have hz1 : w.heap.size + 1 < w1.heap.size := by have := hb1.size; simp at this; omega
  have hcell : w2.cell? ⟨w.heap.size, 7, none⟩ = some (.int .u8 x7) := by rw [hc2 _ _ (by omega), hc1 _ _ (by simp; omega)]; simp
  clear hc1 hf1 hc2 hf2
  have sA : A.size = 16 := by rw [← HA.out]; rfl
  have sC : C.size = 16 := by rw [← HC.out]; rfl
  have HAC : Hid (∀ k : Nat, (h : k < A.size) → (h' : k < C.size) → k ≠ 14 → k ≠ 15 → A[k] = C[k]) := by
    have e1 := HA.out
    have e2 := HC.out
    subst e1 e2
    exact same_7 x0 x1 x2 x3 x4 x5 x6 x7 v
  obtain ⟨hv0, hv1⟩ := hv
  obtain ⟨hx0, hx1⟩ := h7
  have q1 : 0 ≤ v / 16 := by omega
  have q2 : v / 16 < 16 := by omega
  have q3 : 0 ≤ v % 16 := by omega
  have q4 : v % 16 < 16 := by omega
  have q5 : 0 ≤ x7 / 16 := by omega
  have q6 : x7 / 16 < 16 := by omega
  have q7 : 0 ≤ x7 % 16 := by omega
  have q8 : x7 % 16 < 16 := by omega
  have D1 : Hid ((((C[14]'(by omega)).toNat : Int) == (((⟨#[48, 49, 50, 51, 52, 53, 54, 55, 56, 57, 97, 98, 99, 100, 101, 102]⟩ : ByteArray)[(v / 16).toNat]'(by show _ < 16; omega)).toNat : Int)) = true) := by
    apply beq_iff_eq.2
    apply congrArg (fun c : UInt8 => (c.toNat : Int))
    have e2 := HC.out
    subst e2
    exact dig_hi v hv0 hv1 (by omega)
  have D2 : Hid ((((C[15]'(by omega)).toNat : Int) == (((⟨#[48, 49, 50, 51, 52, 53, 54, 55, 56, 57, 97, 98, 99, 100, 101, 102]⟩ : ByteArray)[(v % 16).toNat]'(by show _ < 16; omega)).toNat : Int)) = true) := by
    apply beq_iff_eq.2
    apply congrArg (fun c : UInt8 => (c.toNat : Int))
    have e2 := HC.out
    subst e2
    exact dig_lo v hv0 hv1 (by omega)
  have D3 : Hid ((((A[14]'(by omega)).toNat : Int) == (((⟨#[48, 49, 50, 51, 52, 53, 54, 55, 56, 57, 97, 98, 99, 100, 101, 102]⟩ : ByteArray)[(x7 / 16).toNat]'(by show _ < 16; omega)).toNat : Int)) = true) := by
    apply beq_iff_eq.2
    apply congrArg (fun c : UInt8 => (c.toNat : Int))
    have e2 := HA.out
    subst e2
    exact dig_hi x7 hx0 hx1 (by omega)
  have D4 : Hid ((((A[15]'(by omega)).toNat : Int) == (((⟨#[48, 49, 50, 51, 52, 53, 54, 55, 56, 57, 97, 98, 99, 100, 101, 102]⟩ : ByteArray)[(x7 % 16).toNat]'(by show _ < 16; omega)).toNat : Int)) = true) := by
    apply beq_iff_eq.2
    apply congrArg (fun c : UInt8 => (c.toNat : Int))
    have e2 := HA.out
    subst e2
    exact dig_lo x7 hx0 hx1 (by omega)
  go_wp2_with fail
  go_loopw [10] (fun j wr => ∃ k m : Nat, k ≤ 16 ∧ j = .int .i64 k ∧ wr = w2.drewN m) (fun j _ => 16 - (RowKit.intOf j).toNat)
  case atStart => exact ⟨0, 0, by omega, rfl, rfl⟩
  case round =>
    obtain ⟨k, m, hk, rfl, rfl⟩ := hrel
    by_cases hlt : k < 16
    · by_cases h6 : k = 14
      · subst h6
        go_wp2
        go_roundw
        case rel => exact ⟨15, m, by omega, rfl, rfl⟩
        case measure => simp [RowKit.intOf]
      · by_cases h7 : k = 15
        · subst h7
          go_wp2
          go_roundw
          case rel => exact ⟨16, m, by omega, rfl, rfl⟩
          case measure => simp [RowKit.intOf]
        · have e6 : ((k : Int) == 14) = false := beq_eq_false_iff_ne.2 (by omega)
          have e7 : ((k : Int) == 15) = false := beq_eq_false_iff_ne.2 (by omega)
          have hAC := HAC.out k (by omega) (by omega) h6 h7
          go_wp2
          go_quiet (fail)
          go_wp2
          go_roundw
          case rel => exact ⟨k + 1, m + nq, by omega, by go_num, rfl⟩
          case measure => simp [RowKit.intOf]; omega
    · have hk16 : k = 16 := by omega
      subst hk16
      have d1 := D1.out
      have d2 := D2.out
      have d3 := D3.out
      have d4 := D4.out
      clear D1 D2 D3 D4 HAC
      go_wp2
      go_quiet (fail)
      go_wp2
      go_ret
      exact ⟨rfl, below_drewN (below_drewN (((((Below.refl _ _).alloc (Nat.le_refl _) _).alloc (by simp) _).trans (hb1.mono (by simp; omega))).trans (hb2.mono (by have := hb1.size; simp at this; omega))) _) _⟩

end Go.Proofs.Qxb6613140a.Spi
