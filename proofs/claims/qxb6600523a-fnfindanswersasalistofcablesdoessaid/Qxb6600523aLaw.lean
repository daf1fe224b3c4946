import Derived.Test.Qxb6600523aAdd
import Derived.Test.Qxb6600523aFnd
import Derived.Test.Qxb6600523aScr
namespace Go.Proofs.Qxb6600523a.Jp
open Go.ChangeShapes Go.WideShapes Go.RowKit
set_option linter.unusedVariables false

/-- The walk's end. -/
def Ends (w : World) (e : Ending) (w' : World) : Prop := e = .returned (.bool true) ∧ Below w.heap.size w w'

theorem same_true {a b x y : Int} (h : Pair a b x y) (w : World) : Calls Try.prog 10 #[.int .i64 a, .int .i64 b, .int .i64 x, .int .i64 y] w fun e w' => e = .returned (.bool true) ∧ w' = w := by
  have e : decide ((a = x ∧ b = y) ∨ (a = y ∧ b = x)) = true := decide_eq_true h
  have := same_calls a b x y w
  rw [e] at this
  exact this
theorem same_false {a b x y : Int} (h : ¬ Pair a b x y) (w : World) : Calls Try.prog 10 #[.int .i64 a, .int .i64 b, .int .i64 x, .int .i64 y] w fun e w' => e = .returned (.bool false) ∧ w' = w := by
  have e : decide ((a = x ∧ b = y) ∨ (a = y ∧ b = x)) = false := decide_eq_false h
  have := same_calls a b x y w
  rw [e] at this
  exact this

theorem Lies.at {w w' : World} {a : Option Addr} {n : Nat} {vs : Nat → Value} (h : Lies w a n vs) (hb : Below w.heap.size w w') {k : Nat} (hk : k < n) : ∃ p, a = some p ∧ ∀ i, i < n → w'.cell? (p.add i) = some (vs i) := by
  rcases h.below' hb with e | ⟨p, e, _, hc⟩
  · omega
  · exact ⟨p, e, hc⟩

theorem below_drewN (w : World) (n : Nat) {B : Nat} : Below B w (w.drewN n) := ⟨rfl, rfl, rfl, Nat.le_refl _, fun _ _ => rfl⟩

set_option maxHeartbeats 8000000 in
set_option maxRecDepth 100000 in
theorem law3_calls (t : Int) (a0 a1 a2 : Option Addr) (n0 c0 n1 c1 n2 c2 : Nat) (xs ys : Nat → Int) (bs : Nat → Bool) (w : World)
    (h0 : Lies w a0 n0 (ints xs)) (h1 : Lies w a1 n1 (ints ys)) (h2 : Lies w a2 n2 (bools bs)) (z0 : a0 = none → n0 = 0 ∧ c0 = 0) (z1 : a1 = none → n1 = 0 ∧ c1 = 0) (z2 : a2 = none → n2 = 0 ∧ c2 = 0)
    (hxs : ∀ i, i < n0 → xs i ≤ 9223372036854775807) (hys : ∀ i, i < n1 → ys i ≤ 9223372036854775807) :
    Calls Try.prog 3 #[.int .i64 t, .slice a0 n0 c0, .slice a1 n1 c1, .slice a2 n2 c2] w fun e w' => Ends w e w' := by
  have H0 : Hid (Lies w a0 n0 (ints xs)) := h0
  have H1 : Hid (Lies w a1 n1 (ints ys)) := h1
  have H2 : Hid (Lies w a2 n2 (bools bs)) := h2
  have Z0 : Hid (a0 = none → n0 = 0 ∧ c0 = 0) := z0
  have Z1 : Hid (a1 = none → n1 = 0 ∧ c1 = 0) := z1
  have Z2 : Hid (a2 = none → n2 = 0 ∧ c2 = 0) := z2
  have HXS : Hid (∀ i, i < n0 → xs i ≤ 9223372036854775807) := hxs
  have HYS : Hid (∀ i, i < n1 → ys i ≤ 9223372036854775807) := hys
  clear h0 h1 h2 z0 z1 z2 hxs hys
  go_enter Try.func3, Try.ntmps3
  go_wp2_with fail
  refine (bytes_calls t a0 a1 a2 n0 c0 n1 c1 n2 c2 w).mono ?_
  rintro e w' ⟨r, rfl, hw, hbb⟩
  obtain rfl := hw.symm
  clear hw
  cases r with
  | false =>
    go_wp2_with fail
    go_ret
    exact ⟨rfl, Below.refl _ _⟩
  | true =>
    clear hbb
    by_cases q0 : t < 0
    case pos =>
      go_wp2_with fail
      go_ret
      exact ⟨rfl, Below.refl _ _⟩
    by_cases q1 : 32768 < t
    case pos =>
      go_wp2_with fail
      go_ret
      exact ⟨rfl, Below.refl _ _⟩
    by_cases q2 : 4096 < n0
    case pos =>
      go_wp2_with fail
      go_ret
      exact ⟨rfl, Below.refl _ _⟩
    by_cases q3 : 4096 < n1
    case pos =>
      go_wp2_with fail
      go_ret
      exact ⟨rfl, Below.refl _ _⟩
    by_cases q4 : 4096 < n2
    case pos =>
      go_wp2_with fail
      go_ret
      exact ⟨rfl, Below.refl _ _⟩
    obtain ⟨D, rfl⟩ : ∃ D : Nat, t = (D : Int) := ⟨t.toNat, by omega⟩
    by_cases q5 : 1048576 < 24 * D + 8 * n0 + 8 * n1 + n2
    case pos => exact absurd q5 (by omega)
    go_wp2_with fail
    refine (copy8_calls a0 n0 c0 xs w H0.out Z0.out (by omega)).mono ?_
    rintro e w1 ⟨b0, rfl, l0, hb1, _⟩
    have L0 : Hid (Lies w1 b0 n0 (ints xs)) := l0
    have B1 : Hid (Below w.heap.size w w1) := hb1
    have H1' : Hid (Lies w1 a1 n1 (ints ys)) := H1.out.below' hb1
    have H2' : Hid (Lies w1 a2 n2 (bools bs)) := H2.out.below' hb1
    clear l0 hb1 H0 H1 H2
    go_wp2_with fail
    refine (copy8_calls a1 n1 c1 ys w1 H1'.out Z1.out (by omega)).mono ?_
    rintro e w2 ⟨b1, rfl, l1, hb2, _⟩
    have L0' : Hid (Lies w2 b0 n0 (ints xs)) := L0.out.below' hb2
    have L1 : Hid (Lies w2 b1 n1 (ints ys)) := l1
    have B2 : Hid (Below w.heap.size w w2) := B1.out.trans (hb2.mono B1.out.size)
    have H2'' : Hid (Lies w2 a2 n2 (bools bs)) := H2'.out.below' hb2
    clear l1 hb2 H1' H2' L0 B1
    go_wp2_with fail
    refine (copy9_calls a2 n2 c2 bs w2 H2''.out Z2.out (by omega)).mono ?_
    rintro e w3 ⟨b2, rfl, l2, hb3, _⟩
    have M0 : Hid (Lies w3 b0 n0 (ints xs)) := L0'.out.below' hb3
    have M1 : Hid (Lies w3 b1 n1 (ints ys)) := L1.out.below' hb3
    have M2 : Hid (Lies w3 b2 n2 (bools bs)) := l2
    have B3 : Hid (Below w.heap.size w w3) := B2.out.trans (hb3.mono B2.out.size)
    clear l2 hb3 H2'' L0' L1 B2
    by_cases q6 : n0 = n1
    case neg =>
      have q6' : ((n0 : Int) == (n1 : Int)) = false := beq_eq_false_iff_ne.2 (by omega)
      go_wp2_with fail
      go_ret
      exact ⟨rfl, B3.out⟩
    by_cases q7 : n0 = n2
    case neg =>
      have q7' : ((n0 : Int) == (n2 : Int)) = false := beq_eq_false_iff_ne.2 (by omega)
      have q6' : ((n0 : Int) == (n1 : Int)) = true := beq_iff_eq.2 (by omega)
      go_wp2_with fail
      go_ret
      exact ⟨rfl, B3.out⟩
    subst q6
    subst q7
    go_wp2_with fail
    clear q5
    go_loopw [10] (fun i wr => ∃ k : Nat, k ≤ n0 ∧ i = .int .i64 k ∧ Hid (Below w3.heap.size w3 wr) ∧ Hid (Valid D xs ys bs k)) (fun i _ => n0 - (RowKit.intOf i).toNat)
    case atStart => exact ⟨0, by omega, rfl, ⟨rfl, rfl, rfl, Nat.le_refl _, fun _ _ => rfl⟩, valid_zero D xs ys bs⟩
    case round =>
      obtain ⟨k, hk, rfl, HB, HV⟩ := hrel
      have HE : Hid (Below w.heap.size w wr) := B3.out.trans (HB.out.mono B3.out.size)
      by_cases hlt : k < n0
      case pos =>
        obtain ⟨p0, rfl, g0⟩ := M0.out.at HB.out hlt
        obtain ⟨p1, rfl, g1⟩ := M1.out.at HB.out hlt
        obtain ⟨p2, rfl, g2⟩ := M2.out.at HB.out hlt
        have d0 : wr.cell? (p0.add k) = some (.int .i64 (xs k)) := g0 k hlt
        have d1 : wr.cell? (p1.add k) = some (.int .i64 (ys k)) := g1 k hlt
        have d2 : wr.cell? (p2.add k) = some (.bool (bs k)) := g2 k hlt
        obtain ⟨x, hx⟩ : ∃ x, x = xs k := ⟨_, rfl⟩
        obtain ⟨y, hy⟩ : ∃ y, y = ys k := ⟨_, rfl⟩
        obtain ⟨b, hb⟩ : ∃ b, b = bs k := ⟨_, rfl⟩
        rw [← hx] at d0
        rw [← hy] at d1
        rw [← hb] at d2
        have HX : Hid (x = xs k) := hx
        have HY : Hid (y = ys k) := hy
        have HBK : Hid (b = bs k) := hb
        clear hx hy hb g0 g1 g2
        by_cases r0 : x < 0
        case pos =>
          go_wp2_with fail
          go_ret
          exact ⟨rfl, HE.out⟩
        by_cases r1 : y < 0
        case pos =>
          go_wp2_with fail
          go_ret
          exact ⟨rfl, HE.out⟩
        cases b with
        | false =>
          go_wp2_with fail
          exact ⟨⟨k + 1, by omega, by go_num, HB.out, valid_step HV.out (by rw [← HX.out]; omega) (by rw [← HY.out]; omega) (fun e => by rw [← HBK.out] at e; cases e)⟩, by simp [RowKit.intOf]; omega⟩
        | true =>
          by_cases r2 : (D : Int) ≤ x
          case pos =>
            go_wp2_with fail
            go_quiet (fail)
            go_wp2_with fail
            go_ret
            exact ⟨rfl, HE.out.trans (below_drewN _ _)⟩
          have r2' : decide ((D : Int) ≤ x) = false := decide_eq_false r2
          by_cases r3 : (D : Int) ≤ y
          case pos =>
            go_wp2_with fail
            go_quiet (fail)
            go_wp2_with fail
            go_ret
            exact ⟨rfl, HE.out.trans (below_drewN _ _)⟩
          have r3' : decide ((D : Int) ≤ y) = false := decide_eq_false r3
          by_cases r4 : x = y
          case pos =>
            have r4' : (x == y) = true := beq_iff_eq.2 r4
            clear r4
            go_wp2_with fail
            go_quiet (fail)
            go_wp2_with fail
            go_ret
            exact ⟨rfl, HE.out.trans (below_drewN _ _)⟩
          have r4' : (x == y) = false := beq_eq_false_iff_ne.2 r4
          go_wp2_with fail
          go_quiet (fail)
          go_wp2_with fail
          go_loopw [11] (fun i wq => ∃ e : Nat, e ≤ k ∧ i = .int .i64 e ∧ Hid (Below w3.heap.size w3 wq) ∧ Hid (∀ f, f < e → bs f = true → ¬ Pair (xs f) (ys f) x y)) (fun i _ => k - (RowKit.intOf i).toNat)
          case atStart => exact ⟨0, by omega, rfl, HB.out.trans (below_drewN _ _), fun f hf => absurd hf (Nat.not_lt_zero f)⟩
          case round =>
            obtain ⟨e, he, rfl, HQ, HP⟩ := hrel
            have HEQ : Hid (Below w.heap.size w wr) := B3.out.trans (HQ.out.mono B3.out.size)
            by_cases hle : e < k
            case pos =>
              clear d0 d1 d2 HB HE
              obtain ⟨_, e0, g0⟩ := M0.out.at HQ.out hlt
              cases e0
              obtain ⟨_, e1, g1⟩ := M1.out.at HQ.out hlt
              cases e1
              obtain ⟨_, e2, g2⟩ := M2.out.at HQ.out hlt
              cases e2
              have d0 : wr.cell? (p0.add k) = some (.int .i64 x) := (g0 k hlt).trans (by rw [HX.out]; rfl)
              have d1 : wr.cell? (p1.add k) = some (.int .i64 y) := (g1 k hlt).trans (by rw [HY.out]; rfl)
              have f0 : wr.cell? (p0.add e) = some (.int .i64 (xs e)) := g0 e (by omega)
              have f1 : wr.cell? (p1.add e) = some (.int .i64 (ys e)) := g1 e (by omega)
              have f2 : wr.cell? (p2.add e) = some (.bool (bs e)) := g2 e (by omega)
              obtain ⟨u, hu⟩ : ∃ u, u = xs e := ⟨_, rfl⟩
              obtain ⟨v, hv⟩ : ∃ v, v = ys e := ⟨_, rfl⟩
              obtain ⟨b, hb⟩ : ∃ b, b = bs e := ⟨_, rfl⟩
              rw [← hu] at f0
              rw [← hv] at f1
              rw [← hb] at f2
              have HU : Hid (u = xs e) := hu
              have HVV : Hid (v = ys e) := hv
              have HBE : Hid (b = bs e) := hb
              clear hu hv hb g0 g1 g2
              cases b with
              | false =>
                go_wp2_with fail
                go_quiet (fail)
                go_wp2_with fail
                exact ⟨⟨e + 1, by omega, by go_num, HQ.out.trans (below_drewN _ _), fun f hf hbf => by
                  by_cases ef : f = e
                  · rw [ef, ← HBE.out] at hbf; cases hbf
                  · exact HP.out f (by omega) hbf⟩, by simp [RowKit.intOf]; omega⟩
              | true =>
                by_cases hp : Pair u v x y
                case pos =>
                  have HPP : Hid (Pair u v x y) := hp
                  clear hp
                  go_wp2_with fail
                  go_quiet (first | (go_at_call 10; refine Calls.quiet_of_same (same_true HPP.out _)))
                  go_wp2_with fail
                  go_ret
                  exact ⟨rfl, HEQ.out.trans (below_drewN _ _)⟩
                case neg =>
                  have HPP : Hid (¬ Pair u v x y) := hp
                  clear hp
                  go_wp2_with fail
                  go_quiet (first | (go_at_call 10; refine Calls.quiet_of_same (same_false HPP.out _)))
                  go_wp2_with fail
                  exact ⟨⟨e + 1, by omega, by go_num, HQ.out.trans (below_drewN _ _), fun f hf hbf => by
                    by_cases ef : f = e
                    · rw [ef, ← HU.out, ← HVV.out]; exact HPP.out
                    · exact HP.out f (by omega) hbf⟩, by simp [RowKit.intOf]; omega⟩
            case neg =>
              go_wp2_with fail
              exact ⟨⟨k + 1, by omega, by go_num, HQ.out, valid_step HV.out (by rw [← HX.out]; omega) (by rw [← HY.out]; omega) (fun _ => ⟨by rw [← HX.out]; omega, by rw [← HY.out]; omega, by rw [← HX.out, ← HY.out]; exact r4, fun f hf => by rw [← HX.out, ← HY.out]; exact HP.out f (by omega)⟩)⟩, by simp [RowKit.intOf]; omega⟩
      case neg =>
        obtain rfl : k = n0 := by omega
        obtain ⟨w4, rfl⟩ : ∃ w4, w4 = wr := ⟨_, rfl⟩
        have N0 : Hid (Lies w4 b0 k (ints xs)) := M0.out.below' HB.out
        have N1 : Hid (Lies w4 b1 k (ints ys)) := M1.out.below' HB.out
        have N2 : Hid (Lies w4 b2 k (bools bs)) := M2.out.below' HB.out
        clear M0 M1 M2 HB B3 Z0 Z1 Z2
        go_wp2_with fail
        refine (new_calls D w4 (by omega)).mono ?_
        rintro e w5 ⟨J, O, slot, ix, τ, rfl, hj, hb5⟩
        have HJ : Hid (∃ O slot ix τ, Jn w4.heap.size J D (adj (cabs xs ys bs 0)) w5 O slot ix τ) := ⟨O, slot, ix, τ, hj⟩
        have HB5 : Hid (Below w4.heap.size w4 w5) := hb5
        clear hj hb5 O slot ix τ
        go_wp2_with fail
        go_loopw [13] (fun i wr => ∃ j : Nat, j ≤ k ∧ i = .int .i64 j ∧ Hid (∃ O slot ix τ, Jn w4.heap.size J D (adj (cabs xs ys bs j)) wr O slot ix τ) ∧ Hid (Below w4.heap.size w4 wr)) (fun i _ => k - (RowKit.intOf i).toNat)
        case atStart => exact ⟨0, by omega, rfl, HJ, HB5⟩
        case round =>
          clear HJ HB5
          obtain ⟨j, hj, rfl, HJJ, HBB⟩ := hrel
          obtain ⟨w6, rfl⟩ : ∃ w6, w6 = wr := ⟨_, rfl⟩
          have HEE : Hid (Below w.heap.size w w6) := HE.out.trans (HBB.out.mono HE.out.size)
          by_cases hlj : j < k
          case neg =>
            go_wp2_with fail
            go_ret
            exact ⟨rfl, HEE.out⟩
          case pos =>
            obtain ⟨p0, rfl, g0⟩ := N0.out.at HBB.out hlj
            obtain ⟨p1, rfl, g1⟩ := N1.out.at HBB.out hlj
            obtain ⟨p2, rfl, g2⟩ := N2.out.at HBB.out hlj
            obtain ⟨v1, v2, v3⟩ := HV.out j hlj
            have hx9 := HXS.out j hlj
            have hy9 := HYS.out j hlj
            have d0 : w6.cell? (p0.add j) = some (.int .i64 (xs j)) := g0 j hlj
            have d1 : w6.cell? (p1.add j) = some (.int .i64 (ys j)) := g1 j hlj
            have d2 : w6.cell? (p2.add j) = some (.bool (bs j)) := g2 j hlj
            obtain ⟨x, hx⟩ : ∃ x : Nat, xs j = (x : Int) := ⟨(xs j).toNat, by omega⟩
            obtain ⟨y, hy⟩ : ∃ y : Nat, ys j = (y : Int) := ⟨(ys j).toNat, by omega⟩
            obtain ⟨b, hb⟩ : ∃ b, b = bs j := ⟨_, rfl⟩
            rw [hx] at d0 hx9
            rw [hy] at d1 hy9
            rw [← hb] at d2
            rw [hx, hy, ← hb] at v3
            have HX : Hid (xs j = (x : Int)) := hx
            have HY : Hid (ys j = (y : Int)) := hy
            have HBJ : Hid (b = bs j) := hb
            have HV3 : Hid (b = true → (x : Int) < D ∧ (y : Int) < D) := fun e => ⟨(v3 e).1, (v3 e).2.1⟩
            have hsz := HBB.out.size
            clear hx hy hb g0 g1 g2 v1 v2 v3
            cases b with
            | true =>
              obtain ⟨hxD, hyD⟩ := HV3.out rfl
              have HC : Hid (∃ O ix, Calls Try.prog 12 #[.pointer (some ⟨J, 0, none⟩), .int .i64 x, .int .i64 y, .int .i64 j] w6 fun e w' => e = .returned (.tuple #[]) ∧ Added w4.heap.size J D (put (adj (cabs xs ys bs j)) (x, y, j)) O ix w6 w') := by
                obtain ⟨O, slot, ix, τ, hjn⟩ := HJJ.out
                have l1 := adj_len (cabs xs ys bs j) x
                have l2 := adj_len (cabs xs ys bs j) y
                have l3 := cabs_len xs ys bs j
                exact ⟨O, ix, add_calls w4.heap.size J D (adj (cabs xs ys bs j)) w6 O slot ix τ hjn hsz x y j (by omega) (by omega) (by omega) (by omega) (by omega) (by omega)⟩
              go_wp2_with fail
              obtain ⟨O, ix, hC⟩ := HC.out
              refine hC.mono ?_
              rintro e w7 ⟨rfl, ⟨slot, τ, hjn⟩, hb7⟩
              have HJ7 : Hid (∃ O slot ix τ, Jn w4.heap.size J D (adj (cabs xs ys bs (j + 1))) w7 O slot ix τ) := ⟨O, slot, ix, τ, by rw [adj_add HBJ.out.symm, HX.out, HY.out]; exact hjn⟩
              have HB7 : Hid (Below w4.heap.size w4 w7) := HBB.out.trans hb7
              clear hjn hb7 hC HC
              go_wp2_with fail
              exact ⟨⟨j + 1, by omega, by go_num, HJ7, HB7⟩, by simp [RowKit.intOf]; omega⟩
            | false =>
              go_wp2_with fail
              go_loopw [16, 17, 18] (fun a b i wr => ∃ (e : Nat) (V : Option Nat), e ≤ j ∧ i = .int .i64 e ∧ a = .int .i64 ((V.getD 0 : Nat) : Int) ∧ b = .bool V.isSome ∧ Hid (V = scan (cabs xs ys bs e) x y) ∧ Hid (Below w6.heap.size w6 wr)) (fun _ _ i _ => j - (RowKit.intOf i).toNat)
              case atStart => exact ⟨0, none, by omega, rfl, rfl, rfl, rfl, ⟨rfl, rfl, rfl, Nat.le_refl _, fun _ _ => rfl⟩⟩
              case round =>
                obtain ⟨e, V, he, rfl, rfl, rfl, HVS, HQ⟩ := hrel
                have HQ4 : Hid (Below w4.heap.size w4 wr) := HBB.out.trans (HQ.out.mono HBB.out.size)
                by_cases hle : e < j
                case pos =>
                  clear d0 d1 d2
                  obtain ⟨_, e0, g0⟩ := N0.out.at HQ4.out hlj
                  cases e0
                  obtain ⟨_, e1, g1⟩ := N1.out.at HQ4.out hlj
                  cases e1
                  obtain ⟨_, e2, g2⟩ := N2.out.at HQ4.out hlj
                  cases e2
                  obtain ⟨v1, v2, _⟩ := HV.out e (by omega)
                  have f0 : wr.cell? (p0.add e) = some (.int .i64 (xs e)) := g0 e (by omega)
                  have f1 : wr.cell? (p1.add e) = some (.int .i64 (ys e)) := g1 e (by omega)
                  have f2 : wr.cell? (p2.add e) = some (.bool (bs e)) := g2 e (by omega)
                  obtain ⟨u, hu⟩ : ∃ u, u = xs e := ⟨_, rfl⟩
                  obtain ⟨v, hv⟩ : ∃ v, v = ys e := ⟨_, rfl⟩
                  obtain ⟨b, hb⟩ : ∃ b, b = bs e := ⟨_, rfl⟩
                  rw [← hu] at f0
                  rw [← hv] at f1
                  rw [← hb] at f2
                  have HU : Hid (u = xs e) := hu
                  have HVV : Hid (v = ys e) := hv
                  have HBE : Hid (b = bs e) := hb
                  have V1 : Hid (0 ≤ xs e) := v1
                  have V2 : Hid (0 ≤ ys e) := v2
                  clear hu hv hb g0 g1 g2 v1 v2
                  cases b with
                  | false =>
                    go_wp2_with fail
                    go_quiet (fail)
                    go_wp2_with fail
                    exact ⟨⟨e + 1, V, by omega, by go_num, rfl, rfl, HVS.out.trans (scan_skip HBE.out.symm).symm, HQ.out.trans (below_drewN _ _)⟩, by simp [RowKit.intOf]; omega⟩
                  | true =>
                    by_cases hp : Pair u v x y
                    case pos =>
                      have HPP : Hid (Pair u v x y) := hp
                      have HVN : Hid (some e = scan (cabs xs ys bs (e + 1)) x y) := (scan_add V1.out V2.out HBE.out.symm (by rw [← HU.out, ← HVV.out]; exact hp)).symm
                      clear hp
                      go_wp2_with fail
                      go_quiet (first | (go_at_call 10; refine Calls.quiet_of_same (same_true HPP.out _)))
                      go_wp2_with fail
                      exact ⟨⟨e + 1, some e, by omega, by go_num, rfl, rfl, HVN.out, HQ.out.trans (below_drewN _ _)⟩, by simp [RowKit.intOf]; omega⟩
                    case neg =>
                      have HPP : Hid (¬ Pair u v x y) := hp
                      have HVN : Hid (V = scan (cabs xs ys bs (e + 1)) x y) := HVS.out.trans (scan_not V1.out V2.out (by rw [← HU.out, ← HVV.out]; exact hp)).symm
                      clear hp
                      go_wp2_with fail
                      go_quiet (first | (go_at_call 10; refine Calls.quiet_of_same (same_false HPP.out _)))
                      go_wp2_with fail
                      exact ⟨⟨e + 1, V, by omega, by go_num, rfl, rfl, HVN.out, HQ.out.trans (below_drewN _ _)⟩, by simp [RowKit.intOf]; omega⟩
                case neg =>
                  obtain rfl : j = e := by omega
                  have HC : Hid (Calls Try.prog 13 #[.pointer (some ⟨J, 0, none⟩), .int .i64 x, .int .i64 y] wr fun e w' => FindPost w4.heap.size J D (adj (cabs xs ys bs j)) V wr e w') := by
                    obtain ⟨O, slot, ix, τ, hjn⟩ := HJJ.out
                    have l3 := cabs_len xs ys bs j
                    rw [HVS.out]
                    exact find13_calls w4.heap.size J D (cabs xs ys bs j) wr O slot ix τ (hjn.below HQ.out) (cabs_good HV.out j (by omega)) (cabs_in HV.out (by omega) (by omega)) (by omega) x y (by omega) HQ4.out.size (by omega) (by omega)
                  clear HVS
                  cases V with
                  | none =>
                    go_wp2_with fail
                    refine HC.out.mono ?_
                    rintro e w7 ⟨rfl, hj7, hb7⟩
                    have HJ7 : Hid (∃ O slot ix τ, Jn w4.heap.size J D (adj (cabs xs ys bs (j + 1))) w7 O slot ix τ) := by rw [adj_skip HBJ.out.symm]; exact hj7
                    have HB7 : Hid (Below w4.heap.size w4 w7) := HQ4.out.trans hb7
                    clear hj7 hb7 HC
                    go_wp2_with fail
                    exact ⟨⟨j + 1, by omega, by go_num, HJ7, HB7⟩, by simp [RowKit.intOf]; omega⟩
                  | some v =>
                    go_wp2_with fail
                    refine HC.out.mono ?_
                    rintro e w7 ⟨rfl, hj7, hb7⟩
                    have HJ7 : Hid (∃ O slot ix τ, Jn w4.heap.size J D (adj (cabs xs ys bs (j + 1))) w7 O slot ix τ) := by rw [adj_skip HBJ.out.symm]; exact hj7
                    have HB7 : Hid (Below w4.heap.size w4 w7) := HQ4.out.trans hb7
                    clear hj7 hb7 HC
                    go_wp2_with fail
                    exact ⟨⟨j + 1, by omega, by go_num, HJ7, HB7⟩, by simp [RowKit.intOf]; omega⟩
end Go.Proofs.Qxb6600523a.Jp
