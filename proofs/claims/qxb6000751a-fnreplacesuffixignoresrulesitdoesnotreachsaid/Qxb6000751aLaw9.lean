import Derived.Test.Qxb6000751aBy9
namespace Go.Proofs.Qxb6000751a.Por
open Go.ChangeShapes Go.WideShapes Go.RowKit
set_option linter.unusedVariables false

theorem Word.bs {w : World} {a : Option Addr} {n c : Nat} {bs : List Int} (h : Word w a n c bs) : Bs w a n bs :=
  ⟨h.len, h.lies.elim Or.inl (fun ⟨b, e, hb, hc, _⟩ => Or.inr ⟨b, 0, e, hb, fun i hi => by rw [Nat.zero_add]; exact hc i hi⟩)⟩

theorem below_frm {w x y : World} {a : Option Addr} (f1 : Below w.heap.size w x) (f2 : Frm (blk a) x y) (fr : ∀ p, a = some p → w.heap.size ≤ p.block) : Below w.heap.size w y :=
  ((Frm.of_below (X := blk a) f1).andThen f2 (fun _ _ h => h)).to_below (Nat.le_refl _) (fun k hk ⟨p, e, e'⟩ => by have := fr p e; omega)

theorem below_next {w x y : World} (f1 : Below w.heap.size w x) (f2 : Below x.heap.size x y) : Below w.heap.size w y := f1.trans (f2.mono f1.size)

theorem below_drewN {B : Nat} {a w : World} (h : Below B a w) (n : Nat) : Below B a (w.drewN n) := ⟨h.os, h.tape, h.output, h.size, h.block⟩

theorem lies_strs {w w' : World} {a : Option Addr} {ss : List ByteArray} (h : Lies w a ss) (f : Below w.heap.size w w') (ht : total ss ≤ 1048576) : Strs w' a ss :=
  Strs.below ⟨h, fun s hs => Nat.le_trans (size_le_total hs) ht⟩ f

theorem rs_high (bs : List Int) (t : Int) (h : ((bs.length / 2 : Nat) : Int) ≤ t) : ∀ rules, rs bs t rules = bs
  | [] => rfl
  | p :: rest => by
    rw [rs, rs_high bs t h rest]
    have e : ¬ t < (turns bs (bs.length - p.1.size) : Int) := by
      have := turns_half bs (bs.length - p.1.size)
      omega
    rw [if_neg e]
    split
    · split <;> rfl
    · rfl

set_option maxHeartbeats 4000000 in
theorem law9 (a a1 a2 : Option Addr) (n c m1 c1 m2 c2 : Nat) (bs : List Int) (ss rr : List ByteArray) (t : Int) (w : World) (hb : Bs w a n bs) (ha : a = none → n = 0 ∧ c = 0)
    (h1 : Lies w a1 ss) (l1 : ss.length = m1) (ha1 : a1 = none → m1 = 0 ∧ c1 = 0) (h2 : Lies w a2 rr) (l2 : rr.length = m2) (ha2 : a2 = none → m2 = 0 ∧ c2 = 0) :
    Calls Try.prog 9 #[.slice a n c, .slice a1 m1 c1, .slice a2 m2 c2, .int .i64 t] w fun e w' => e = .returned (.bool true) ∧ Below w.heap.size w w' := by
  have HB : Hid (Bs w a n bs) := hb
  have HA : Hid (a = none → n = 0 ∧ c = 0) := ha
  have H1 : Hid (Lies w a1 ss) := h1
  have L1 : Hid (ss.length = m1) := l1
  have HA1 : Hid (a1 = none → m1 = 0 ∧ c1 = 0) := ha1
  have H2 : Hid (Lies w a2 rr) := h2
  have L2 : Hid (rr.length = m2) := l2
  have HA2 : Hid (a2 = none → m2 = 0 ∧ c2 = 0) := ha2
  clear hb ha h1 l1 ha1 h2 l2 ha2
  go_enter Try.func9, Try.ntmps9
  go_wp2_with fail
  refine (bytes9 a a1 a2 n c m1 c1 m2 c2 ss rr t w H1.out L1.out H2.out L2.out).mono ?_
  rintro e w' ⟨r, rfl, hw, hr⟩
  obtain rfl := hw.symm
  clear hw
  cases r with
  | false =>
    go_wp2_with fail
    go_ret
    exact ⟨rfl, Below.refl _ _⟩
  | true =>
    have hN := hr rfl
    clear hr
    have hT1 : total ss ≤ 1048576 := by omega
    have hT2 : total rr ≤ 1048576 := by omega
    have hm1 : m1 ≤ 1048576 := by omega
    have hm2 : m2 ≤ 1048576 := by omega
    have hn : n ≤ 1048576 := by omega
    have HT1 : Hid (total ss ≤ 1048576) := hT1
    have HT2 : Hid (total rr ≤ 1048576) := hT2
    obtain ⟨T1, e1⟩ : ∃ T1, T1 = total ss := ⟨_, rfl⟩
    obtain ⟨T2, e2⟩ : ∃ T2, T2 = total rr := ⟨_, rfl⟩
    have C1 := strs_calls a1 m1 c1 ss _ ⟨H1.out, fun s hs => Nat.le_trans (size_le_total hs) hT1⟩ L1.out hm1 hT1
    have C2 := strs_calls a2 m2 c2 rr _ ⟨H2.out, fun s hs => Nat.le_trans (size_le_total hs) hT2⟩ L2.out hm2 hT2
    rw [← e1] at hT1 C1 hN
    rw [← e2] at hT2 C2 hN
    clear e1 e2
    by_cases g1 : 4096 < n
    · go_wp2_with fail
      go_ret
      exact ⟨rfl, Below.refl _ _⟩
    by_cases g2 : 65536 < m1
    · go_wp2_with fail
      go_ret
      exact ⟨rfl, Below.refl _ _⟩
    by_cases g3 : 65536 < m2
    · go_wp2_with fail
      go_ret
      exact ⟨rfl, Below.refl _ _⟩
    go_wp2_with fail
    refine C1.mono ?_
    rintro e w' ⟨rfl, hw⟩
    obtain rfl := hw.symm
    clear hw
    go_wp2_with fail
    refine C2.mono ?_
    rintro e w' ⟨rfl, hw⟩
    obtain rfl := hw.symm
    clear hw
    clear C1 C2
    by_cases g4 : (1048576 : Int) < (n : Int) + (8 * (m1 : Int) + (T1 : Int)) + (8 * (m2 : Int) + (T2 : Int))
    · go_wp2_with fail
      go_ret
      exact ⟨rfl, Below.refl _ _⟩
    by_cases g5 : m1 = m2
    case neg =>
      have g5' : ((m1 : Int) != (m2 : Int)) = true := bne_iff_ne.2 (by omega)
      go_wp2_with fail
      go_ret
      exact ⟨rfl, Below.refl _ _⟩
    subst g5
    by_cases g6 : t < (n : Int) / 2
    · go_wp2_with fail
      go_ret
      exact ⟨rfl, Below.refl _ _⟩
    go_wp2_with fail
    refine (clone_calls a n c bs _ HB.out HA.out hn).mono ?_
    rintro e w1 ⟨a', rfl, hW1, hB1, hf1, hn1⟩
    have HW1 : Hid (Word w1 a' n n bs) := hW1
    have HB1 : Hid (Below w.heap.size w w1) := hB1
    have HN1 : Hid (a' = none → n = 0 ∧ n = 0) := fun e => ⟨hn1 e, hn1 e⟩
    clear hW1 hB1 hf1 hn1
    go_wp2_with fail
    refine (cloneS_calls a1 m1 c1 ss _ (lies_strs H1.out HB1.out HT1.out) L1.out HA1.out hm1).mono ?_
    rintro e w2 ⟨b1, rfl, hS1, hB2⟩
    have HS1 : Hid (Strs w2 b1 ss) := hS1
    have HB2 : Hid (Below w1.heap.size w1 w2) := hB2
    clear hS1 hB2
    go_wp2_with fail
    refine (cloneS_calls a2 m1 c2 rr _ (lies_strs H2.out (below_next HB1.out HB2.out) HT2.out) L2.out HA2.out hm1).mono ?_
    rintro e w3 ⟨b2, rfl, hS2, hB3⟩
    have HS2 : Hid (Strs w3 b2 rr) := hS2
    have HB3 : Hid (Below w2.heap.size w2 w3) := hB3
    clear hS2 hB3
    have HV3 : Hid (Bs w3 a' n bs) := HW1.out.bs.below (below_next HB2.out HB3.out)
    go_wp2_with fail
    refine (clone_calls a' n n bs _ HV3.out HN1.out hn).mono ?_
    rintro e w4 ⟨a'', rfl, hW4, hB4, hf4, hn4⟩
    have HW4 : Hid (Word w4 a'' n n bs) := hW4
    have HB4 : Hid (Below w3.heap.size w3 w4) := hB4
    have HF4 : Hid (∀ p, a'' = some p → w3.heap.size ≤ p.block) := hf4
    clear hW4 hB4 hf4 hn4
    go_wp2_with fail
    refine (zz_calls a'' b1 b2 n n m1 m1 m1 bs ss rr t _ hm1 L1.out L2.out HW4.out (HS1.out.below (below_next HB3.out HB4.out)) (HS2.out.below HB4.out)).mono ?_
    rintro e w5 ⟨ao, no, co, rfl, hO, hFr⟩
    have HO : Hid (Bs w5 ao no bs) := by
      rw [rs_high bs t (by rw [← HB.out.len]; omega)] at hO
      exact hO
    have HB5 : Hid (Below w3.heap.size w3 w5) := below_frm HB4.out hFr HF4.out
    clear hO hFr
    go_wp2_with fail
    refine (same_calls ao a' no n co n bs bs _ HO.out (HV3.out.below HB5.out) (by have := HO.out.len; have := HB.out.len; omega) (by omega)).mono ?_
    rintro e w6 ⟨rfl, m, hw⟩
    obtain rfl := hw.symm
    clear hw
    go_wp2_with fail
    go_ret
    exact ⟨rfl, below_drewN (below_next (below_next HB1.out (below_next HB2.out HB3.out)) HB5.out) _⟩
end Go.Proofs.Qxb6000751a.Por
