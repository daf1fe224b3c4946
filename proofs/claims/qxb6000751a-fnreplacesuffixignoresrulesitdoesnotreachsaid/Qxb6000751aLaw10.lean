import Derived.Test.Qxb6000751aBy10
import Derived.Test.Qxb6000751aLaw9
namespace Go.Proofs.Qxb6000751a.Por
open Go.ChangeShapes Go.WideShapes Go.RowKit
set_option linter.unusedVariables false

theorem rs_keeps (bs : List Int) (hi lo : Int) (h : lo ≤ hi) : ∀ rules, rs bs hi rules = bs ∨ rs bs lo rules = rs bs hi rules
  | [] => Or.inl rfl
  | p :: rest => by
    rw [rs, rs]
    by_cases e : endsB bs p.1 = true
    · rw [if_pos e, if_pos e]
      by_cases i : ionNo p.1 (bs.getD (bs.length - p.1.size - 1) 0) = true
      · left; rw [if_pos i]
      · rw [if_neg i, if_neg i]
        by_cases k : hi < (turns bs (bs.length - p.1.size) : Int)
        · right; rw [if_pos k, if_pos (by omega)]
        · left; rw [if_neg k]
    · rw [if_neg e, if_neg e]
      exact rs_keeps bs hi lo h rest

theorem rs_len (bs : List Int) (t : Int) (B : Nat) : ∀ rules : List (ByteArray × ByteArray), (∀ p ∈ rules, p.2.size ≤ B) → (rs bs t rules).length ≤ bs.length + B
  | [], _ => by rw [rs]; omega
  | p :: rest, h => by
    have h1 := h p (List.mem_cons_self ..)
    have h2 := rs_len bs t B rest (fun q hq => h q (List.mem_cons_of_mem _ hq))
    have h3 := nums_length p.2
    rw [rs]
    split
    · split
      · omega
      · split
        · rw [List.length_append, List.length_take]; omega
        · omega
    · exact h2

theorem zip_small {ss rr : List ByteArray} {B : Nat} (h : total rr ≤ B) : ∀ p ∈ ss.zip rr, p.2.size ≤ B := fun p hp => Nat.le_trans (size_le_total (List.of_mem_zip hp).2) h

set_option maxHeartbeats 4000000 in
theorem law10 (a a1 a2 : Option Addr) (n c m1 c1 m2 c2 : Nat) (bs : List Int) (ss rr : List ByteArray) (hi lo : Int) (w : World) (hb : Bs w a n bs) (ha : a = none → n = 0 ∧ c = 0)
    (h1 : Lies w a1 ss) (l1 : ss.length = m1) (ha1 : a1 = none → m1 = 0 ∧ c1 = 0) (h2 : Lies w a2 rr) (l2 : rr.length = m2) (ha2 : a2 = none → m2 = 0 ∧ c2 = 0) :
    Calls Try.prog 10 #[.slice a n c, .slice a1 m1 c1, .slice a2 m2 c2, .int .i64 hi, .int .i64 lo] w fun e w' => e = .returned (.bool true) ∧ Below w.heap.size w w' := by
  have HB : Hid (Bs w a n bs) := hb
  have HA : Hid (a = none → n = 0 ∧ c = 0) := ha
  have H1 : Hid (Lies w a1 ss) := h1
  have L1 : Hid (ss.length = m1) := l1
  have HA1 : Hid (a1 = none → m1 = 0 ∧ c1 = 0) := ha1
  have H2 : Hid (Lies w a2 rr) := h2
  have L2 : Hid (rr.length = m2) := l2
  have HA2 : Hid (a2 = none → m2 = 0 ∧ c2 = 0) := ha2
  clear hb ha h1 l1 ha1 h2 l2 ha2
  go_enter Try.func10, Try.ntmps10
  go_wp2_with fail
  refine (bytes10 a a1 a2 n c m1 c1 m2 c2 ss rr hi lo w H1.out L1.out H2.out L2.out).mono ?_
  rintro e w' ⟨r, rfl, hw, hr⟩
  obtain rfl := hw.symm
  clear hw
  cases r with
  | false =>
    go_wp2_with fail
    go_ret
    exact ⟨rfl, Below.refl _ _⟩
  | true =>
    have hN := hr rfl
    clear hr
    have hT1 : total ss ≤ 1048576 := by omega
    have hT2 : total rr ≤ 1048576 := by omega
    have hm1 : m1 ≤ 1048576 := by omega
    have hm2 : m2 ≤ 1048576 := by omega
    have hn : n ≤ 1048576 := by omega
    have HT1 : Hid (total ss ≤ 1048576) := hT1
    have HT2 : Hid (total rr ≤ 1048576) := hT2
    obtain ⟨T1, e1⟩ : ∃ T1, T1 = total ss := ⟨_, rfl⟩
    obtain ⟨T2, e2⟩ : ∃ T2, T2 = total rr := ⟨_, rfl⟩
    have C1 := strs_calls a1 m1 c1 ss _ ⟨H1.out, fun s hs => Nat.le_trans (size_le_total hs) hT1⟩ L1.out hm1 hT1
    have C2 := strs_calls a2 m2 c2 rr _ ⟨H2.out, fun s hs => Nat.le_trans (size_le_total hs) hT2⟩ L2.out hm2 hT2
    rw [← e1] at hT1 C1 hN
    rw [← e2] at hT2 C2 hN
    clear e1 e2
    by_cases g1 : 4096 < n
    · go_wp2_with fail
      go_ret
      exact ⟨rfl, Below.refl _ _⟩
    by_cases g2 : 65536 < m1
    · go_wp2_with fail
      go_ret
      exact ⟨rfl, Below.refl _ _⟩
    by_cases g3 : 65536 < m2
    · go_wp2_with fail
      go_ret
      exact ⟨rfl, Below.refl _ _⟩
    go_wp2_with fail
    refine C1.mono ?_
    rintro e w' ⟨rfl, hw⟩
    obtain rfl := hw.symm
    clear hw
    go_wp2_with fail
    refine C2.mono ?_
    rintro e w' ⟨rfl, hw⟩
    obtain rfl := hw.symm
    clear hw
    clear C1 C2
    by_cases g4 : (1048576 : Int) < (n : Int) + (8 * (m1 : Int) + (T1 : Int)) + (8 * (m2 : Int) + (T2 : Int))
    · go_wp2_with fail
      go_ret
      exact ⟨rfl, Below.refl _ _⟩
    by_cases g5 : m1 = m2
    case neg =>
      have g5' : ((m1 : Int) != (m2 : Int)) = true := bne_iff_ne.2 (by omega)
      go_wp2_with fail
      go_ret
      exact ⟨rfl, Below.refl _ _⟩
    subst g5
    by_cases g6 : hi < lo
    · go_wp2_with fail
      go_ret
      exact ⟨rfl, Below.refl _ _⟩
    go_wp2_with fail
    refine (clone_calls a n c bs _ HB.out HA.out hn).mono ?_
    rintro e w1 ⟨a', rfl, hW1, hB1, hf1, hn1⟩
    have HW1 : Hid (Word w1 a' n n bs) := hW1
    have HB1 : Hid (Below w.heap.size w w1) := hB1
    have HN1 : Hid (a' = none → n = 0 ∧ n = 0) := fun e => ⟨hn1 e, hn1 e⟩
    clear hW1 hB1 hf1 hn1
    go_wp2_with fail
    refine (cloneS_calls a1 m1 c1 ss _ (lies_strs H1.out HB1.out HT1.out) L1.out HA1.out hm1).mono ?_
    rintro e w2 ⟨b1, rfl, hS1, hB2⟩
    have HS1 : Hid (Strs w2 b1 ss) := hS1
    have HB2 : Hid (Below w1.heap.size w1 w2) := hB2
    clear hS1 hB2
    go_wp2_with fail
    refine (cloneS_calls a2 m1 c2 rr _ (lies_strs H2.out (below_next HB1.out HB2.out) HT2.out) L2.out HA2.out hm1).mono ?_
    rintro e w3 ⟨b2, rfl, hS2, hB3⟩
    have HS2 : Hid (Strs w3 b2 rr) := hS2
    have HS1' : Hid (Strs w3 b1 ss) := HS1.out.below hB3
    have HB3 : Hid (Below w.heap.size w w3) := below_next HB1.out (below_next HB2.out hB3)
    have HV3 : Hid (Bs w3 a' n bs) := HW1.out.bs.below (below_next HB2.out hB3)
    clear hS2 hB3 HS1 HB1 HB2 HW1
    -- at hi
    go_wp2_with fail
    refine (clone_calls a' n n bs _ HV3.out HN1.out hn).mono ?_
    rintro e w4 ⟨a4, rfl, hW4, hB4, hf4, hn4⟩
    have HW4 : Hid (Word w4 a4 n n bs) := hW4
    have HB4 : Hid (Below w3.heap.size w3 w4) := hB4
    have HF4 : Hid (∀ p, a4 = some p → w3.heap.size ≤ p.block) := hf4
    clear hW4 hB4 hf4 hn4
    go_wp2_with fail
    refine (zz_calls a4 b1 b2 n n m1 m1 m1 bs ss rr hi _ hm1 L1.out L2.out HW4.out (HS1'.out.below HB4.out) (HS2.out.below HB4.out)).mono ?_
    rintro e w5 ⟨aH, nH, cH, rfl, hO, hFr⟩
    have HH5 : Hid (Bs w5 aH nH (rs bs hi (ss.zip rr))) := hO
    have HB5 : Hid (Below w3.heap.size w3 w5) := below_frm HB4.out hFr HF4.out
    clear hO hFr HB4 HW4 HF4
    -- at lo
    go_wp2_with fail
    refine (clone_calls a' n n bs _ (HV3.out.below HB5.out) HN1.out hn).mono ?_
    rintro e w6 ⟨a6, rfl, hW6, hB6, hf6, hn6⟩
    have HW6 : Hid (Word w6 a6 n n bs) := hW6
    have HB6 : Hid (Below w5.heap.size w5 w6) := hB6
    have HF6 : Hid (∀ p, a6 = some p → w5.heap.size ≤ p.block) := hf6
    clear hW6 hB6 hf6 hn6
    go_wp2_with fail
    refine (zz_calls a6 b1 b2 n n m1 m1 m1 bs ss rr lo _ hm1 L1.out L2.out HW6.out (HS1'.out.below (below_next HB5.out HB6.out)) (HS2.out.below (below_next HB5.out HB6.out))).mono ?_
    rintro e w7 ⟨aL, nL, cL, rfl, hO, hFr⟩
    have HL7 : Hid (Bs w7 aL nL (rs bs lo (ss.zip rr))) := hO
    have HB7 : Hid (Below w5.heap.size w5 w7) := below_frm HB6.out hFr HF6.out
    clear hO hFr HB6 HW6 HF6
    have HH7 : Hid (Bs w7 aH nH (rs bs hi (ss.zip rr))) := HH5.out.below HB7.out
    have HV7 : Hid (Bs w7 a' n bs) := HV3.out.below (below_next HB5.out HB7.out)
    have HBe : Hid (Below w.heap.size w w7) := below_next HB3.out (below_next HB5.out HB7.out)
    have hnH : nH ≤ 4194304 := by
      have e1 := HH7.out.len
      have e2 := rs_len bs hi 1048576 (ss.zip rr) (zip_small HT2.out)
      have e3 := HB.out.len
      omega
    have hnL : nL ≤ 4194304 := by
      have e1 := HL7.out.len
      have e2 := rs_len bs lo 1048576 (ss.zip rr) (zip_small HT2.out)
      have e3 := HB.out.len
      omega
    have HK : Hid (rs bs hi (ss.zip rr) = bs ∨ rs bs lo (ss.zip rr) = rs bs hi (ss.zip rr)) := rs_keeps bs hi lo (by omega) _
    obtain ⟨X, hX⟩ : ∃ X, X = rs bs hi (ss.zip rr) := ⟨_, rfl⟩
    obtain ⟨Y, hY⟩ : ∃ Y, Y = rs bs lo (ss.zip rr) := ⟨_, rfl⟩
    rw [← hX] at HH7
    rw [← hY] at HL7
    rw [← hX, ← hY] at HK
    clear hX hY HH5 HB5 HB7 HV3
    go_wp2_with fail
    have CS1 := same_calls aH a' nH n cH n X bs w7 HH7.out HV7.out hnH (by omega)
    cases hxb : (X == bs) with
    | true =>
      rw [hxb] at CS1
      clear hxb
      refine CS1.mono ?_
      rintro e w8 ⟨rfl, m, hw⟩
      obtain rfl := hw.symm
      clear hw CS1
      go_wp2_with fail
      go_ret
      exact ⟨rfl, below_drewN HBe.out _⟩
    | false =>
      rw [hxb] at CS1
      have HYX : Hid ((Y == X) = true) := by
        rcases HK.out with e | e
        · rw [e, beq_self_eq_true] at hxb; cases hxb
        · show _ = _
          rw [e, beq_self_eq_true]
      clear hxb
      refine CS1.mono ?_
      rintro e w8 ⟨rfl, m, hw⟩
      obtain rfl := hw.symm
      clear hw CS1
      have CS2 := same_calls aL aH nL nH cL cH Y X (w7.drewN m) (HL7.out.below (below_drewN (Below.refl _ _) m)) (HH7.out.below (below_drewN (Below.refl _ _) m)) hnL hnH
      rw [HYX.out] at CS2
      go_wp2_with fail
      refine CS2.mono ?_
      rintro e w9 ⟨rfl, m', hw⟩
      obtain rfl := hw.symm
      clear hw CS2
      go_wp2_with fail
      go_ret
      exact ⟨rfl, below_drewN HBe.out _⟩
end Go.Proofs.Qxb6000751a.Por
