import Derived.Test.Qxb6000751aUnm
import Derived.Test.Qxb6000751aBy11
namespace Go.Proofs.Qxb6000751a.Por
open Go.ChangeShapes Go.WideShapes Go.RowKit
set_option linter.unusedVariables false

theorem rs_unmatched (bs : List Int) (t : Int) : ∀ (K R : List (ByteArray × ByteArray)), (∀ p ∈ K, endsB bs p.1 = false) → rs bs t (K ++ R) = rs bs t R
  | [], R, _ => rfl
  | p :: K, R, h => by
    rw [List.cons_append, rs, h p (List.mem_cons_self ..)]
    exact rs_unmatched bs t K R (fun q hq => h q (List.mem_cons_of_mem _ hq))

theorem kept_none (bs : List Int) (R : List (ByteArray × ByteArray)) : ∀ p ∈ kept bs R, endsB bs p.1 = false := fun p hp => by
  have := (List.mem_filter.1 hp).2
  simpa using this

theorem rs_hit (bs : List Int) (t : Int) : ∀ (R X : List (ByteArray × ByteArray)), (∃ p, p ∈ R ∧ endsB bs p.1 = true) → rs bs t (R ++ X) = rs bs t R
  | [], X, ⟨p, hp, _⟩ => by cases hp
  | q :: R, X, ⟨p, hp, he⟩ => by
    rw [List.cons_append, rs, rs]
    by_cases e : endsB bs q.1 = true
    · rw [if_pos e, if_pos e]
    · rw [if_neg e, if_neg e]
      rcases List.mem_cons.1 hp with h | h
      · rw [h] at he; exact absurd he e
      · exact rs_hit bs t R X ⟨p, h, he⟩

def fstB (p : ByteArray × ByteArray) : ByteArray := p.1
def sndB (p : ByteArray × ByteArray) : ByteArray := p.2
theorem zip_unzip : ∀ K : List (ByteArray × ByteArray), (K.map fstB).zip (K.map sndB) = K
  | [] => rfl
  | p :: K => by rw [List.map_cons, List.map_cons, List.zip_cons_cons, zip_unzip K]; rfl

theorem zip_app {a b c d : List ByteArray} (h : a.length = c.length) : (a ++ b).zip (c ++ d) = a.zip c ++ b.zip d := List.zip_append h

theorem zip_has {ss rr : List ByteArray} (h : ss.length = rr.length) {s : ByteArray} (hs : s ∈ ss) : ∃ p, p ∈ ss.zip rr ∧ p.1 = s := by
  obtain ⟨i, hi, e⟩ := List.getElem_of_mem hs
  refine ⟨(ss[i], rr[i]'(by omega)), ?_, e⟩
  have hz : i < (ss.zip rr).length := by rw [List.length_zip]; omega
  have : (ss.zip rr)[i] = (ss[i], rr[i]'(by omega)) := List.getElem_zip ..
  rw [← this]
  exact List.getElem_mem hz

theorem any_take (bs : List Int) (ss : List ByteArray) (k : Nat) (h : k < ss.length) : (ss.take (k + 1)).any (endsB bs) = ((ss.take k).any (endsB bs) || endsB bs (ss.getD k ⟨#[]⟩)) := by
  rw [take_snoc ss k h, List.any_append]
  simp

theorem Word.below {w w' : World} {a : Option Addr} {n c : Nat} {bs : List Int} (h : Word w a n c bs) (f : Below w.heap.size w w') : Word w' a n c bs :=
  ⟨h.len, h.small, h.cap, h.lies.elim Or.inl (fun ⟨b, e, hb, hc, hs⟩ => Or.inr ⟨b, e, Nat.lt_of_lt_of_le hb f.size, fun i hi => (f.cell (p := ⟨b, i, none⟩) hb).trans (hc i hi), fun j hj => spare_below f hb (hs j hj)⟩)⟩
theorem strs_nil (w : World) : Strs w none [] := ⟨Or.inl rfl, fun s hs => by cases hs⟩
theorem Strs.drewN {w : World} {a : Option Addr} {ss : List ByteArray} (h : Strs w a ss) (m : Nat) : Strs (w.drewN m) a ss := h.below (below_drewN (Below.refl _ _) m)

set_option maxHeartbeats 16000000 in
set_option maxRecDepth 100000 in
theorem law11 (a a1 a2 a3 a4 a5 a6 : Option Addr) (n c m1 c1 m2 c2 m3 c3 m4 c4 m5 c5 m6 c6 : Nat) (bs : List Int) (ss1 ss2 ss3 ss4 ss5 ss6 : List ByteArray) (t : Int) (w : World) (hb : Bs w a n bs) (hby : bytesIn bs) (ha : a = none → n = 0 ∧ c = 0)
    (h1 : Lies w a1 ss1) (l1 : ss1.length = m1) (ha1 : a1 = none → m1 = 0 ∧ c1 = 0) (h2 : Lies w a2 ss2) (l2 : ss2.length = m2) (ha2 : a2 = none → m2 = 0 ∧ c2 = 0) (h3 : Lies w a3 ss3) (l3 : ss3.length = m3) (ha3 : a3 = none → m3 = 0 ∧ c3 = 0) (h4 : Lies w a4 ss4) (l4 : ss4.length = m4) (ha4 : a4 = none → m4 = 0 ∧ c4 = 0) (h5 : Lies w a5 ss5) (l5 : ss5.length = m5) (ha5 : a5 = none → m5 = 0 ∧ c5 = 0) (h6 : Lies w a6 ss6) (l6 : ss6.length = m6) (ha6 : a6 = none → m6 = 0 ∧ c6 = 0) :
    Calls Try.prog 11 #[.slice a n c, .slice a1 m1 c1, .slice a2 m2 c2, .slice a3 m3 c3, .slice a4 m4 c4, .slice a5 m5 c5, .slice a6 m6 c6, .int .i64 t] w fun e w' => e = .returned (.bool true) ∧ Below w.heap.size w w' := by
  have HB : Hid (Bs w a n bs) := hb
  have HA : Hid (a = none → n = 0 ∧ c = 0) := ha
  have H1 : Hid (Lies w a1 ss1) := h1
  have L1 : Hid (ss1.length = m1) := l1
  have HA1 : Hid (a1 = none → m1 = 0 ∧ c1 = 0) := ha1
  have H2 : Hid (Lies w a2 ss2) := h2
  have L2 : Hid (ss2.length = m2) := l2
  have HA2 : Hid (a2 = none → m2 = 0 ∧ c2 = 0) := ha2
  have H3 : Hid (Lies w a3 ss3) := h3
  have L3 : Hid (ss3.length = m3) := l3
  have HA3 : Hid (a3 = none → m3 = 0 ∧ c3 = 0) := ha3
  have H4 : Hid (Lies w a4 ss4) := h4
  have L4 : Hid (ss4.length = m4) := l4
  have HA4 : Hid (a4 = none → m4 = 0 ∧ c4 = 0) := ha4
  have H5 : Hid (Lies w a5 ss5) := h5
  have L5 : Hid (ss5.length = m5) := l5
  have HA5 : Hid (a5 = none → m5 = 0 ∧ c5 = 0) := ha5
  have H6 : Hid (Lies w a6 ss6) := h6
  have L6 : Hid (ss6.length = m6) := l6
  have HA6 : Hid (a6 = none → m6 = 0 ∧ c6 = 0) := ha6
  clear hb ha h1 l1 ha1 h2 l2 ha2 h3 l3 ha3 h4 l4 ha4 h5 l5 ha5 h6 l6 ha6
  go_enter Try.func11, Try.ntmps11
  go_wp2_with fail
  refine (bytes11 a a1 a2 a3 a4 a5 a6 n c m1 c1 m2 c2 m3 c3 m4 c4 m5 c5 m6 c6 ss1 ss2 ss3 ss4 ss5 ss6 t w H1.out L1.out H2.out L2.out H3.out L3.out H4.out L4.out H5.out L5.out H6.out L6.out).mono ?_
  rintro e w' ⟨r, rfl, hw, hr⟩
  obtain rfl := hw.symm
  clear hw
  cases r with
  | false =>
    go_wp2_with fail
    go_ret
    exact ⟨rfl, Below.refl _ _⟩
  | true =>
    have hN := hr rfl
    clear hr
    have hn : n ≤ 1048576 := by omega
    have hm1 : m1 ≤ 1048576 := by omega
    have hT1 : total ss1 ≤ 1048576 := by omega
    have HT1 : Hid (total ss1 ≤ 1048576) := hT1
    obtain ⟨T1, e1⟩ : ∃ T, T = total ss1 := ⟨_, rfl⟩
    have C1 := strs_calls a1 m1 c1 ss1 _ ⟨H1.out, fun s hs => Nat.le_trans (size_le_total hs) hT1⟩ L1.out hm1 hT1
    rw [← e1] at hT1 C1 hN
    clear e1
    have hm2 : m2 ≤ 1048576 := by omega
    have hT2 : total ss2 ≤ 1048576 := by omega
    have HT2 : Hid (total ss2 ≤ 1048576) := hT2
    obtain ⟨T2, e2⟩ : ∃ T, T = total ss2 := ⟨_, rfl⟩
    have C2 := strs_calls a2 m2 c2 ss2 _ ⟨H2.out, fun s hs => Nat.le_trans (size_le_total hs) hT2⟩ L2.out hm2 hT2
    rw [← e2] at hT2 C2 hN
    clear e2
    have hm3 : m3 ≤ 1048576 := by omega
    have hT3 : total ss3 ≤ 1048576 := by omega
    have HT3 : Hid (total ss3 ≤ 1048576) := hT3
    obtain ⟨T3, e3⟩ : ∃ T, T = total ss3 := ⟨_, rfl⟩
    have C3 := strs_calls a3 m3 c3 ss3 _ ⟨H3.out, fun s hs => Nat.le_trans (size_le_total hs) hT3⟩ L3.out hm3 hT3
    rw [← e3] at hT3 C3 hN
    clear e3
    have hm4 : m4 ≤ 1048576 := by omega
    have hT4 : total ss4 ≤ 1048576 := by omega
    have HT4 : Hid (total ss4 ≤ 1048576) := hT4
    obtain ⟨T4, e4⟩ : ∃ T, T = total ss4 := ⟨_, rfl⟩
    have C4 := strs_calls a4 m4 c4 ss4 _ ⟨H4.out, fun s hs => Nat.le_trans (size_le_total hs) hT4⟩ L4.out hm4 hT4
    rw [← e4] at hT4 C4 hN
    clear e4
    have hm5 : m5 ≤ 1048576 := by omega
    have hT5 : total ss5 ≤ 1048576 := by omega
    have HT5 : Hid (total ss5 ≤ 1048576) := hT5
    obtain ⟨T5, e5⟩ : ∃ T, T = total ss5 := ⟨_, rfl⟩
    have C5 := strs_calls a5 m5 c5 ss5 _ ⟨H5.out, fun s hs => Nat.le_trans (size_le_total hs) hT5⟩ L5.out hm5 hT5
    rw [← e5] at hT5 C5 hN
    clear e5
    have hm6 : m6 ≤ 1048576 := by omega
    have hT6 : total ss6 ≤ 1048576 := by omega
    have HT6 : Hid (total ss6 ≤ 1048576) := hT6
    obtain ⟨T6, e6⟩ : ∃ T, T = total ss6 := ⟨_, rfl⟩
    have C6 := strs_calls a6 m6 c6 ss6 _ ⟨H6.out, fun s hs => Nat.le_trans (size_le_total hs) hT6⟩ L6.out hm6 hT6
    rw [← e6] at hT6 C6 hN
    clear e6
    by_cases g0 : 4096 < n
    · go_wp2_with fail
      go_ret
      exact ⟨rfl, Below.refl _ _⟩
    by_cases g1 : 65536 < m1
    · go_wp2_with fail
      go_ret
      exact ⟨rfl, Below.refl _ _⟩
    by_cases g2 : 65536 < m2
    · go_wp2_with fail
      go_ret
      exact ⟨rfl, Below.refl _ _⟩
    by_cases g3 : 65536 < m3
    · go_wp2_with fail
      go_ret
      exact ⟨rfl, Below.refl _ _⟩
    by_cases g4 : 65536 < m4
    · go_wp2_with fail
      go_ret
      exact ⟨rfl, Below.refl _ _⟩
    by_cases g5 : 65536 < m5
    · go_wp2_with fail
      go_ret
      exact ⟨rfl, Below.refl _ _⟩
    by_cases g6 : 65536 < m6
    · go_wp2_with fail
      go_ret
      exact ⟨rfl, Below.refl _ _⟩
    go_wp2_with fail
    refine C1.mono ?_
    rintro e w' ⟨rfl, hw⟩
    obtain rfl := hw.symm
    clear hw C1
    go_wp2_with fail
    refine C2.mono ?_
    rintro e w' ⟨rfl, hw⟩
    obtain rfl := hw.symm
    clear hw C2
    go_wp2_with fail
    refine C3.mono ?_
    rintro e w' ⟨rfl, hw⟩
    obtain rfl := hw.symm
    clear hw C3
    go_wp2_with fail
    refine C4.mono ?_
    rintro e w' ⟨rfl, hw⟩
    obtain rfl := hw.symm
    clear hw C4
    go_wp2_with fail
    refine C5.mono ?_
    rintro e w' ⟨rfl, hw⟩
    obtain rfl := hw.symm
    clear hw C5
    go_wp2_with fail
    refine C6.mono ?_
    rintro e w' ⟨rfl, hw⟩
    obtain rfl := hw.symm
    clear hw C6
    by_cases g7 : (1048576 : Int) < (n : Int) + (8 * (m1 : Int) + (T1 : Int)) + (8 * (m2 : Int) + (T2 : Int)) + (8 * (m3 : Int) + (T3 : Int)) + (8 * (m4 : Int) + (T4 : Int)) + (8 * (m5 : Int) + (T5 : Int)) + (8 * (m6 : Int) + (T6 : Int))
    · go_wp2_with fail
      go_ret
      exact ⟨rfl, Below.refl _ _⟩
    by_cases g8 : m1 = m2
    case neg =>
      have g8' : ((m1 : Int) != (m2 : Int)) = true := bne_iff_ne.2 (by omega)
      go_wp2_with fail
      go_ret
      exact ⟨rfl, Below.refl _ _⟩
    subst g8
    by_cases g9 : m3 = m4
    case neg =>
      have g9' : ((m3 : Int) != (m4 : Int)) = true := bne_iff_ne.2 (by omega)
      go_wp2_with fail
      go_ret
      exact ⟨rfl, Below.refl _ _⟩
    subst g9
    by_cases g10 : m5 = m6
    case neg =>
      have g10' : ((m5 : Int) != (m6 : Int)) = true := bne_iff_ne.2 (by omega)
      go_wp2_with fail
      go_ret
      exact ⟨rfl, Below.refl _ _⟩
    subst g10
    go_wp2_with fail
    refine (clone_calls a n c bs _ HB.out HA.out hn).mono ?_
    rintro e w0 ⟨a', rfl, hW1, hB1, hf1, hn1⟩
    have HV0 : Hid (Bs w0 a' n bs) := hW1.bs
    have HQ0 : Hid (Below w.heap.size w w0) := hB1
    have HN1 : Hid (a' = none → n = 0 ∧ n = 0) := fun e => ⟨hn1 e, hn1 e⟩
    clear hW1 hB1 hf1 hn1
    go_wp2_with fail
    refine (cloneS_calls a1 m1 c1 ss1 _ (lies_strs H1.out HQ0.out HT1.out) L1.out HA1.out hm1).mono ?_
    rintro e w1 ⟨b1, rfl, hS, hBn⟩
    have HS1 : Hid (Strs w1 b1 ss1) := hS
    have HQ1 : Hid (Below w.heap.size w w1) := below_next HQ0.out hBn
    have HV1 : Hid (Bs w1 a' n bs) := HV0.out.below hBn
    clear hS hBn HQ0 HV0
    go_wp2_with fail
    refine (cloneS_calls a2 m1 c2 ss2 _ (lies_strs H2.out HQ1.out HT2.out) L2.out HA2.out hm1).mono ?_
    rintro e w2 ⟨b2, rfl, hS, hBn⟩
    have HS2 : Hid (Strs w2 b2 ss2) := hS
    have HQ2 : Hid (Below w.heap.size w w2) := below_next HQ1.out hBn
    have HV2 : Hid (Bs w2 a' n bs) := HV1.out.below hBn
    replace HS1 : Hid (Strs w2 b1 ss1) := HS1.out.below hBn
    clear hS hBn HQ1 HV1
    go_wp2_with fail
    refine (cloneS_calls a3 m3 c3 ss3 _ (lies_strs H3.out HQ2.out HT3.out) L3.out HA3.out hm3).mono ?_
    rintro e w3 ⟨b3, rfl, hS, hBn⟩
    have HS3 : Hid (Strs w3 b3 ss3) := hS
    have HQ3 : Hid (Below w.heap.size w w3) := below_next HQ2.out hBn
    have HV3 : Hid (Bs w3 a' n bs) := HV2.out.below hBn
    replace HS1 : Hid (Strs w3 b1 ss1) := HS1.out.below hBn
    replace HS2 : Hid (Strs w3 b2 ss2) := HS2.out.below hBn
    clear hS hBn HQ2 HV2
    go_wp2_with fail
    refine (cloneS_calls a4 m3 c4 ss4 _ (lies_strs H4.out HQ3.out HT4.out) L4.out HA4.out hm3).mono ?_
    rintro e w4 ⟨b4, rfl, hS, hBn⟩
    have HS4 : Hid (Strs w4 b4 ss4) := hS
    have HQ4 : Hid (Below w.heap.size w w4) := below_next HQ3.out hBn
    have HV4 : Hid (Bs w4 a' n bs) := HV3.out.below hBn
    replace HS1 : Hid (Strs w4 b1 ss1) := HS1.out.below hBn
    replace HS2 : Hid (Strs w4 b2 ss2) := HS2.out.below hBn
    replace HS3 : Hid (Strs w4 b3 ss3) := HS3.out.below hBn
    clear hS hBn HQ3 HV3
    go_wp2_with fail
    refine (cloneS_calls a5 m5 c5 ss5 _ (lies_strs H5.out HQ4.out HT5.out) L5.out HA5.out hm5).mono ?_
    rintro e w5 ⟨b5, rfl, hS, hBn⟩
    have HS5 : Hid (Strs w5 b5 ss5) := hS
    have HQ5 : Hid (Below w.heap.size w w5) := below_next HQ4.out hBn
    have HV5 : Hid (Bs w5 a' n bs) := HV4.out.below hBn
    replace HS1 : Hid (Strs w5 b1 ss1) := HS1.out.below hBn
    replace HS2 : Hid (Strs w5 b2 ss2) := HS2.out.below hBn
    replace HS3 : Hid (Strs w5 b3 ss3) := HS3.out.below hBn
    replace HS4 : Hid (Strs w5 b4 ss4) := HS4.out.below hBn
    clear hS hBn HQ4 HV4
    go_wp2_with fail
    refine (cloneS_calls a6 m5 c6 ss6 _ (lies_strs H6.out HQ5.out HT6.out) L6.out HA6.out hm5).mono ?_
    rintro e w6 ⟨b6, rfl, hS, hBn⟩
    have HS6 : Hid (Strs w6 b6 ss6) := hS
    have HQ6 : Hid (Below w.heap.size w w6) := below_next HQ5.out hBn
    have HV6 : Hid (Bs w6 a' n bs) := HV5.out.below hBn
    replace HS1 : Hid (Strs w6 b1 ss1) := HS1.out.below hBn
    replace HS2 : Hid (Strs w6 b2 ss2) := HS2.out.below hBn
    replace HS3 : Hid (Strs w6 b3 ss3) := HS3.out.below hBn
    replace HS4 : Hid (Strs w6 b4 ss4) := HS4.out.below hBn
    replace HS5 : Hid (Strs w6 b5 ss5) := HS5.out.below hBn
    clear hS hBn HQ5 HV5
    go_wp2_with fail
    refine (unm_calls a' b3 b4 n n m3 m3 m3 bs ss3 ss4 _ HV6.out hby hn HS3.out HS4.out L3.out L4.out hm3).mono ?_
    rintro e w7 ⟨f1, f2, jj, rfl, hj, hF1, hF2, hBn⟩
    have HJ : Hid (jj = (kept bs (ss3.zip ss4)).length) := hj
    have hjj0 : jj ≤ m3 := by
      have e1 := kept_len bs (ss3.zip ss4)
      have e2 := L3.out
      rw [List.length_zip] at e1
      omega
    have hjj : jj ≤ 1048576 := by omega
    have HF1 : Hid (Strs w7 f1 ((kept bs (ss3.zip ss4)).map fstB)) := hF1
    have HF2 : Hid (Strs w7 f2 ((kept bs (ss3.zip ss4)).map sndB)) := hF2
    have HKn : Hid (∀ p ∈ kept bs (ss3.zip ss4), endsB bs p.1 = false) := kept_none bs _
    have HQ7 : Hid (Below w.heap.size w w7) := below_next HQ6.out hBn
    have HV7 : Hid (Bs w7 a' n bs) := HV6.out.below hBn
    replace HS1 : Hid (Strs w7 b1 ss1) := HS1.out.below hBn
    replace HS2 : Hid (Strs w7 b2 ss2) := HS2.out.below hBn
    replace HS5 : Hid (Strs w7 b5 ss5) := HS5.out.below hBn
    replace HS6 : Hid (Strs w7 b6 ss6) := HS6.out.below hBn
    generalize kept bs (ss3.zip ss4) = K at HJ HF1 HF2 HKn
    have HJ1 : Hid ((K.map fstB).length = jj) := by show _ = _; rw [List.length_map]; exact HJ.out.symm
    have HJ2 : Hid ((K.map sndB).length = jj) := by show _ = _; rw [List.length_map]; exact HJ.out.symm
    clear hj hF1 hF2 hBn HQ6 HV6 HS3 HS4 HJ
    have HXF : Hid (rs bs t ((K.map fstB ++ ss1 ++ []).zip (K.map sndB ++ ss2 ++ [])) = rs bs t (ss1.zip ss2)) := by
      show _ = _
      rw [List.append_nil, List.append_nil, zip_app (by rw [HJ1.out, HJ2.out]), zip_unzip, rs_unmatched bs t K _ HKn.out]
    have HXB : Hid (ss1.any (endsB bs) = true → rs bs t (([] ++ ss1 ++ ss5).zip ([] ++ ss2 ++ ss6)) = rs bs t (ss1.zip ss2)) := fun h => by
      rw [List.nil_append, List.nil_append, zip_app (by rw [L1.out, L2.out])]
      obtain ⟨s, hs, he⟩ := List.any_eq_true.1 h
      obtain ⟨p, hp, e⟩ := zip_has (rr := ss2) (by rw [L1.out, L2.out]) hs
      exact rs_hit bs t _ _ ⟨p, hp, by rw [e]; exact he⟩
    have HXC : Hid (ss1.any (endsB bs) = true → rs bs t ((K.map fstB ++ ss1 ++ ss5).zip (K.map sndB ++ ss2 ++ ss6)) = rs bs t (ss1.zip ss2)) := fun h => by
      rw [List.append_assoc, List.append_assoc, zip_app (by rw [HJ1.out, HJ2.out]), zip_unzip, rs_unmatched bs t K _ HKn.out]
      have := HXB.out h
      rwa [List.nil_append, List.nil_append] at this
    have hR0 : (rs bs t (ss1.zip ss2)).length ≤ 4194304 := by
      have e2 := rs_len bs t 1048576 (ss1.zip ss2) (zip_small HT2.out)
      have e3 := HB.out.len
      omega
    obtain ⟨R, hR⟩ : ∃ R, R = rs bs t (ss1.zip ss2) := ⟨_, rfl⟩
    rw [← hR] at HXF HXB HXC hR0
    have HR : Hid (R = rs bs t (ss1.zip ss2)) := hR
    have HR0 : Hid (R.length ≤ 4194304) := hR0
    clear hR hR0
    -- plain
    go_wp2_with fail
    refine (clone_calls a' n n bs _ HV7.out HN1.out hn).mono ?_
    rintro e wa ⟨z, rfl, hW, hBn, hf, hn'⟩
    have HW : Hid (Word wa z n n bs) := hW
    have HY : Hid (Below w7.heap.size w7 wa) := hBn
    have HZ : Hid (∀ p, z = some p → w7.heap.size ≤ p.block) := hf
    clear hW hBn hf hn'
    go_wp2_with fail
    refine (zz_calls z b1 b2 n n m1 m1 m1 bs ss1 ss2 t _ hm1 L1.out L2.out HW.out (HS1.out.below HY.out) (HS2.out.below HY.out)).mono ?_
    rintro e w8 ⟨o7, no7, co7, rfl, hO, hFr⟩
    have HO7 : Hid (Bs w8 o7 no7 R) := by rw [HR.out]; exact hO
    have hBn : Below w7.heap.size w7 w8 := below_frm HY.out hFr HZ.out
    have HQ8 : Hid (Below w.heap.size w w8) := below_next HQ7.out hBn
    have HV8 : Hid (Bs w8 a' n bs) := HV7.out.below hBn
    have hno7 : no7 ≤ 4194304 := by have e := HO7.out.len; have e' := HR0.out; omega
    replace HS1 : Hid (Strs w8 b1 ss1) := HS1.out.below hBn
    replace HS2 : Hid (Strs w8 b2 ss2) := HS2.out.below hBn
    replace HS5 : Hid (Strs w8 b5 ss5) := HS5.out.below hBn
    replace HS6 : Hid (Strs w8 b6 ss6) := HS6.out.below hBn
    replace HF1 : Hid (Strs w8 f1 (K.map fstB)) := HF1.out.below hBn
    replace HF2 : Hid (Strs w8 f2 (K.map sndB)) := HF2.out.below hBn
    clear hO hFr hBn HY HZ HW HQ7 HV7
    -- front
    go_wp2_with fail
    refine (clone_calls a' n n bs _ HV8.out HN1.out hn).mono ?_
    rintro e wa ⟨z, rfl, hW, hBn, hf, hn'⟩
    have HW : Hid (Word wa z n n bs) := hW
    have HY : Hid (Below w8.heap.size w8 wa) := hBn
    have HZ : Hid (∀ p, z = some p → w8.heap.size ≤ p.block) := hf
    clear hW hBn hf hn'
    go_wp2_with fail
    refine (join_calls f1 b1 none jj m3 m1 m1 0 0 (K.map fstB) ss1 [] _ (HF1.out.below HY.out) (HS1.out.below HY.out) (strs_nil _) HJ1.out L1.out rfl hjj hm1 (by omega)).mono ?_
    rintro e wb ⟨y1, rfl, hS, hBn⟩
    have HY1 : Hid (Below wa.heap.size wa wb) := hBn
    have HP1 : Hid (Strs wb y1 ((K.map fstB) ++ ss1 ++ [])) := hS
    clear hS hBn
    go_wp2_with fail
    refine (join_calls f2 b2 none jj m3 m1 m1 0 0 (K.map sndB) ss2 [] _ (HF2.out.below (below_next HY.out HY1.out)) (HS2.out.below (below_next HY.out HY1.out)) (strs_nil _) HJ2.out L2.out rfl hjj hm1 (by omega)).mono ?_
    rintro e wc ⟨y2, rfl, hS, hBn⟩
    have HY2 : Hid (Below wb.heap.size wb wc) := hBn
    have HP2 : Hid (Strs wc y2 ((K.map sndB) ++ ss2 ++ [])) := hS
    have HWc : Hid (Word wc z n n bs) := HW.out.below (below_next HY1.out hBn)
    clear hS hBn HW
    go_wp2_with fail
    refine (zz_calls z y1 y2 n n (jj + m1) (jj + m1) (jj + m1) bs ((K.map fstB) ++ ss1 ++ []) ((K.map sndB) ++ ss2 ++ []) t _ (by omega) (by simp only [List.length_append, HJ1.out, L1.out, List.length_nil]; omega) (by simp only [List.length_append, HJ2.out, L2.out, List.length_nil]; omega) HWc.out (HP1.out.below HY2.out) HP2.out).mono ?_
    rintro e w9 ⟨o8, no8, co8, rfl, hO, hFr⟩
    have HO8 : Hid (Bs w9 o8 no8 R) := by rw [HXF.out] at hO; exact hO
    have hBn : Below w8.heap.size w8 w9 := below_frm (below_next HY.out (below_next HY1.out HY2.out)) hFr HZ.out
    have HQ9 : Hid (Below w.heap.size w w9) := below_next HQ8.out hBn
    have HV9 : Hid (Bs w9 a' n bs) := HV8.out.below hBn
    have hno8 : no8 ≤ 4194304 := by have e := HO8.out.len; have e' := HR0.out; omega
    replace HS1 : Hid (Strs w9 b1 ss1) := HS1.out.below hBn
    replace HS2 : Hid (Strs w9 b2 ss2) := HS2.out.below hBn
    replace HS5 : Hid (Strs w9 b5 ss5) := HS5.out.below hBn
    replace HS6 : Hid (Strs w9 b6 ss6) := HS6.out.below hBn
    replace HF1 : Hid (Strs w9 f1 (K.map fstB)) := HF1.out.below hBn
    replace HF2 : Hid (Strs w9 f2 (K.map sndB)) := HF2.out.below hBn
    replace HO7 : Hid (Bs w9 o7 no7 R) := HO7.out.below hBn
    clear hO hFr hBn HY HZ HY1 HY2 HP1 HP2 HWc HQ8 HV8
    have CS1 := same_calls o7 o8 no7 no8 co7 co8 R R w9 HO7.out HO8.out hno7 hno8
    rw [beq_self_eq_true] at CS1
    go_wp2_with fail
    refine CS1.mono ?_
    rintro e w10 ⟨rfl, q, hw⟩
    have hBn : Below w9.heap.size w9 w10 := by rw [hw]; exact below_drewN (Below.refl _ _) q
    have HQ10 : Hid (Below w.heap.size w w10) := below_next HQ9.out hBn
    have HV10 : Hid (Bs w10 a' n bs) := HV9.out.below hBn
    replace HS1 : Hid (Strs w10 b1 ss1) := HS1.out.below hBn
    replace HS2 : Hid (Strs w10 b2 ss2) := HS2.out.below hBn
    replace HS5 : Hid (Strs w10 b5 ss5) := HS5.out.below hBn
    replace HS6 : Hid (Strs w10 b6 ss6) := HS6.out.below hBn
    replace HF1 : Hid (Strs w10 f1 (K.map fstB)) := HF1.out.below hBn
    replace HF2 : Hid (Strs w10 f2 (K.map sndB)) := HF2.out.below hBn
    replace HO7 : Hid (Bs w10 o7 no7 R) := HO7.out.below hBn
    clear hBn hw CS1 HQ9 HV9 HO8
    go_wp2_with fail
    go_loopw [21, 22] (fun hit i wr => ∃ (k : Nat) (hb : Bool), k ≤ m1 ∧ i = .int .i64 k ∧ hit = .bool hb ∧ Hid (hb = (ss1.take k).any (endsB bs)) ∧ Hid (Below w10.heap.size w10 wr)) (fun _ i _ => m1 - (RowKit.intOf i).toNat)
    case atStart => exact ⟨0, false, by omega, rfl, rfl, rfl, Below.refl _ _⟩
    case round =>
      obtain ⟨k, hb, hk, rfl, rfl, hhb, hbel⟩ := hrel
      by_cases hlt : k < m1
      · obtain ⟨x1, o1, rfl, hb1, gc⟩ : ∃ b o, b1 = some ⟨b, o, none⟩ ∧ b < w10.heap.size ∧ ∀ i, i < ss1.length → w10.cell? ⟨b, o + i, none⟩ = some (.string (ss1.getD i ⟨#[]⟩)) := HS1.out.lies.elim (fun e => by have := L1.out; rw [e] at this; simp at this; omega) id
        have hlt1 : k < ss1.length := by rw [L1.out]; exact hlt
        obtain ⟨s, hs⟩ : ∃ s, s = ss1.getD k ⟨#[]⟩ := ⟨_, rfl⟩
        have e1 : wr.cell? ⟨x1, o1 + k, none⟩ = some (.string s) := by rw [hs]; exact (hbel.out.cell (p := ⟨x1, o1 + k, none⟩) hb1).trans (gc k hlt1)
        have hany := any_take bs ss1 k hlt1
        rw [← hs, ← hhb.out] at hany
        have hssz : s.size ≤ 1048576 := by
          have : s ∈ ss1 := by rw [hs, List.getD_eq_getElem?_getD, List.getElem?_eq_getElem hlt1]; exact List.getElem_mem hlt1
          exact HS1.out.small s this
        have HAny : Hid ((ss1.take (k + 1)).any (endsB bs) = (hb || endsB bs s)) := hany
        have C := in_calls a' n n bs s wr (HV10.out.below hbel.out) hby hn hssz
        clear hs gc hlt1 hany
        cases he : endsB bs s with
        | true =>
          rw [he] at C
          have HA2' : Hid (true = (ss1.take (k + 1)).any (endsB bs)) := by show _ = _; rw [HAny.out, he, Bool.or_true]
          clear he
          go_wp2_with fail
          refine C.mono ?_
          rintro e w' ⟨rfl, q, hw⟩
          have HBw : Hid (Below w10.heap.size w10 w') := by rw [hw]; exact below_drewN hbel.out q
          clear hw C
          go_wp2_with fail
          exact ⟨⟨k + 1, true, by omega, by go_num, rfl, HA2', HBw⟩, by simp [RowKit.intOf]; omega⟩
        | false =>
          rw [he] at C
          have HA2' : Hid (hb = (ss1.take (k + 1)).any (endsB bs)) := by show _ = _; rw [HAny.out, he, Bool.or_false]
          clear he
          go_wp2_with fail
          refine C.mono ?_
          rintro e w' ⟨rfl, q, hw⟩
          have HBw : Hid (Below w10.heap.size w10 w') := by rw [hw]; exact below_drewN hbel.out q
          clear hw C
          go_wp2_with fail
          exact ⟨⟨k + 1, hb, by omega, by go_num, rfl, HA2', HBw⟩, by simp [RowKit.intOf]; omega⟩
      · have HAll : Hid (hb = ss1.any (endsB bs)) := by
          have e := hhb.out
          rw [List.take_of_length_le (by rw [L1.out]; omega)] at e
          exact e
        clear hhb
        cases hb with
        | false =>
          go_wp2_with fail
          go_ret
          exact ⟨rfl, below_next HQ10.out hbel.out⟩
        | true =>
          have HXB2 := HXB.out HAll.out.symm
          have HXC2 := HXC.out HAll.out.symm
          have HXB3 : Hid (rs bs t (([] ++ ss1 ++ ss5).zip ([] ++ ss2 ++ ss6)) = R) := HXB2
          have HXC3 : Hid (rs bs t ((K.map fstB ++ ss1 ++ ss5).zip (K.map sndB ++ ss2 ++ ss6)) = R) := HXC2
          clear HXB2 HXC2 HXB HXC HAll HXF
          have HQ11 : Hid (Below w.heap.size w wr) := below_next HQ10.out hbel.out
          have HV11 : Hid (Bs wr a' n bs) := HV10.out.below hbel.out
          replace HS1 : Hid (Strs wr b1 ss1) := HS1.out.below hbel.out
          replace HS2 : Hid (Strs wr b2 ss2) := HS2.out.below hbel.out
          replace HS5 : Hid (Strs wr b5 ss5) := HS5.out.below hbel.out
          replace HS6 : Hid (Strs wr b6 ss6) := HS6.out.below hbel.out
          replace HF1 : Hid (Strs wr f1 (K.map fstB)) := HF1.out.below hbel.out
          replace HF2 : Hid (Strs wr f2 (K.map sndB)) := HF2.out.below hbel.out
          replace HO7 : Hid (Bs wr o7 no7 R) := HO7.out.below hbel.out
          clear hbel HQ10 HV10
          obtain ⟨w11, hw11⟩ : ∃ w11, w11 = wr := ⟨_, rfl⟩
          subst hw11
          -- back
          go_wp2_with fail
          refine (clone_calls a' n n bs _ HV11.out HN1.out hn).mono ?_
          rintro e wa ⟨z, rfl, hW, hBn, hf, hn'⟩
          have HW : Hid (Word wa z n n bs) := hW
          have HY : Hid (Below w11.heap.size w11 wa) := hBn
          have HZ : Hid (∀ p, z = some p → w11.heap.size ≤ p.block) := hf
          clear hW hBn hf hn'
          go_wp2_with fail
          refine (join_calls none b1 b5 0 0 m1 m1 m5 m5 [] ss1 ss5 _ (strs_nil _) (HS1.out.below HY.out) (HS5.out.below HY.out) rfl L1.out L5.out (by omega) hm1 hm5).mono ?_
          rintro e wb ⟨y1, rfl, hS, hBn⟩
          have HY1 : Hid (Below wa.heap.size wa wb) := hBn
          have HP1 : Hid (Strs wb y1 ([] ++ ss1 ++ ss5)) := hS
          clear hS hBn
          go_wp2_with fail
          refine (join_calls none b2 b6 0 0 m1 m1 m5 m5 [] ss2 ss6 _ (strs_nil _) (HS2.out.below (below_next HY.out HY1.out)) (HS6.out.below (below_next HY.out HY1.out)) rfl L2.out L6.out (by omega) hm1 hm5).mono ?_
          rintro e wc ⟨y2, rfl, hS, hBn⟩
          have HY2 : Hid (Below wb.heap.size wb wc) := hBn
          have HP2 : Hid (Strs wc y2 ([] ++ ss2 ++ ss6)) := hS
          have HWc : Hid (Word wc z n n bs) := HW.out.below (below_next HY1.out hBn)
          clear hS hBn HW
          go_wp2_with fail
          refine (zz_calls z y1 y2 n n (m1 + m5) (m1 + m5) (m1 + m5) bs ([] ++ ss1 ++ ss5) ([] ++ ss2 ++ ss6) t _ (by omega) (by simp only [List.length_append, List.length_nil, L1.out, L5.out]; omega) (by simp only [List.length_append, List.length_nil, L2.out, L6.out]; omega) HWc.out (HP1.out.below HY2.out) HP2.out).mono ?_
          rintro e w12 ⟨o11, no11, co11, rfl, hO, hFr⟩
          have HO11 : Hid (Bs w12 o11 no11 R) := by rw [HXB3.out] at hO; exact hO
          have hBn : Below w11.heap.size w11 w12 := below_frm (below_next HY.out (below_next HY1.out HY2.out)) hFr HZ.out
          have HQ12 : Hid (Below w.heap.size w w12) := below_next HQ11.out hBn
          have HV12 : Hid (Bs w12 a' n bs) := HV11.out.below hBn
          have hno11 : no11 ≤ 4194304 := by have e := HO11.out.len; have e' := HR0.out; omega
          replace HS1 : Hid (Strs w12 b1 ss1) := HS1.out.below hBn
          replace HS2 : Hid (Strs w12 b2 ss2) := HS2.out.below hBn
          replace HS5 : Hid (Strs w12 b5 ss5) := HS5.out.below hBn
          replace HS6 : Hid (Strs w12 b6 ss6) := HS6.out.below hBn
          replace HF1 : Hid (Strs w12 f1 (K.map fstB)) := HF1.out.below hBn
          replace HF2 : Hid (Strs w12 f2 (K.map sndB)) := HF2.out.below hBn
          replace HO7 : Hid (Bs w12 o7 no7 R) := HO7.out.below hBn
          clear hO hFr hBn HY HZ HY1 HY2 HP1 HP2 HWc HQ11 HV11
          -- both
          go_wp2_with fail
          refine (clone_calls a' n n bs _ HV12.out HN1.out hn).mono ?_
          rintro e wa ⟨z, rfl, hW, hBn, hf, hn'⟩
          have HW : Hid (Word wa z n n bs) := hW
          have HY : Hid (Below w12.heap.size w12 wa) := hBn
          have HZ : Hid (∀ p, z = some p → w12.heap.size ≤ p.block) := hf
          clear hW hBn hf hn'
          go_wp2_with fail
          refine (join_calls f1 b1 b5 jj m3 m1 m1 m5 m5 (K.map fstB) ss1 ss5 _ (HF1.out.below HY.out) (HS1.out.below HY.out) (HS5.out.below HY.out) HJ1.out L1.out L5.out hjj hm1 hm5).mono ?_
          rintro e wb ⟨y1, rfl, hS, hBn⟩
          have HY1 : Hid (Below wa.heap.size wa wb) := hBn
          have HP1 : Hid (Strs wb y1 ((K.map fstB) ++ ss1 ++ ss5)) := hS
          clear hS hBn
          go_wp2_with fail
          refine (join_calls f2 b2 b6 jj m3 m1 m1 m5 m5 (K.map sndB) ss2 ss6 _ (HF2.out.below (below_next HY.out HY1.out)) (HS2.out.below (below_next HY.out HY1.out)) (HS6.out.below (below_next HY.out HY1.out)) HJ2.out L2.out L6.out hjj hm1 hm5).mono ?_
          rintro e wc ⟨y2, rfl, hS, hBn⟩
          have HY2 : Hid (Below wb.heap.size wb wc) := hBn
          have HP2 : Hid (Strs wc y2 ((K.map sndB) ++ ss2 ++ ss6)) := hS
          have HWc : Hid (Word wc z n n bs) := HW.out.below (below_next HY1.out hBn)
          clear hS hBn HW
          go_wp2_with fail
          refine (zz_calls z y1 y2 n n (jj + m1 + m5) (jj + m1 + m5) (jj + m1 + m5) bs ((K.map fstB) ++ ss1 ++ ss5) ((K.map sndB) ++ ss2 ++ ss6) t _ (by omega) (by simp only [List.length_append, HJ1.out, L1.out, L5.out]) (by simp only [List.length_append, HJ2.out, L2.out, L6.out]) HWc.out (HP1.out.below HY2.out) HP2.out).mono ?_
          rintro e w13 ⟨o12, no12, co12, rfl, hO, hFr⟩
          have HO12 : Hid (Bs w13 o12 no12 R) := by rw [HXC3.out] at hO; exact hO
          have hBn : Below w12.heap.size w12 w13 := below_frm (below_next HY.out (below_next HY1.out HY2.out)) hFr HZ.out
          have HQ13 : Hid (Below w.heap.size w w13) := below_next HQ12.out hBn
          have HV13 : Hid (Bs w13 a' n bs) := HV12.out.below hBn
          have hno12 : no12 ≤ 4194304 := by have e := HO12.out.len; have e' := HR0.out; omega
          replace HS1 : Hid (Strs w13 b1 ss1) := HS1.out.below hBn
          replace HS2 : Hid (Strs w13 b2 ss2) := HS2.out.below hBn
          replace HS5 : Hid (Strs w13 b5 ss5) := HS5.out.below hBn
          replace HS6 : Hid (Strs w13 b6 ss6) := HS6.out.below hBn
          replace HF1 : Hid (Strs w13 f1 (K.map fstB)) := HF1.out.below hBn
          replace HF2 : Hid (Strs w13 f2 (K.map sndB)) := HF2.out.below hBn
          replace HO7 : Hid (Bs w13 o7 no7 R) := HO7.out.below hBn
          replace HO11 : Hid (Bs w13 o11 no11 R) := HO11.out.below hBn
          clear hO hFr hBn HY HZ HY1 HY2 HP1 HP2 HWc HQ12 HV12
          have CS2 := same_calls o7 o11 no7 no11 co7 co11 R R w13 HO7.out HO11.out hno7 hno11
          rw [beq_self_eq_true] at CS2
          go_wp2_with fail
          refine CS2.mono ?_
          rintro e w14 ⟨rfl, q, hw⟩
          have hBn : Below w13.heap.size w13 w14 := by rw [hw]; exact below_drewN (Below.refl _ _) q
          have CS3 := same_calls o7 o12 no7 no12 co7 co12 R R w14 (HO7.out.below hBn) (HO12.out.below hBn) hno7 hno12
          rw [beq_self_eq_true] at CS3
          have HQ14 : Hid (Below w.heap.size w w14) := below_next HQ13.out hBn
          clear hBn hw CS2
          go_wp2_with fail
          refine CS3.mono ?_
          rintro e w15 ⟨rfl, q', hw⟩
          have HQ15 : Hid (Below w.heap.size w w15) := by rw [hw]; exact below_drewN HQ14.out q'
          clear hw CS3
          go_wp2_with fail
          go_ret
          exact ⟨rfl, HQ15.out⟩
end Go.Proofs.Qxb6000751a.Por
