import Derived.Test.Qxb6000751aSet
namespace Go.Proofs.Qxb6000751a.Por
open Go.ChangeShapes Go.WideShapes Go.RowKit
set_option linter.unusedVariables false

theorem Stem.below {B : Nat} {w w' : World} {S b o n c : Nat} {bs : List Int} (h : Stem w S b o n c bs) (f : Below B w w') (hS : S < B) (hb : b < B) : Stem w' S b o n c bs :=
  ⟨(f.cell (p := ⟨S, 0, none⟩) hS).trans h.cell, h.len, h.small, fun i hi => (f.cell (p := ⟨b, o + i, none⟩) hb).trans (h.at' i hi)⟩

/-- The rules lie at block R. -/
structure Rules (w : World) (R : Nat) (rules : List (ByteArray × ByteArray)) : Prop where
  lt : R < w.heap.size
  suf : ∀ i p, rules[i]? = some p → w.cell? ⟨R, i * 2, none⟩ = some (.string p.1)
  rep : ∀ i p, rules[i]? = some p → w.cell? ⟨R, i * 2 + 1, none⟩ = some (.string p.2)
  small : ∀ p ∈ rules, p.1.size ≤ 1048576 ∧ p.2.size ≤ 1048576

theorem stemLen_at (S b o n c q1 : Nat) (bs : List Int) (t : ByteArray) (w : World) (h : Stem w S b o n c bs) (ht : t.size ≤ 1048576) (hq : q1 + 1 + t.size = n) :
    Calls Try.prog 39 #[.pointer (some ⟨S, 0, none⟩), .string t] w fun e w' => e = .returned (.int .i64 ((q1 : Int) + 1)) ∧ w' = w := by
  have e : (q1 : Int) + 1 = (n : Int) - (t.size : Int) := by omega
  rw [e]
  exact stemLen_calls S b o n c bs t w h ht

theorem meas_at (S b o n c q1 : Nat) (bs : List Int) (w : World) (h : Stem w S b o n c bs) (hq : q1 + 1 ≤ n) :
    Calls Try.prog 33 #[.pointer (some ⟨S, 0, none⟩), .int .i64 ((q1 : Int) + 1)] w fun e w' => e = .returned (.int .i64 (turns bs (q1 + 1))) ∧ w' = w :=
  meas_calls S b o n c bs w h (q1 + 1) hq

/-- The rule for "ion": it wants an s or a t ahead of it. -/
def isIon (s : ByteArray) : Bool := s.toList == [105, 111, 110]
def ionNo (s : ByteArray) (x : Int) : Bool := isIon s && (x != 115 && x != 116)

/-- What the rules make of the word. -/
def rs (bs : List Int) (t : Int) : List (ByteArray × ByteArray) → List Int
  | [] => bs
  | p :: rest =>
    if endsB bs p.1 then
      if ionNo p.1 (bs.getD (bs.length - p.1.size - 1) 0) then bs
      else if t < (turns bs (bs.length - p.1.size) : Int) then bs.take (bs.length - p.1.size) ++ nums p.2 else bs
    else rs bs t rest

theorem spare_below {B b j : Nat} {w w' : World} (f : Below B w w') (hb : b < B) (h : (w.cell? ⟨b, j, none⟩).isSome = true ∧ w.frozen? ⟨b, j, none⟩ = false) : (w'.cell? ⟨b, j, none⟩).isSome = true ∧ w'.frozen? ⟨b, j, none⟩ = false := by
  rw [f.cell (p := ⟨b, j, none⟩) hb, f.frozen (p := ⟨b, j, none⟩) hb]; exact h

/-- Nothing has been written: the word is as it was. -/
theorem rep_same {w w' : World} {S b n c : Nat} {bs res : List Int} (h : Stem w S b 0 n c bs) (hS : S < w.heap.size) (hb : b < w.heap.size) (f : Below w.heap.size w w') (e : res = bs) :
    (∃ g N cap1, w'.cell? ⟨S, 0, none⟩ = some (.slice (some ⟨g, 0, none⟩) N cap1) ∧ Row w' g N res) ∧ Frm (fun k => k = b ∨ k = S) w w' := by
  have h' := h.below f hS hb
  subst e
  exact ⟨⟨b, n, c, h'.cell, h'.len, Nat.lt_of_lt_of_le hb f.size, fun i hi => by have := h'.at' i hi; rwa [Nat.zero_add] at this⟩, Frm.of_below f⟩

theorem rs_ion {bs : List Int} {t : Int} {rules : List (ByteArray × ByteArray)} {s r : ByteArray} {rest : List (ByteArray × ByteArray)} {k q1 n : Nat} {x : Int} (hrs : rs bs t rules = rs bs t (rules.drop k)) (hd : rules.drop k = (s, r) :: rest)
    (he : endsB bs s = true) (hl : n = bs.length) (hq : n = q1 + 1 + s.size) (hx : x = bs.getD q1 0) (hi : isIon s = true) (h1 : x ≠ 115) (h2 : x ≠ 116) : rs bs t rules = bs := by
  rw [hrs, hd, rs, if_pos he]
  have e : bs.length - s.size - 1 = q1 := by omega
  have e2 : ionNo s x = true := by simp [ionNo, hi, h1, h2]
  rw [e, ← hx, if_pos e2]

theorem rs_meas {bs : List Int} {t : Int} {rules : List (ByteArray × ByteArray)} {s r : ByteArray} {rest : List (ByteArray × ByteArray)} {k q1 n : Nat} {x : Int} (hrs : rs bs t rules = rs bs t (rules.drop k)) (hd : rules.drop k = (s, r) :: rest)
    (he : endsB bs s = true) (hl : n = bs.length) (hq : n = q1 + 1 + s.size) (hx : x = bs.getD q1 0) (hi : isIon s = false ∨ x = 115 ∨ x = 116) :
    rs bs t rules = if t < (turns bs (q1 + 1) : Int) then bs.take (q1 + 1) ++ nums r else bs := by
  rw [hrs, hd, rs, if_pos he]
  have e : bs.length - s.size - 1 = q1 := by omega
  have e3 : bs.length - s.size = q1 + 1 := by omega
  have e2 : ¬ ionNo s x = true := by
    unfold ionNo
    rcases hi with h | h | h
    · simp [h]
    · simp [h]
    · simp [h]
  rw [e, ← hx, if_neg e2, e3]

set_option maxHeartbeats 4000000 in
theorem rep_calls (S b n c R m rc : Nat) (bs : List Int) (rules : List (ByteArray × ByteArray)) (t : Int) (w : World) (h : Stem w S b 0 n c bs) (hSb : S ≠ b) (hS : S < w.heap.size) (hb : b < w.heap.size) (hnc : n ≤ c)
    (hfS : w.frozen? ⟨S, 0, none⟩ = false) (hspare : ∀ j, j < c → (w.cell? ⟨b, j, none⟩).isSome = true ∧ w.frozen? ⟨b, j, none⟩ = false)
    (hR : Rules w R rules) (hm : rules.length = m) (hm2 : m ≤ 1048576) :
    Calls Try.prog 35 #[.pointer (some ⟨S, 0, none⟩), .slice (some ⟨R, 0, none⟩) m rc, .int .i64 t] w fun e w' => e = .returned (.tuple #[]) ∧
      (∃ g N cap1, w'.cell? ⟨S, 0, none⟩ = some (.slice (some ⟨g, 0, none⟩) N cap1) ∧ Row w' g N (rs bs t rules)) ∧ Frm (fun k => k = b ∨ k = S) w w' := by
  have HH : Hid (Stem w S b 0 n c bs) := h
  have HSP : Hid (∀ j, j < c → (w.cell? ⟨b, j, none⟩).isSome = true ∧ w.frozen? ⟨b, j, none⟩ = false) := hspare
  have HR : Hid (Rules w R rules) := hR
  have HM : Hid (rules.length = m) := hm
  have hlen : Hid (n = bs.length) := h.len
  have hn := h.small
  clear h hspare hR hm
  go_enter Try.func35, Try.ntmps35
  go_wp2_with fail
  go_loopw [11] (fun i wr => ∃ k : Nat, k ≤ m ∧ i = .int .i64 k ∧ Hid (Below w.heap.size w wr) ∧ Hid (rs bs t rules = rs bs t (rules.drop k))) (fun i _ => m - (RowKit.intOf i).toNat)
  case atStart => exact ⟨0, by omega, rfl, Below.refl _ _, rfl⟩
  case round =>
    obtain ⟨k, hk, rfl, hbl, hrs⟩ := hrel
    by_cases hlt : k < m
    · obtain ⟨p, hp⟩ : ∃ p, rules[k]? = some p := ⟨rules[k]'(by rw [HM.out]; exact hlt), List.getElem?_eq_getElem _⟩
      obtain ⟨s, r⟩ := p
      have hdrop : Hid (rules.drop k = (s, r) :: rules.drop (k + 1)) := by
        obtain ⟨h1, h2⟩ := List.getElem?_eq_some_iff.1 hp
        rw [← h2]; exact List.drop_eq_getElem_cons h1
      obtain ⟨hs1, hr1⟩ := HR.out.small (s, r) (List.mem_of_getElem? hp)
      replace hs1 : s.size ≤ 1048576 := hs1
      replace hr1 : r.size ≤ 1048576 := hr1
      have c1 : wr.cell? ⟨R, k * 2, none⟩ = some (.string s) := (hbl.out.cell (p := ⟨R, k * 2, none⟩) HR.out.lt).trans (HR.out.suf k (s, r) hp)
      have c2 : wr.cell? ⟨R, k * 2 + 1, none⟩ = some (.string r) := (hbl.out.cell (p := ⟨R, k * 2 + 1, none⟩) HR.out.lt).trans (HR.out.rep k (s, r) hp)
      have hsz := hbl.out.size
      have HB2 : Hid (Below w.heap.size w (wr.alloc (.cells #[.string s, .string r] 46))) := hbl.out.alloc hsz _
      have HH2 : Hid (Stem (wr.alloc (.cells #[.string s, .string r] 46)) S b 0 n c bs) := HH.out.below HB2.out hS hb
      have C := ends_calls S b 0 n c bs s _ HH2.out hs1 hnc
      clear hp
      cases he : endsB bs s with
      | false =>
        have HE : Hid (endsB bs s = false) := he
        rw [he] at C
        clear he
        go_wp2_with fail
        refine C.mono ?_
        rintro e w' ⟨rfl, rfl⟩
        go_wp2_with fail
        go_roundw
        case rel => exact ⟨k + 1, by omega, by go_num, HB2, hrs.out.trans (by rw [hdrop.out, rs, HE.out]; rfl)⟩
        case measure => simp [RowKit.intOf]; omega
      | true =>
        have HE : Hid (endsB bs s = true) := he
        rw [he] at C
        have hsn : s.size < n := by
          have := he
          unfold endsB at this
          rw [Bool.and_eq_true, decide_eq_true_eq] at this
          rw [hlen.out]; exact this.1
        clear he
        obtain ⟨q1, hq1⟩ : ∃ q1, n = q1 + 1 + s.size := ⟨n - s.size - 1, by omega⟩
        have HQ : Hid (n = q1 + 1 + s.size) := hq1
        have hqn : q1 < n := by omega
        obtain ⟨x, hx⟩ : ∃ x, x = bs.getD q1 0 := ⟨_, rfl⟩
        have HX : Hid (x = bs.getD q1 0) := hx
        have hcS := HH2.out.cell
        have hcx : (wr.alloc (.cells #[.string s, .string r] 46)).cell? ⟨b, q1, none⟩ = some (.int .u8 x) := by
          have := HH2.out.at' q1 hqn
          rw [Nat.zero_add] at this
          rw [this, hx]
        clear hx hq1
        by_cases hno : isIon s = true ∧ x ≠ 115 ∧ x ≠ 116
        · obtain ⟨hi, hx1, hx2⟩ := hno
          have HI : Hid (rs bs t rules = bs) := rs_ion hrs.out hdrop.out HE.out hlen.out HQ.out HX.out hi hx1 hx2
          have hi' : (s.toList == [105, 111, 110]) = true := hi
          have hx1' : (x != 115) = true := bne_iff_ne.2 hx1
          have hx2' : (x != 116) = true := bne_iff_ne.2 hx2
          clear hi hx1 hx2
          go_wp2_with fail
          refine C.mono ?_
          rintro e w' ⟨rfl, rfl⟩
          go_wp2_with fail
          refine (stemLen_at S b 0 n c q1 bs s _ HH2.out hs1 HQ.out.symm).mono ?_
          rintro e w' ⟨rfl, rfl⟩
          go_wp2_with fail
          exact bodyPost_ret (results_none rfl _ _ _) rfl ⟨rfl, rep_same HH.out hS hb HB2.out HI.out⟩
        · have HM2 : Hid (rs bs t rules = if t < (turns bs (q1 + 1) : Int) then bs.take (q1 + 1) ++ nums r else bs) := rs_meas hrs.out hdrop.out HE.out hlen.out HQ.out HX.out (by
            cases h1 : isIon s with
            | false => exact Or.inl rfl
            | true =>
              right
              by_cases h2 : x = 115
              · exact Or.inl h2
              · by_cases h3 : x = 116
                · exact Or.inr h3
                · exact absurd ⟨h1, h2, h3⟩ hno)
          have hway : (s.toList == [105, 111, 110]) = false ∨ ((s.toList == [105, 111, 110]) = true ∧ (x != 115) = false) ∨ ((s.toList == [105, 111, 110]) = true ∧ (x != 115) = true ∧ (x != 116) = false) := by
            cases h1 : (s.toList == [105, 111, 110]) with
            | false => exact Or.inl rfl
            | true =>
              right
              cases h2 : (x != 115) with
              | false => exact Or.inl ⟨rfl, rfl⟩
              | true =>
                right
                refine ⟨rfl, rfl, ?_⟩
                cases h3 : (x != 116) with
                | false => rfl
                | true => exact absurd ⟨h1, bne_iff_ne.1 h2, bne_iff_ne.1 h3⟩ hno
          clear hno
          have CM := meas_at S b 0 n c q1 bs _ HH2.out (by omega)
          obtain ⟨T, hT⟩ : ∃ T, T = turns bs (q1 + 1) := ⟨_, rfl⟩
          rw [← hT] at CM
          have HM3 : Hid (rs bs t rules = if t < (T : Int) then bs.take (q1 + 1) ++ nums r else bs) := by rw [hT]; exact HM2.out
          clear HM2 hT
          rcases hway with hi | ⟨hi, hx1⟩ | ⟨hi, hx1, hx2⟩
          all_goals
            go_wp2_with fail
            refine C.mono ?_
            rintro e w' ⟨rfl, rfl⟩
            go_wp2_with fail
            refine (stemLen_at S b 0 n c q1 bs s _ HH2.out hs1 HQ.out.symm).mono ?_
            rintro e w' ⟨rfl, rfl⟩
            go_wp2_with fail
            refine CM.mono ?_
            rintro e w' ⟨rfl, rfl⟩
            by_cases hmt : t < (T : Int)
            · have HF : Hid (rs bs t rules = bs.take (q1 + 1) ++ nums r) := HM3.out.trans (if_pos hmt)
              go_wp2_with fail
              refine (set_calls S b n c bs s r _ HH2.out hSb (Nat.lt_of_lt_of_le hS HB2.out.size) (Nat.lt_of_lt_of_le hb HB2.out.size) hnc ((HB2.out.frozen (p := ⟨S, 0, none⟩) hS).trans hfS) (fun j hj => spare_below HB2.out hb (HSP.out j hj)) (by omega) hr1).mono ?_
              rintro e w3 ⟨rfl, hg, hfr⟩
              have HG : Hid (∃ g cap1, w3.cell? ⟨S, 0, none⟩ = some (.slice (some ⟨g, 0, none⟩) (n - s.size + r.size) cap1) ∧ Row w3 g (n - s.size + r.size) (bs.take (n - s.size) ++ nums r)) := hg
              have HFR : Hid (Frm (fun k => k = b ∨ k = S) w w3) := (Frm.of_below HB2.out).trans hfr
              clear hg hfr
              go_wp2_with fail
              refine bodyPost_ret (results_none rfl _ _ _) rfl ⟨rfl, ?_, HFR.out⟩
              obtain ⟨g, cap1, h1, h2⟩ := HG.out
              rw [show n - s.size = q1 + 1 by have := HQ.out; omega] at h1 h2
              exact ⟨g, _, cap1, h1, by rw [HF.out]; exact h2⟩
            · have HF : Hid (rs bs t rules = bs) := HM3.out.trans (if_neg hmt)
              go_wp2_with fail
              exact bodyPost_ret (results_none rfl _ _ _) rfl ⟨rfl, rep_same HH.out hS hb HB2.out HF.out⟩
    · have HF : Hid (rs bs t rules = bs) := by
        rw [hrs.out, List.drop_of_length_le (by rw [HM.out]; omega)]; rfl
      go_wp2_with fail
      go_end0
      exact ⟨rfl, rep_same HH.out hS hb hbl.out HF.out⟩
end Go.Proofs.Qxb6000751a.Por
