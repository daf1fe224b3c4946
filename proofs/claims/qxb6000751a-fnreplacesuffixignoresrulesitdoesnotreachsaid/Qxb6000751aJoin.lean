import Derived.Test.Qxb6000751aIn
namespace Go.Proofs.Qxb6000751a.Por
open Go.ChangeShapes Go.WideShapes Go.RowKit
set_option linter.unusedVariables false

theorem take_snoc (ss : List ByteArray) (k : Nat) (h : k < ss.length) : ss.take (k + 1) = ss.take k ++ [ss.getD k ⟨#[]⟩] := by
  rw [List.take_succ_eq_append_getElem h, List.getD_eq_getElem?_getD, List.getElem?_eq_getElem h]; rfl

set_option maxHeartbeats 2000000 in
theorem join_calls (a1 a2 a3 : Option Addr) (m1 c1 m2 c2 m3 c3 : Nat) (s1 s2 s3 : List ByteArray) (w : World) (h1 : Strs w a1 s1) (h2 : Strs w a2 s2) (h3 : Strs w a3 s3) (l1 : s1.length = m1) (l2 : s2.length = m2) (l3 : s3.length = m3) (b1 : m1 ≤ 1048576) (b2 : m2 ≤ 1048576) (b3 : m3 ≤ 1048576) :
    Calls Try.prog 31 #[.slice a1 m1 c1, .slice a2 m2 c2, .slice a3 m3 c3] w fun e w' => ∃ a', e = .returned (.slice a' (m1 + m2 + m3) (m1 + m2 + m3)) ∧ Strs w' a' (s1 ++ s2 ++ s3) ∧ Below w.heap.size w w' := by
  have hmk := make_strs (m1 + m2 + m3) (by omega)
  have ecast : ((m1 + m2 + m3 : Nat) : Int) = (m1 : Int) + (m2 : Int) + (m3 : Int) := by omega
  rw [ecast] at hmk
  clear ecast
  have H1 : Hid (Strs w a1 s1) := h1
  have H2 : Hid (Strs w a2 s2) := h2
  have H3 : Hid (Strs w a3 s3) := h3
  have L1 : Hid (s1.length = m1) := l1
  have L2 : Hid (s2.length = m2) := l2
  have L3 : Hid (s3.length = m3) := l3
  clear h1 h2 h3 l1 l2 l3
  go_enter Try.func31, Try.ntmps31
  go_wp2_with fail
  go_loopw [7, 8] (fun out i wr => ∃ k : Nat, k ≤ m1 ∧ i = .int .i64 k ∧ out = .slice (some ⟨w.heap.size, 0, none⟩) (k) (m1 + m2 + m3) ∧ Hid (Below w.heap.size w wr ∧ Fill wr w.heap.size (m1 + m2 + m3) (k) (s1.take k))) (fun _ i _ => m1 - (RowKit.intOf i).toNat)
  case atStart => exact ⟨0, by omega, rfl, rfl, (Below.refl _ _).alloc (Nat.le_refl _) _, fill_start w _⟩
  case round =>
    obtain ⟨k, hk, rfl, rfl, hF⟩ := hrel
    by_cases hlt : k < m1
    · obtain ⟨b, o, rfl, hb, gc⟩ : ∃ b o, a1 = some ⟨b, o, none⟩ ∧ b < w.heap.size ∧ ∀ i, i < s1.length → w.cell? ⟨b, o + i, none⟩ = some (.string (s1.getD i ⟨#[]⟩)) := H1.out.lies.elim (fun e => by have := L1.out; rw [e] at this; simp at this; omega) id
      have hlt' : k < s1.length := by rw [L1.out]; exact hlt
      have ht := take_snoc s1 k hlt'
      obtain ⟨s, hs⟩ : ∃ s, s = s1.getD k ⟨#[]⟩ := ⟨_, rfl⟩
      have e1 : wr.cell? ⟨b, o + k, none⟩ = some (.string s) := by rw [hs]; exact (hF.out.1.cell (p := ⟨b, o + k, none⟩) hb).trans (gc k hlt')
      rw [← hs] at ht
      have HT : Hid (s1.take (k + 1) = s1.take k ++ [s]) := by show _ = _; rw [ht]
      have hlg := hF.out.2.lt
      obtain ⟨v, hv⟩ := Option.isSome_iff_exists.1 (hF.out.2.some' (k) (by omega))
      have hfz := hF.out.2.free (k)
      have hroom : k + 1 ≤ m1 + m2 + m3 := by omega
      clear hs ht gc hlt'
      go_wp2_with fail
      refine ⟨⟨k + 1, by omega, by go_num, rfl, ?_, ?_⟩, by simp [RowKit.intOf]; omega⟩
      · exact (hF.out.1.setCell (Nat.le_refl _) _).alloc (by have := hF.out.1.size; simpa [World.setCell] using this) _
      · rw [HT.out]
        exact (hF.out.2.push (by omega) s).alloc _
    · have hke : m1 = k := by omega
      subst hke
      have HF1 : Hid (Below w.heap.size w wr ∧ Fill wr w.heap.size (m1 + m2 + m3) (m1) (s1)) := by
        have e := hF.out
        rw [List.take_of_length_le (by rw [L1.out]; exact Nat.le_refl _)] at e
        exact e
      go_wp2_with fail
      go_loopw [7, 9] (fun out i wr => ∃ k : Nat, k ≤ m2 ∧ i = .int .i64 k ∧ out = .slice (some ⟨w.heap.size, 0, none⟩) (m1 + k) (m1 + m2 + m3) ∧ Hid (Below w.heap.size w wr ∧ Fill wr w.heap.size (m1 + m2 + m3) (m1 + k) (s1 ++ s2.take k))) (fun _ i _ => m2 - (RowKit.intOf i).toNat)
      case atStart => exact ⟨0, by omega, rfl, rfl, HF1.out.1, by have e := HF1.out.2; simpa using e⟩
      case round =>
        obtain ⟨k, hk, rfl, rfl, hF⟩ := hrel
        by_cases hlt : k < m2
        · obtain ⟨b, o, rfl, hb, gc⟩ : ∃ b o, a2 = some ⟨b, o, none⟩ ∧ b < w.heap.size ∧ ∀ i, i < s2.length → w.cell? ⟨b, o + i, none⟩ = some (.string (s2.getD i ⟨#[]⟩)) := H2.out.lies.elim (fun e => by have := L2.out; rw [e] at this; simp at this; omega) id
          have hlt' : k < s2.length := by rw [L2.out]; exact hlt
          have ht := take_snoc s2 k hlt'
          obtain ⟨s, hs⟩ : ∃ s, s = s2.getD k ⟨#[]⟩ := ⟨_, rfl⟩
          have e1 : wr.cell? ⟨b, o + k, none⟩ = some (.string s) := by rw [hs]; exact (hF.out.1.cell (p := ⟨b, o + k, none⟩) hb).trans (gc k hlt')
          rw [← hs] at ht
          have HT : Hid (s1 ++ s2.take (k + 1) = s1 ++ s2.take k ++ [s]) := by show _ = _; rw [ht]; simp
          have hlg := hF.out.2.lt
          obtain ⟨v, hv⟩ := Option.isSome_iff_exists.1 (hF.out.2.some' (m1 + k) (by omega))
          have hfz := hF.out.2.free (m1 + k)
          have hroom : m1 + k + 1 ≤ m1 + m2 + m3 := by omega
          clear hs ht gc hlt'
          go_wp2_with fail
          refine ⟨⟨k + 1, by omega, by go_num, rfl, ?_, ?_⟩, by simp [RowKit.intOf]; omega⟩
          · exact (hF.out.1.setCell (Nat.le_refl _) _).alloc (by have := hF.out.1.size; simpa [World.setCell] using this) _
          · rw [HT.out]
            exact (hF.out.2.push (by omega) s).alloc _
        · have hke : m2 = k := by omega
          subst hke
          have HF2 : Hid (Below w.heap.size w wr ∧ Fill wr w.heap.size (m1 + m2 + m3) (m1 + m2) (s1 ++ s2)) := by
            have e := hF.out
            rw [List.take_of_length_le (by rw [L2.out]; exact Nat.le_refl _)] at e
            exact e
          go_wp2_with fail
          go_loopw [7, 10] (fun out i wr => ∃ k : Nat, k ≤ m3 ∧ i = .int .i64 k ∧ out = .slice (some ⟨w.heap.size, 0, none⟩) (m1 + m2 + k) (m1 + m2 + m3) ∧ Hid (Below w.heap.size w wr ∧ Fill wr w.heap.size (m1 + m2 + m3) (m1 + m2 + k) (s1 ++ s2 ++ s3.take k))) (fun _ i _ => m3 - (RowKit.intOf i).toNat)
          case atStart => exact ⟨0, by omega, rfl, rfl, HF2.out.1, by have e := HF2.out.2; simpa using e⟩
          case round =>
            obtain ⟨k, hk, rfl, rfl, hF⟩ := hrel
            by_cases hlt : k < m3
            · obtain ⟨b, o, rfl, hb, gc⟩ : ∃ b o, a3 = some ⟨b, o, none⟩ ∧ b < w.heap.size ∧ ∀ i, i < s3.length → w.cell? ⟨b, o + i, none⟩ = some (.string (s3.getD i ⟨#[]⟩)) := H3.out.lies.elim (fun e => by have := L3.out; rw [e] at this; simp at this; omega) id
              have hlt' : k < s3.length := by rw [L3.out]; exact hlt
              have ht := take_snoc s3 k hlt'
              obtain ⟨s, hs⟩ : ∃ s, s = s3.getD k ⟨#[]⟩ := ⟨_, rfl⟩
              have e1 : wr.cell? ⟨b, o + k, none⟩ = some (.string s) := by rw [hs]; exact (hF.out.1.cell (p := ⟨b, o + k, none⟩) hb).trans (gc k hlt')
              rw [← hs] at ht
              have HT : Hid (s1 ++ s2 ++ s3.take (k + 1) = s1 ++ s2 ++ s3.take k ++ [s]) := by show _ = _; rw [ht]; simp
              have hlg := hF.out.2.lt
              obtain ⟨v, hv⟩ := Option.isSome_iff_exists.1 (hF.out.2.some' (m1 + m2 + k) (by omega))
              have hfz := hF.out.2.free (m1 + m2 + k)
              have hroom : m1 + m2 + k + 1 ≤ m1 + m2 + m3 := by omega
              clear hs ht gc hlt'
              go_wp2_with fail
              refine ⟨⟨k + 1, by omega, by go_num, rfl, ?_, ?_⟩, by simp [RowKit.intOf]; omega⟩
              · exact (hF.out.1.setCell (Nat.le_refl _) _).alloc (by have := hF.out.1.size; simpa [World.setCell] using this) _
              · rw [HT.out]
                exact (hF.out.2.push (by omega) s).alloc _
            · have hke : m3 = k := by omega
              subst hke
              have HF3 : Hid (Below w.heap.size w wr ∧ Fill wr w.heap.size (m1 + m2 + m3) (m1 + m2 + m3) (s1 ++ s2 ++ s3)) := by
                have e := hF.out
                rw [List.take_of_length_le (by rw [L3.out]; exact Nat.le_refl _)] at e
                exact e
              go_wp2_with fail
              go_ret
              exact ⟨_, rfl, HF3.out.2.strs (fun s hs => by
                rcases List.mem_append.1 hs with h | h
                · rcases List.mem_append.1 h with h | h
                  · exact H1.out.small s h
                  · exact H2.out.small s h
                · exact H3.out.small s h), HF3.out.1⟩
end Go.Proofs.Qxb6000751a.Por
