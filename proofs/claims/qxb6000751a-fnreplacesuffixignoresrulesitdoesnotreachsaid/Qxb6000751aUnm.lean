import Derived.Test.Qxb6000751aJoin
namespace Go.Proofs.Qxb6000751a.Por
open Go.ChangeShapes Go.WideShapes Go.RowKit
set_option linter.unusedVariables false

/-- The rules that do not end the word. -/
def kept (bs : List Int) (rules : List (ByteArray × ByteArray)) : List (ByteArray × ByteArray) := rules.filter (fun p => !endsB bs p.1)

theorem kept_len (bs : List Int) (rules : List (ByteArray × ByteArray)) : (kept bs rules).length ≤ rules.length := List.length_filter_le _ _

theorem kept_step (bs : List Int) (rules : List (ByteArray × ByteArray)) (k : Nat) (s r : ByteArray) (h : rules[k]? = some (s, r)) :
    kept bs (rules.take (k + 1)) = if endsB bs s then kept bs (rules.take k) else kept bs (rules.take k) ++ [(s, r)] := by
  obtain ⟨h1, h2⟩ := List.getElem?_eq_some_iff.1 h
  unfold kept
  rw [List.take_succ_eq_append_getElem h1, List.filter_append, h2]
  cases e : endsB bs s <;> simp [e]

structure Unm (w wr : World) (m j : Nat) (ks : List (ByteArray × ByteArray)) : Prop where
  bel : Below w.heap.size w wr
  os : Fill wr w.heap.size m j (ks.map (·.1))
  or' : Fill wr (w.heap.size + 1) m j (ks.map (·.2))

theorem unm_step {w w1 : World} {m j : Nat} {ks : List (ByteArray × ByteArray)} (h : Unm w w1 m j ks) (s r : ByteArray) (hj : j + 1 ≤ m) :
    Unm w ((((w1.setCell ⟨w.heap.size, j, none⟩ (.string s)).setCell ⟨w.heap.size + 1, j, none⟩ (.string r)).alloc (.cells #[.string s] 9)).alloc (.cells #[.string r] 9)) m (j + 1) (ks ++ [(s, r)]) where
  bel := by
    have hs := h.bel.size
    refine (((h.bel.setCell (Nat.le_refl _) _).setCell (Nat.le_succ _) _).alloc ?_ _).alloc ?_ _
    · simpa [World.setCell] using hs
    · rw [World.size_alloc]
      have : ((w1.setCell ⟨w.heap.size, j, none⟩ (.string s)).setCell ⟨w.heap.size + 1, j, none⟩ (.string r)).heap.size = w1.heap.size := by simp [World.setCell]
      omega
  os := by
    rw [List.map_append]
    exact (((h.os.push hj s).other ⟨w.heap.size + 1, j, none⟩ (.string r) (Nat.succ_ne_self _)).alloc _).alloc _
  or' := by
    rw [List.map_append]
    exact (((h.or'.other ⟨w.heap.size, j, none⟩ (.string s) (Nat.ne_of_lt (Nat.lt_succ_self _))).push hj r).alloc _).alloc _

set_option maxHeartbeats 2000000 in
theorem unm_calls (a a1 a2 : Option Addr) (n c m c1 c2 : Nat) (bs : List Int) (ss rr : List ByteArray) (w : World) (hb : Bs w a n bs) (hby : bytesIn bs) (hn : n ≤ 1048576) (h1 : Strs w a1 ss) (h2 : Strs w a2 rr) (l1 : ss.length = m) (l2 : rr.length = m) (hm : m ≤ 1048576) :
    Calls Try.prog 30 #[.slice a n c, .slice a1 m c1, .slice a2 m c2] w fun e w' => ∃ b1 b2 j, e = .returned (.tuple #[.slice b1 j m, .slice b2 j m]) ∧ j = (kept bs (ss.zip rr)).length ∧ Strs w' b1 ((kept bs (ss.zip rr)).map (·.1)) ∧ Strs w' b2 ((kept bs (ss.zip rr)).map (·.2)) ∧ Below w.heap.size w w' := by
  have hmk := make_strs m (by omega)
  have HB : Hid (Bs w a n bs) := hb
  have H1 : Hid (Strs w a1 ss) := h1
  have H2 : Hid (Strs w a2 rr) := h2
  have L1 : Hid (ss.length = m) := l1
  have L2 : Hid (rr.length = m) := l2
  clear hb h1 h2 l1 l2
  go_enter Try.func30, Try.ntmps30
  go_wp2_with fail
  go_loopw [8, 9, 10] (fun os or' i wr => ∃ k j : Nat, k ≤ m ∧ j ≤ k ∧ i = .int .i64 k ∧ os = .slice (some ⟨w.heap.size, 0, none⟩) j m ∧ or' = .slice (some ⟨w.heap.size + 1, 0, none⟩) j m ∧ Hid (Unm w wr m j (kept bs ((ss.zip rr).take k)))) (fun _ _ i _ => m - (RowKit.intOf i).toNat)
  case atStart =>
    refine ⟨0, 0, by omega, by omega, rfl, rfl, rfl, ⟨((Below.refl _ _).alloc (Nat.le_refl _) _).alloc (by simp) _, (fill_start w m).alloc _, ?_⟩⟩
    have := fill_start (w.alloc (.cells (madeCells #[.string ⟨#[]⟩] m) 9)) m
    rw [World.size_alloc] at this
    exact this
  case round =>
    obtain ⟨k, j, hk, hjk, rfl, rfl, rfl, hU⟩ := hrel
    by_cases hlt : k < m
    · obtain ⟨x1, o1, rfl, hb1, g1⟩ : ∃ b o, a1 = some ⟨b, o, none⟩ ∧ b < w.heap.size ∧ ∀ i, i < ss.length → w.cell? ⟨b, o + i, none⟩ = some (.string (ss.getD i ⟨#[]⟩)) := H1.out.lies.elim (fun e => by have := L1.out; rw [e] at this; simp at this; omega) id
      obtain ⟨x2, o2, rfl, hb2, g2⟩ : ∃ b o, a2 = some ⟨b, o, none⟩ ∧ b < w.heap.size ∧ ∀ i, i < rr.length → w.cell? ⟨b, o + i, none⟩ = some (.string (rr.getD i ⟨#[]⟩)) := H2.out.lies.elim (fun e => by have := L2.out; rw [e] at this; simp at this; omega) id
      obtain ⟨s, hs⟩ : ∃ s, s = ss.getD k ⟨#[]⟩ := ⟨_, rfl⟩
      obtain ⟨r, hr⟩ : ∃ r, r = rr.getD k ⟨#[]⟩ := ⟨_, rfl⟩
      have hlt1 : k < ss.length := by rw [L1.out]; exact hlt
      have hlt2 : k < rr.length := by rw [L2.out]; exact hlt
      have e1 : wr.cell? ⟨x1, o1 + k, none⟩ = some (.string s) := by rw [hs]; exact (hU.out.bel.cell (p := ⟨x1, o1 + k, none⟩) hb1).trans (g1 k hlt1)
      have e2 : wr.cell? ⟨x2, o2 + k, none⟩ = some (.string r) := by rw [hr]; exact (hU.out.bel.cell (p := ⟨x2, o2 + k, none⟩) hb2).trans (g2 k hlt2)
      have hzip : (ss.zip rr)[k]? = some (s, r) := by
        rw [List.getElem?_zip_eq_some, hs, hr, List.getD_eq_getElem?_getD, List.getD_eq_getElem?_getD, List.getElem?_eq_getElem hlt1, List.getElem?_eq_getElem hlt2]
        exact ⟨rfl, rfl⟩
      have HK : Hid (kept bs ((ss.zip rr).take (k + 1)) = if endsB bs s then kept bs ((ss.zip rr).take k) else kept bs ((ss.zip rr).take k) ++ [(s, r)]) := kept_step bs _ k s r hzip
      have hssz : s.size ≤ 1048576 := by
        have : s ∈ ss := by rw [hs, List.getD_eq_getElem?_getD, List.getElem?_eq_getElem hlt1]; exact List.getElem_mem hlt1
        exact H1.out.small s this
      have C := in_calls a n c bs s wr (HB.out.below hU.out.bel) hby hn hssz
      clear hs hr g1 g2 hzip hlt1 hlt2
      have hlg1 := hU.out.os.lt
      have hlg2 := hU.out.or'.lt
      obtain ⟨v1, hv1⟩ := Option.isSome_iff_exists.1 (hU.out.os.some' j (by omega))
      obtain ⟨v2, hv2⟩ := Option.isSome_iff_exists.1 (hU.out.or'.some' j (by omega))
      have hf1 := hU.out.os.free j
      have hf2 := hU.out.or'.free j
      have hroom : j + 1 ≤ m := by omega
      have hnx : ¬ x2 = w.heap.size := by omega
      cases he : endsB bs s with
      | true =>
        rw [he] at C
        have HK2 : Hid (kept bs ((ss.zip rr).take (k + 1)) = kept bs ((ss.zip rr).take k)) := by show _ = _; rw [HK.out, he]; rfl
        clear he
        go_wp2_with fail
        refine C.mono ?_
        rintro e w1 ⟨rfl, q, hw⟩
        obtain rfl := hw.symm
        clear hw C
        go_wp2_with fail
        refine ⟨⟨k + 1, j, by omega, by omega, by go_num, rfl, rfl, ?_⟩, by simp [RowKit.intOf]; omega⟩
        show Unm w _ m j _
        rw [HK2.out]
        exact ⟨below_drewN hU.out.bel _, hU.out.os.below (below_drewN (Below.refl wr.heap.size wr) q) hlg1, hU.out.or'.below (below_drewN (Below.refl wr.heap.size wr) q) hlg2⟩
      | false =>
        rw [he] at C
        have HK2 : Hid (kept bs ((ss.zip rr).take (k + 1)) = kept bs ((ss.zip rr).take k) ++ [(s, r)]) := by show _ = _; rw [HK.out, he]; rfl
        clear he
        go_wp2_with fail
        refine C.mono ?_
        rintro e w1 ⟨rfl, q, hw⟩
        have e1' : w1.cell? ⟨x1, o1 + k, none⟩ = some (.string s) := by rw [hw]; exact e1
        have e2' : w1.cell? ⟨x2, o2 + k, none⟩ = some (.string r) := by rw [hw]; exact e2
        have hv1' : w1.cell? ⟨w.heap.size, j, none⟩ = some v1 := by rw [hw]; exact hv1
        have hv2' : w1.cell? ⟨w.heap.size + 1, j, none⟩ = some v2 := by rw [hw]; exact hv2
        have hf1' : w1.frozen? ⟨w.heap.size, j, none⟩ = false := by rw [hw]; exact hf1
        have hf2' : w1.frozen? ⟨w.heap.size + 1, j, none⟩ = false := by rw [hw]; exact hf2
        have hl1' : w.heap.size < w1.heap.size := by rw [hw]; exact hlg1
        have hl2' : w.heap.size + 1 < w1.heap.size := by rw [hw]; exact hlg2
        have hx1' : x1 < w1.heap.size := by omega
        have hx2' : x2 < w1.heap.size := by omega
        have HU1 : Hid (Unm w w1 m j (kept bs ((ss.zip rr).take k))) := by
          rw [hw]
          exact ⟨below_drewN hU.out.bel _, hU.out.os.below (below_drewN (Below.refl wr.heap.size wr) q) hlg1, hU.out.or'.below (below_drewN (Below.refl wr.heap.size wr) q) hlg2⟩
        clear hw C e1 e2 hv1 hv2 hf1 hf2 hlg1 hlg2 hU
        go_wp2_with fail
        refine ⟨⟨k + 1, j + 1, by omega, by omega, by go_num, rfl, rfl, ?_⟩, by simp [RowKit.intOf]; omega⟩
        show Unm w _ m (j + 1) _
        rw [HK2.out]
        exact unm_step HU1.out s r hroom
    · have hke : k = m := by omega
      have HK2 : Hid (kept bs ((ss.zip rr).take k) = kept bs (ss.zip rr)) := by
        show _ = _
        rw [List.take_of_length_le (by rw [List.length_zip, L1.out, L2.out]; omega)]
      clear hke
      go_wp2_with fail
      go_ret2
      have U := hU.out
      rw [HK2.out] at U
      have small1 : ∀ s ∈ (kept bs (ss.zip rr)).map (·.1), s.size ≤ 1048576 := fun s hs => by
        obtain ⟨p, hp, rfl⟩ := List.mem_map.1 hs
        exact H1.out.small _ (List.of_mem_zip (List.mem_filter.1 hp).1).1
      have small2 : ∀ s ∈ (kept bs (ss.zip rr)).map (·.2), s.size ≤ 1048576 := fun s hs => by
        obtain ⟨p, hp, rfl⟩ := List.mem_map.1 hs
        exact H2.out.small _ (List.of_mem_zip (List.mem_filter.1 hp).1).2
      exact ⟨_, _, j, rfl, by rw [← U.os.len, List.length_map], U.os.strs small1, U.or'.strs small2, U.bel⟩
end Go.Proofs.Qxb6000751a.Por
