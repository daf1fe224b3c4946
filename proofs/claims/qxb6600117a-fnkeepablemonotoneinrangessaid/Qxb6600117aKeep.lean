import Derived.Test.Qxb6600117aClone
namespace Go.Proofs.Qxb6600117a.Kp
open Go.ChangeShapes Go.WideShapes Go.RowKit
set_option linter.unusedVariables false

def row (c : Int → Int) : Nat → Value := fun j => .int .i64 (c j)

theorem mem_getD {xs : List Int} {k : Nat} (h : k < xs.length) : xs.getD k 0 ∈ xs := by
  rw [List.getD_eq_getElem?_getD, List.getElem?_eq_getElem h]; exact List.getElem_mem h
theorem take_succ' {xs : List Int} {k : Nat} (h : k < xs.length) : xs.take (k + 1) = xs.take k ++ [xs.getD k 0] := by
  rw [List.take_succ_eq_append_getElem h, List.getD_eq_getElem?_getD, List.getElem?_eq_getElem h]; rfl
theorem drop_cons {xs : List Int} {k : Nat} (h : k < xs.length) : xs.drop k = xs.getD k 0 :: xs.drop (k + 1) := by
  rw [List.drop_eq_getElem_cons h, List.getD_eq_getElem?_getD, List.getElem?_eq_getElem h]; rfl
theorem cnt_take_succ {xs : List Int} {k : Nat} (h : k < xs.length) (v : Int) : cnt (xs.take (k + 1)) v = cnt (xs.take k) v + (if xs.getD k 0 = v then 1 else 0) := by
  rw [take_succ' h, cnt_append, cnt, cnt]; omega
theorem cnt_take_small (xs : List Int) (k : Nat) (v : Int) : 0 ≤ cnt (xs.take k) v ∧ cnt (xs.take k) v ≤ k := by
  have h1 := cnt_nonneg (xs.take k) v
  have h2 := cnt_len (xs.take k) v
  rw [List.length_take] at h2
  omega

/-- What the third loop leaves. -/
def Cleared (SX : List Int) (k : Nat) (c : Int → Int) : Prop := ∀ v : Int, 0 ≤ c v ∧ c v ≤ cnt SX v ∧ (v ∈ SX.take k → c v = 0)

/-- The count of y zeroed. -/
def clr (c : Int → Int) (y : Int) : Int → Int := fun v => if v = y then 0 else c v
theorem row_clr (c : Int → Int) (y : Nat) (j : Nat) : (if j = y then Value.int .i64 0 else row c j) = row (clr c y) j := by
  unfold row clr
  by_cases e : j = y
  · rw [if_pos e, e, if_pos rfl]
  · rw [if_neg e, if_neg (by omega)]
theorem cleared_next {SX : List Int} {k : Nat} {c : Int → Int} {y : Int} (hkl : k < SX.length) (h : Cleared SX k c) (hx : y = SX.getD k 0) : Cleared SX (k + 1) (clr c y) := fun v => by
  have h0 := h v
  have h1 := cnt_nonneg SX v
  unfold clr
  by_cases e : v = y
  · rw [if_pos e]
    exact ⟨by omega, by omega, fun _ => rfl⟩
  · rw [if_neg e]
    refine ⟨h0.1, h0.2.1, fun hm => h0.2.2 ?_⟩
    rw [take_succ' hkl, ← hx] at hm
    rcases List.mem_append.1 hm with h | h
    · exact h
    · exact absurd (List.mem_singleton.1 h) e

theorem cleared_all {SX : List Int} {c : Int → Int} (h : Cleared SX SX.length c) (v : Int) : c v = 0 := by
  by_cases hv : v ∈ SX
  · exact (h v).2.2 (by rw [List.take_length]; exact hv)
  · have := cnt_zero SX v hv
    have := h v
    omega

/-- What keepable answers. -/
def KeepPost (g N : Nat) (r : Int) (w : World) (e : Ending) (w' : World) : Prop :=
  e = .returned (.int .i64 r) ∧ Hid (w'.rowIs g 3 N (row fun _ => 0)) ∧ Hid (w.grownBy w' (some g))

theorem grown_refl (w : World) (row : Option Nat) : w.grownBy w row := ⟨rfl, rfl, rfl, Nat.le_refl _, fun _ _ _ => rfl⟩
theorem grown_set {w w' : World} {b : Nat} (h : w.grownBy w' (some b)) (a : Addr) (ha : a.block = b) (v : Value) : w.grownBy (w'.setCell a v) (some b) :=
  ⟨h.os, h.tape, h.output, by simpa [World.setCell] using h.size, fun k hk hne => (Below.heap_setCell w' a v k (fun e => hne (by rw [e, ha]))).trans (h.block k hk hne)⟩
theorem grownBy_drewN {w w' : World} {r : Option Nat} (h : w.grownBy w' r) (n : Nat) : w.grownBy (w'.drewN n) r := ⟨h.os, h.tape, h.output, h.size, h.block⟩
theorem rowIs_drewN {w : World} {b : Nat} {t : TypeId} {n : Nat} {f : Nat → Value} (h : w.rowIs b t n f) (m : Nat) : (w.drewN m).rowIs b t n f := h

set_option maxHeartbeats 4000000 in
theorem keep_no (B g N : Nat) (a b : Option Addr) (na nb : Nat) (xs ys : List Int) (lo1 hi1 lo2 hi2 : Nat) (upTo : Int) (w : World)
    (hB : B < w.heap.size) (hBg : B ≠ g) (hN : N ≤ 65536) (hna : na ≤ 65536) (hnb : nb ≤ 65536)
    (c0 : w.cell? ⟨B, 0, none⟩ = some (.slice a na na)) (c1 : w.cell? ⟨B, 1, none⟩ = some (.slice b nb nb)) (c12 : w.cell? ⟨B, 12, none⟩ = some (.slice (some ⟨g, 0, none⟩) N N))
    (ha : Ints w a na xs) (hb : Ints w b nb ys) (hag : ∀ p, a = some p → p.block ≠ g) (hbg : ∀ p, b = some p → p.block ≠ g)
    (hr : w.rowIs g 3 N (row fun _ => 0)) (hlo1 : lo1 ≤ hi1) (hhi1 : hi1 ≤ na) (hlo2 : lo2 ≤ hi2) (hhi2 : hi2 ≤ nb)
    (hRA : Rng N (sub xs lo1 hi1)) (hRB : Rng N (sub ys lo2 hi2)) (hsw : hi1 - lo1 ≤ hi2 - lo2) :
    Calls Try.prog 28 #[.pointer (some ⟨B, 0, none⟩), .int .i64 lo1, .int .i64 hi1, .int .i64 lo2, .int .i64 hi2, .int .i64 upTo] w fun e w' => KeepPost g N (keepF upTo (sub xs lo1 hi1) (sub ys lo2 hi2)) w e w' := by
  obtain ⟨sa, sn, sc, hm1, hI1, hp1, hs1⟩ := slice_run a na xs lo1 hi1 w ha hlo1 hhi1
  obtain ⟨la, ln, lc, hm2, hI2, hp2, hs2⟩ := slice_run b nb ys lo2 hi2 w hb hlo2 hhi2
  have hle : ¬ ln < sn := by omega
  have HK : Hid (keepF upTo (sub xs lo1 hi1) (sub ys lo2 hi2) = run upTo (cnt (sub xs lo1 hi1)) 0 (sub ys lo2 hi2)) := by
    show _ = _
    unfold keepF
    rw [if_neg (by rw [hI1.len, hI2.len]; omega)]
  have HG1 : Hid (∀ p, sa = some p → p.block ≠ g) := fun p e => by obtain ⟨q, hq, hpq⟩ := hp1 p e; rw [hpq]; exact hag q hq
  have HG2 : Hid (∀ p, la = some p → p.block ≠ g) := fun p e => by obtain ⟨q, hq, hpq⟩ := hp2 p e; rw [hpq]; exact hbg q hq
  have hsn : sn ≤ 65536 := by omega
  have hln : ln ≤ 65536 := by omega
  generalize hXX : sub xs lo1 hi1 = SX at HK hI1 hRA ⊢
  generalize hYY : sub ys lo2 hi2 = LX at HK hI2 hRB ⊢
  have HR1 : Hid (Rng N SX) := hRA
  have HR2 : Hid (Rng N LX) := hRB
  have HI1 : Hid (Ints w sa sn SX) := hI1
  have HI2 : Hid (Ints w la ln LX) := hI2
  have HR : Hid (w.rowIs g 3 N (row fun _ => 0)) := hr
  have HC12 : Hid (w.cell? ⟨B, 12, none⟩ = some (.slice (some ⟨g, 0, none⟩) N N)) := c12
  clear hp1 hp2 hI1 hI2 hRA hRB hr hag hbg ha hb hXX hYY c12
  go_enter Try.func28, Try.ntmps28
  go_wp2_with fail
  go_quiet (fail)
  go_wp2_with fail
  clear hs1 hs2 c0 c1
  go_loopw [45] (fun i wr => ∃ k : Nat, k ≤ sn ∧ i = .int .i64 k ∧ Hid (wr.rowIs g 3 N (row (cnt (SX.take k)))) ∧ Hid (w.grownBy wr (some g))) (fun i _ => sn - (RowKit.intOf i).toNat)
  case atStart => exact ⟨0, by omega, rfl, rowIs_drewN HR.out _, grownBy_drewN (grown_refl _ _) _⟩
  case round =>
    obtain ⟨k, hk, rfl, hrow, hgr⟩ := hrel
    by_cases hlt : k < sn
    · obtain ⟨sp, rfl, hb1, g1⟩ : ∃ p : Addr, sa = some p ∧ p.block < w.heap.size ∧ ∀ i, i < sn → w.cell? (p.add i) = some (.int .i64 (SX.getD i 0)) := HI1.out.lies.elim (fun e => by omega) id
      have hkl : k < SX.length := by rw [HI1.out.len]; exact hlt
      obtain ⟨x, hx⟩ : ∃ x, x = SX.getD k 0 := ⟨_, rfl⟩
      have e1 : wr.cell? (sp.add k) = some (.int .i64 x) := by
        rw [hx, ← g1 k hlt]
        exact World.cell?_of_block (w := w) (hgr.out.block _ (by rw [block_add]; exact hb1) (by rw [block_add]; intro e'; cases e'; exact HG1.out _ rfl rfl))
      have e12 : wr.cell? ⟨B, 12, none⟩ = some (.slice (some ⟨g, 0, none⟩) N N) := by
        rw [← HC12.out]
        exact World.cell?_of_block (w := w) (hgr.out.block _ hB (by intro e'; cases e'; exact hBg rfl))
      have hxN := HR1.out _ (mem_getD hkl)
      rw [← hx] at hxN
      obtain ⟨y, rfl⟩ : ∃ y : Nat, x = (y : Int) := ⟨x.toNat, by omega⟩
      have hy : y < N := by omega
      obtain ⟨z, hz⟩ : ∃ z, z = cnt (SX.take k) y := ⟨_, rfl⟩
      have ez : wr.cell? ⟨g, y, none⟩ = some (.int .i64 z) := by rw [hz]; exact hrow.out.cell hy
      have ef : wr.frozen? ⟨g, y, none⟩ = false := hrow.out.frozen y
      have hz2 := cnt_take_small SX k y
      rw [← hz] at hz2
      obtain ⟨hz3, hz4⟩ := hz2
      have HN : Hid (∀ j : Nat, (if j = y then Value.int .i64 (z + 1) else row (cnt (SX.take k)) j) = row (cnt (SX.take (k + 1))) j) := fun j => by
        unfold row
        rw [cnt_take_succ hkl, ← hx]
        by_cases e : j = y
        · rw [if_pos e, e, if_pos rfl, hz]
        · rw [if_neg e, if_neg (by omega), Int.add_zero]
      clear hx hz g1 hxN hkl
      go_wp2_with fail
      exact ⟨⟨k + 1, by omega, by go_num, (hrow.out.set y _).congr (fun j _ => HN.out j), grown_set hgr.out _ rfl _⟩, by simp [RowKit.intOf]; omega⟩
    · obtain rfl : sn = k := by omega
      have HROW : Hid (wr.rowIs g 3 N (row (cnt SX))) := by
        have := hrow.out
        rw [List.take_of_length_le (by rw [HI1.out.len]; omega)] at this
        exact this
      clear hrow
      go_wp2_with fail
      go_loopw [17, 61] (fun s i wr => ∃ (k kept : Nat) (c : Int → Int), k ≤ ln ∧ kept ≤ k ∧ i = .int .i64 k ∧ s = .int .i64 kept ∧ Hid (wr.rowIs g 3 N (row c)) ∧ Hid (w.grownBy wr (some g)) ∧ Hid (∀ v, 0 ≤ c v ∧ c v ≤ cnt SX v) ∧ Hid (run upTo (cnt SX) 0 LX = run upTo c kept (LX.drop k))) (fun _ i _ => ln - (RowKit.intOf i).toNat)
      case atStart => exact ⟨0, 0, cnt SX, by omega, by omega, rfl, rfl, HROW, hgr, fun v => ⟨cnt_nonneg SX v, Int.le_refl _⟩, rfl⟩
      case round =>
        clear HROW hgr
        obtain ⟨k, kept, c, hk2, hk3, rfl, rfl, hrow, hgr, HC, HRUN⟩ := hrel
        by_cases hgo : k < ln ∧ ¬ ((kept : Int) = upTo)
        · obtain ⟨hlt2, hku⟩ := hgo
          have hku' : ((kept : Int) == upTo) = false := beq_eq_false_iff_ne.2 hku
          obtain ⟨lp, rfl, hb1, g1⟩ : ∃ p : Addr, la = some p ∧ p.block < w.heap.size ∧ ∀ i, i < ln → w.cell? (p.add i) = some (.int .i64 (LX.getD i 0)) := HI2.out.lies.elim (fun e => by omega) id
          have hkl : k < LX.length := by rw [HI2.out.len]; exact hlt2
          obtain ⟨x, hx⟩ : ∃ x, x = LX.getD k 0 := ⟨_, rfl⟩
          have e1 : wr.cell? (lp.add k) = some (.int .i64 x) := by
            rw [hx, ← g1 k hlt2]
            exact World.cell?_of_block (w := w) (hgr.out.block _ (by rw [block_add]; exact hb1) (by rw [block_add]; intro e'; cases e'; exact HG2.out _ rfl rfl))
          have e12 : wr.cell? ⟨B, 12, none⟩ = some (.slice (some ⟨g, 0, none⟩) N N) := by
            rw [← HC12.out]
            exact World.cell?_of_block (w := w) (hgr.out.block _ hB (by intro e'; cases e'; exact hBg rfl))
          have hxN := HR2.out _ (mem_getD hkl)
          rw [← hx] at hxN
          obtain ⟨y, rfl⟩ : ∃ y : Nat, x = (y : Int) := ⟨x.toNat, by omega⟩
          have hy : y < N := by omega
          obtain ⟨z, hz⟩ : ∃ z, z = c y := ⟨_, rfl⟩
          have ez : wr.cell? ⟨g, y, none⟩ = some (.int .i64 z) := by rw [hz]; exact hrow.out.cell hy
          have ef : wr.frozen? ⟨g, y, none⟩ = false := hrow.out.frozen y
          have hz3 : 0 ≤ z := by rw [hz]; exact (HC.out y).1
          have hz4 : z ≤ 65536 := by
            have h1 := (HC.out y).2
            have h2 := cnt_len SX y
            rw [HI1.out.len] at h2
            omega
          have HRUN2 : Hid (run upTo (cnt SX) 0 LX = if 0 < c y then run upTo (dec c y) ((kept : Int) + 1) (LX.drop (k + 1)) else run upTo c kept (LX.drop (k + 1))) := by
            show _ = _
            rw [HRUN.out, drop_cons hkl, ← hx, run, if_neg hku]
          clear HRUN
          by_cases hp : 0 < z
          · have HRUN3 : Hid (run upTo (cnt SX) 0 LX = run upTo (dec c y) ((kept + 1 : Nat) : Int) (LX.drop (k + 1))) := by
              show _ = _
              rw [HRUN2.out, if_pos (by rw [← hz]; exact hp)]; rfl
            have HN : Hid (∀ j : Nat, (if j = y then Value.int .i64 (z - 1) else row c j) = row (dec c y) j) := fun j => by
              unfold row dec
              by_cases e : j = y
              · rw [if_pos e, e, if_pos rfl, hz]
              · rw [if_neg e, if_neg (by omega)]
            have HC2 : Hid (∀ v, 0 ≤ dec c y v ∧ dec c y v ≤ cnt SX v) := fun v => by
              unfold dec
              by_cases e : v = y
              · rw [if_pos e, e]; have := HC.out y; omega
              · rw [if_neg e]; exact HC.out v
            clear hx hz g1 hxN hkl HRUN2 hku
            go_wp2_with fail
            exact ⟨⟨k + 1, kept + 1, dec c y, by omega, by omega, by go_num, by go_num, (hrow.out.set y _).congr (fun j _ => HN.out j), grown_set hgr.out _ rfl _, HC2, HRUN3⟩, by simp [RowKit.intOf]; omega⟩
          · have HRUN3 : Hid (run upTo (cnt SX) 0 LX = run upTo c kept (LX.drop (k + 1))) := by
              show _ = _
              rw [HRUN2.out, if_neg (by rw [← hz]; exact hp)]
            clear hx hz g1 hxN hkl HRUN2 hku
            go_wp2_with fail
            exact ⟨⟨k + 1, kept, c, by omega, by omega, by go_num, rfl, hrow, hgr, HC, HRUN3⟩, by simp [RowKit.intOf]; omega⟩
        · have HRUN2 : Hid (run upTo (cnt SX) 0 LX = kept) := by
            show _ = _
            rw [HRUN.out]
            by_cases hlt2 : k < ln
            · have e : (kept : Int) = upTo := Classical.byContradiction fun h => hgo ⟨hlt2, h⟩
              rw [drop_cons (by rw [HI2.out.len]; exact hlt2), run, if_pos e]
            · rw [List.drop_of_length_le (by rw [HI2.out.len]; omega), run]
          have HCL : Hid (Cleared SX 0 c) := fun v => ⟨(HC.out v).1, (HC.out v).2, fun h => by cases h⟩
          clear HRUN HC
          have hside : (ln ≤ k) ∨ (∃ lp x, la = some lp ∧ wr.cell? (lp.add k) = some (.int .i64 x) ∧ k < ln ∧ ((kept : Int) == upTo) = true) := by
            by_cases hlt2 : k < ln
            · right
              have e : (kept : Int) = upTo := Classical.byContradiction fun h => hgo ⟨hlt2, h⟩
              obtain ⟨lp, rfl, hb1, g1⟩ : ∃ p : Addr, la = some p ∧ p.block < w.heap.size ∧ ∀ i, i < ln → w.cell? (p.add i) = some (.int .i64 (LX.getD i 0)) := HI2.out.lies.elim (fun e => by omega) id
              refine ⟨lp, LX.getD k 0, rfl, ?_, hlt2, beq_iff_eq.2 e⟩
              rw [← g1 k hlt2]
              exact World.cell?_of_block (w := w) (hgr.out.block _ (by rw [block_add]; exact hb1) (by rw [block_add]; intro e'; cases e'; exact HG2.out _ rfl rfl))
            · left; omega
          clear hgo
          rcases hside with hend | ⟨lp, x, rfl, e1, hlt2, hku⟩
          all_goals
            go_wp2_with fail
            go_loopw [90] (fun i wr => ∃ (k : Nat) (c : Int → Int), k ≤ sn ∧ i = .int .i64 k ∧ Hid (wr.rowIs g 3 N (row c)) ∧ Hid (w.grownBy wr (some g)) ∧ Hid (Cleared SX k c)) (fun i _ => sn - (RowKit.intOf i).toNat)
            case atStart => exact ⟨0, c, by omega, rfl, hrow, hgr, HCL⟩
            case round =>
              clear hrow hgr HCL
              obtain ⟨k3, c3, hk4, rfl, hrow, hgr, HCL⟩ := hrel
              by_cases hlt : k3 < sn
              · obtain ⟨sp, rfl, hb1, g1⟩ : ∃ p : Addr, sa = some p ∧ p.block < w.heap.size ∧ ∀ i, i < sn → w.cell? (p.add i) = some (.int .i64 (SX.getD i 0)) := HI1.out.lies.elim (fun e => by omega) id
                have hkl : k3 < SX.length := by rw [HI1.out.len]; exact hlt
                obtain ⟨x, hx⟩ : ∃ x, x = SX.getD k3 0 := ⟨_, rfl⟩
                have e1 : wr.cell? (sp.add k3) = some (.int .i64 x) := by
                  rw [hx, ← g1 k3 hlt]
                  exact World.cell?_of_block (w := w) (hgr.out.block _ (by rw [block_add]; exact hb1) (by rw [block_add]; intro e'; cases e'; exact HG1.out _ rfl rfl))
                have e12 : wr.cell? ⟨B, 12, none⟩ = some (.slice (some ⟨g, 0, none⟩) N N) := by
                  rw [← HC12.out]
                  exact World.cell?_of_block (w := w) (hgr.out.block _ hB (by intro e'; cases e'; exact hBg rfl))
                have hxN := HR1.out _ (mem_getD hkl)
                rw [← hx] at hxN
                obtain ⟨y, rfl⟩ : ∃ y : Nat, x = (y : Int) := ⟨x.toNat, by omega⟩
                have hy : y < N := by omega
                have ez : wr.cell? ⟨g, y, none⟩ = some (.int .i64 (c3 y)) := hrow.out.cell hy
                have ef : wr.frozen? ⟨g, y, none⟩ = false := hrow.out.frozen y
                have HN : Hid (∀ j : Nat, (if j = y then Value.int .i64 0 else row c3 j) = row (clr c3 y) j) := row_clr c3 y
                have HCL2 : Hid (Cleared SX (k3 + 1) (clr c3 y)) := cleared_next hkl HCL.out hx
                clear hx g1 hxN hkl
                go_wp2_with fail
                exact ⟨⟨k3 + 1, _, by omega, by go_num, (hrow.out.set y _).congr (fun j _ => HN.out j), grown_set hgr.out _ rfl _, HCL2⟩, by simp [RowKit.intOf]; omega⟩
              · obtain rfl : sn = k3 := by omega
                have HZ : Hid (wr.rowIs g 3 N (row fun _ => 0)) := hrow.out.congr fun j _ => by
                  unfold row
                  have := HCL.out
                  rw [← HI1.out.len] at this
                  rw [cleared_all this]
                go_wp2_with fail
                go_ret
                exact ⟨reti (by rw [HK.out, HRUN2.out]), HZ, hgr⟩

set_option maxHeartbeats 4000000 in
theorem keep_sw (B g N : Nat) (a b : Option Addr) (na nb : Nat) (xs ys : List Int) (lo1 hi1 lo2 hi2 : Nat) (upTo : Int) (w : World)
    (hB : B < w.heap.size) (hBg : B ≠ g) (hN : N ≤ 65536) (hna : na ≤ 65536) (hnb : nb ≤ 65536)
    (c0 : w.cell? ⟨B, 0, none⟩ = some (.slice a na na)) (c1 : w.cell? ⟨B, 1, none⟩ = some (.slice b nb nb)) (c12 : w.cell? ⟨B, 12, none⟩ = some (.slice (some ⟨g, 0, none⟩) N N))
    (ha : Ints w a na xs) (hb : Ints w b nb ys) (hag : ∀ p, a = some p → p.block ≠ g) (hbg : ∀ p, b = some p → p.block ≠ g)
    (hr : w.rowIs g 3 N (row fun _ => 0)) (hlo1 : lo1 ≤ hi1) (hhi1 : hi1 ≤ na) (hlo2 : lo2 ≤ hi2) (hhi2 : hi2 ≤ nb)
    (hRA : Rng N (sub xs lo1 hi1)) (hRB : Rng N (sub ys lo2 hi2)) (hsw : hi2 - lo2 < hi1 - lo1) :
    Calls Try.prog 28 #[.pointer (some ⟨B, 0, none⟩), .int .i64 lo1, .int .i64 hi1, .int .i64 lo2, .int .i64 hi2, .int .i64 upTo] w fun e w' => KeepPost g N (keepF upTo (sub xs lo1 hi1) (sub ys lo2 hi2)) w e w' := by
  obtain ⟨la, ln, lc, hm1, hI1, hp1, hs1⟩ := slice_run a na xs lo1 hi1 w ha hlo1 hhi1
  obtain ⟨sa, sn, sc, hm2, hI2, hp2, hs2⟩ := slice_run b nb ys lo2 hi2 w hb hlo2 hhi2
  have hle : sn < ln := by omega
  have HK : Hid (keepF upTo (sub xs lo1 hi1) (sub ys lo2 hi2) = run upTo (cnt (sub ys lo2 hi2)) 0 (sub xs lo1 hi1)) := by
    show _ = _
    unfold keepF
    rw [if_pos (by rw [hI1.len, hI2.len]; omega)]
  have HG1 : Hid (∀ p, la = some p → p.block ≠ g) := fun p e => by obtain ⟨q, hq, hpq⟩ := hp1 p e; rw [hpq]; exact hag q hq
  have HG2 : Hid (∀ p, sa = some p → p.block ≠ g) := fun p e => by obtain ⟨q, hq, hpq⟩ := hp2 p e; rw [hpq]; exact hbg q hq
  have hsn : sn ≤ 65536 := by omega
  have hln : ln ≤ 65536 := by omega
  generalize hXX : sub xs lo1 hi1 = LX at HK hI1 hRA ⊢
  generalize hYY : sub ys lo2 hi2 = SX at HK hI2 hRB ⊢
  have HR1 : Hid (Rng N LX) := hRA
  have HR2 : Hid (Rng N SX) := hRB
  have HI1 : Hid (Ints w la ln LX) := hI1
  have HI2 : Hid (Ints w sa sn SX) := hI2
  have HR : Hid (w.rowIs g 3 N (row fun _ => 0)) := hr
  have HC12 : Hid (w.cell? ⟨B, 12, none⟩ = some (.slice (some ⟨g, 0, none⟩) N N)) := c12
  clear hp1 hp2 hI1 hI2 hRA hRB hr hag hbg ha hb hXX hYY c12
  go_enter Try.func28, Try.ntmps28
  go_wp2_with fail
  go_quiet (fail)
  go_wp2_with fail
  clear hs1 hs2 c0 c1
  go_loopw [45] (fun i wr => ∃ k : Nat, k ≤ sn ∧ i = .int .i64 k ∧ Hid (wr.rowIs g 3 N (row (cnt (SX.take k)))) ∧ Hid (w.grownBy wr (some g))) (fun i _ => sn - (RowKit.intOf i).toNat)
  case atStart => exact ⟨0, by omega, rfl, rowIs_drewN HR.out _, grownBy_drewN (grown_refl _ _) _⟩
  case round =>
    obtain ⟨k, hk, rfl, hrow, hgr⟩ := hrel
    by_cases hlt : k < sn
    · obtain ⟨sp, rfl, hb1, g1⟩ : ∃ p : Addr, sa = some p ∧ p.block < w.heap.size ∧ ∀ i, i < sn → w.cell? (p.add i) = some (.int .i64 (SX.getD i 0)) := HI2.out.lies.elim (fun e => by omega) id
      have hkl : k < SX.length := by rw [HI2.out.len]; exact hlt
      obtain ⟨x, hx⟩ : ∃ x, x = SX.getD k 0 := ⟨_, rfl⟩
      have e1 : wr.cell? (sp.add k) = some (.int .i64 x) := by
        rw [hx, ← g1 k hlt]
        exact World.cell?_of_block (w := w) (hgr.out.block _ (by rw [block_add]; exact hb1) (by rw [block_add]; intro e'; cases e'; exact HG2.out _ rfl rfl))
      have e12 : wr.cell? ⟨B, 12, none⟩ = some (.slice (some ⟨g, 0, none⟩) N N) := by
        rw [← HC12.out]
        exact World.cell?_of_block (w := w) (hgr.out.block _ hB (by intro e'; cases e'; exact hBg rfl))
      have hxN := HR2.out _ (mem_getD hkl)
      rw [← hx] at hxN
      obtain ⟨y, rfl⟩ : ∃ y : Nat, x = (y : Int) := ⟨x.toNat, by omega⟩
      have hy : y < N := by omega
      obtain ⟨z, hz⟩ : ∃ z, z = cnt (SX.take k) y := ⟨_, rfl⟩
      have ez : wr.cell? ⟨g, y, none⟩ = some (.int .i64 z) := by rw [hz]; exact hrow.out.cell hy
      have ef : wr.frozen? ⟨g, y, none⟩ = false := hrow.out.frozen y
      have hz2 := cnt_take_small SX k y
      rw [← hz] at hz2
      obtain ⟨hz3, hz4⟩ := hz2
      have HN : Hid (∀ j : Nat, (if j = y then Value.int .i64 (z + 1) else row (cnt (SX.take k)) j) = row (cnt (SX.take (k + 1))) j) := fun j => by
        unfold row
        rw [cnt_take_succ hkl, ← hx]
        by_cases e : j = y
        · rw [if_pos e, e, if_pos rfl, hz]
        · rw [if_neg e, if_neg (by omega), Int.add_zero]
      clear hx hz g1 hxN hkl
      go_wp2_with fail
      exact ⟨⟨k + 1, by omega, by go_num, (hrow.out.set y _).congr (fun j _ => HN.out j), grown_set hgr.out _ rfl _⟩, by simp [RowKit.intOf]; omega⟩
    · obtain rfl : sn = k := by omega
      have HROW : Hid (wr.rowIs g 3 N (row (cnt SX))) := by
        have := hrow.out
        rw [List.take_of_length_le (by rw [HI2.out.len]; omega)] at this
        exact this
      clear hrow
      go_wp2_with fail
      go_loopw [17, 61] (fun s i wr => ∃ (k kept : Nat) (c : Int → Int), k ≤ ln ∧ kept ≤ k ∧ i = .int .i64 k ∧ s = .int .i64 kept ∧ Hid (wr.rowIs g 3 N (row c)) ∧ Hid (w.grownBy wr (some g)) ∧ Hid (∀ v, 0 ≤ c v ∧ c v ≤ cnt SX v) ∧ Hid (run upTo (cnt SX) 0 LX = run upTo c kept (LX.drop k))) (fun _ i _ => ln - (RowKit.intOf i).toNat)
      case atStart => exact ⟨0, 0, cnt SX, by omega, by omega, rfl, rfl, HROW, hgr, fun v => ⟨cnt_nonneg SX v, Int.le_refl _⟩, rfl⟩
      case round =>
        clear HROW hgr
        obtain ⟨k, kept, c, hk2, hk3, rfl, rfl, hrow, hgr, HC, HRUN⟩ := hrel
        by_cases hgo : k < ln ∧ ¬ ((kept : Int) = upTo)
        · obtain ⟨hlt2, hku⟩ := hgo
          have hku' : ((kept : Int) == upTo) = false := beq_eq_false_iff_ne.2 hku
          obtain ⟨lp, rfl, hb1, g1⟩ : ∃ p : Addr, la = some p ∧ p.block < w.heap.size ∧ ∀ i, i < ln → w.cell? (p.add i) = some (.int .i64 (LX.getD i 0)) := HI1.out.lies.elim (fun e => by omega) id
          have hkl : k < LX.length := by rw [HI1.out.len]; exact hlt2
          obtain ⟨x, hx⟩ : ∃ x, x = LX.getD k 0 := ⟨_, rfl⟩
          have e1 : wr.cell? (lp.add k) = some (.int .i64 x) := by
            rw [hx, ← g1 k hlt2]
            exact World.cell?_of_block (w := w) (hgr.out.block _ (by rw [block_add]; exact hb1) (by rw [block_add]; intro e'; cases e'; exact HG1.out _ rfl rfl))
          have e12 : wr.cell? ⟨B, 12, none⟩ = some (.slice (some ⟨g, 0, none⟩) N N) := by
            rw [← HC12.out]
            exact World.cell?_of_block (w := w) (hgr.out.block _ hB (by intro e'; cases e'; exact hBg rfl))
          have hxN := HR1.out _ (mem_getD hkl)
          rw [← hx] at hxN
          obtain ⟨y, rfl⟩ : ∃ y : Nat, x = (y : Int) := ⟨x.toNat, by omega⟩
          have hy : y < N := by omega
          obtain ⟨z, hz⟩ : ∃ z, z = c y := ⟨_, rfl⟩
          have ez : wr.cell? ⟨g, y, none⟩ = some (.int .i64 z) := by rw [hz]; exact hrow.out.cell hy
          have ef : wr.frozen? ⟨g, y, none⟩ = false := hrow.out.frozen y
          have hz3 : 0 ≤ z := by rw [hz]; exact (HC.out y).1
          have hz4 : z ≤ 65536 := by
            have h1 := (HC.out y).2
            have h2 := cnt_len SX y
            rw [HI2.out.len] at h2
            omega
          have HRUN2 : Hid (run upTo (cnt SX) 0 LX = if 0 < c y then run upTo (dec c y) ((kept : Int) + 1) (LX.drop (k + 1)) else run upTo c kept (LX.drop (k + 1))) := by
            show _ = _
            rw [HRUN.out, drop_cons hkl, ← hx, run, if_neg hku]
          clear HRUN
          by_cases hp : 0 < z
          · have HRUN3 : Hid (run upTo (cnt SX) 0 LX = run upTo (dec c y) ((kept + 1 : Nat) : Int) (LX.drop (k + 1))) := by
              show _ = _
              rw [HRUN2.out, if_pos (by rw [← hz]; exact hp)]; rfl
            have HN : Hid (∀ j : Nat, (if j = y then Value.int .i64 (z - 1) else row c j) = row (dec c y) j) := fun j => by
              unfold row dec
              by_cases e : j = y
              · rw [if_pos e, e, if_pos rfl, hz]
              · rw [if_neg e, if_neg (by omega)]
            have HC2 : Hid (∀ v, 0 ≤ dec c y v ∧ dec c y v ≤ cnt SX v) := fun v => by
              unfold dec
              by_cases e : v = y
              · rw [if_pos e, e]; have := HC.out y; omega
              · rw [if_neg e]; exact HC.out v
            clear hx hz g1 hxN hkl HRUN2 hku
            go_wp2_with fail
            exact ⟨⟨k + 1, kept + 1, dec c y, by omega, by omega, by go_num, by go_num, (hrow.out.set y _).congr (fun j _ => HN.out j), grown_set hgr.out _ rfl _, HC2, HRUN3⟩, by simp [RowKit.intOf]; omega⟩
          · have HRUN3 : Hid (run upTo (cnt SX) 0 LX = run upTo c kept (LX.drop (k + 1))) := by
              show _ = _
              rw [HRUN2.out, if_neg (by rw [← hz]; exact hp)]
            clear hx hz g1 hxN hkl HRUN2 hku
            go_wp2_with fail
            exact ⟨⟨k + 1, kept, c, by omega, by omega, by go_num, rfl, hrow, hgr, HC, HRUN3⟩, by simp [RowKit.intOf]; omega⟩
        · have HRUN2 : Hid (run upTo (cnt SX) 0 LX = kept) := by
            show _ = _
            rw [HRUN.out]
            by_cases hlt2 : k < ln
            · have e : (kept : Int) = upTo := Classical.byContradiction fun h => hgo ⟨hlt2, h⟩
              rw [drop_cons (by rw [HI1.out.len]; exact hlt2), run, if_pos e]
            · rw [List.drop_of_length_le (by rw [HI1.out.len]; omega), run]
          have HCL : Hid (Cleared SX 0 c) := fun v => ⟨(HC.out v).1, (HC.out v).2, fun h => by cases h⟩
          clear HRUN HC
          have hside : (ln ≤ k) ∨ (∃ lp x, la = some lp ∧ wr.cell? (lp.add k) = some (.int .i64 x) ∧ k < ln ∧ ((kept : Int) == upTo) = true) := by
            by_cases hlt2 : k < ln
            · right
              have e : (kept : Int) = upTo := Classical.byContradiction fun h => hgo ⟨hlt2, h⟩
              obtain ⟨lp, rfl, hb1, g1⟩ : ∃ p : Addr, la = some p ∧ p.block < w.heap.size ∧ ∀ i, i < ln → w.cell? (p.add i) = some (.int .i64 (LX.getD i 0)) := HI1.out.lies.elim (fun e => by omega) id
              refine ⟨lp, LX.getD k 0, rfl, ?_, hlt2, beq_iff_eq.2 e⟩
              rw [← g1 k hlt2]
              exact World.cell?_of_block (w := w) (hgr.out.block _ (by rw [block_add]; exact hb1) (by rw [block_add]; intro e'; cases e'; exact HG1.out _ rfl rfl))
            · left; omega
          clear hgo
          rcases hside with hend | ⟨lp, x, rfl, e1, hlt2, hku⟩
          all_goals
            go_wp2_with fail
            go_loopw [90] (fun i wr => ∃ (k : Nat) (c : Int → Int), k ≤ sn ∧ i = .int .i64 k ∧ Hid (wr.rowIs g 3 N (row c)) ∧ Hid (w.grownBy wr (some g)) ∧ Hid (Cleared SX k c)) (fun i _ => sn - (RowKit.intOf i).toNat)
            case atStart => exact ⟨0, c, by omega, rfl, hrow, hgr, HCL⟩
            case round =>
              clear hrow hgr HCL
              obtain ⟨k3, c3, hk4, rfl, hrow, hgr, HCL⟩ := hrel
              by_cases hlt : k3 < sn
              · obtain ⟨sp, rfl, hb1, g1⟩ : ∃ p : Addr, sa = some p ∧ p.block < w.heap.size ∧ ∀ i, i < sn → w.cell? (p.add i) = some (.int .i64 (SX.getD i 0)) := HI2.out.lies.elim (fun e => by omega) id
                have hkl : k3 < SX.length := by rw [HI2.out.len]; exact hlt
                obtain ⟨x, hx⟩ : ∃ x, x = SX.getD k3 0 := ⟨_, rfl⟩
                have e1 : wr.cell? (sp.add k3) = some (.int .i64 x) := by
                  rw [hx, ← g1 k3 hlt]
                  exact World.cell?_of_block (w := w) (hgr.out.block _ (by rw [block_add]; exact hb1) (by rw [block_add]; intro e'; cases e'; exact HG2.out _ rfl rfl))
                have e12 : wr.cell? ⟨B, 12, none⟩ = some (.slice (some ⟨g, 0, none⟩) N N) := by
                  rw [← HC12.out]
                  exact World.cell?_of_block (w := w) (hgr.out.block _ hB (by intro e'; cases e'; exact hBg rfl))
                have hxN := HR2.out _ (mem_getD hkl)
                rw [← hx] at hxN
                obtain ⟨y, rfl⟩ : ∃ y : Nat, x = (y : Int) := ⟨x.toNat, by omega⟩
                have hy : y < N := by omega
                have ez : wr.cell? ⟨g, y, none⟩ = some (.int .i64 (c3 y)) := hrow.out.cell hy
                have ef : wr.frozen? ⟨g, y, none⟩ = false := hrow.out.frozen y
                have HN : Hid (∀ j : Nat, (if j = y then Value.int .i64 0 else row c3 j) = row (clr c3 y) j) := row_clr c3 y
                have HCL2 : Hid (Cleared SX (k3 + 1) (clr c3 y)) := cleared_next hkl HCL.out hx
                clear hx g1 hxN hkl
                go_wp2_with fail
                exact ⟨⟨k3 + 1, _, by omega, by go_num, (hrow.out.set y _).congr (fun j _ => HN.out j), grown_set hgr.out _ rfl _, HCL2⟩, by simp [RowKit.intOf]; omega⟩
              · obtain rfl : sn = k3 := by omega
                have HZ : Hid (wr.rowIs g 3 N (row fun _ => 0)) := hrow.out.congr fun j _ => by
                  unfold row
                  have := HCL.out
                  rw [← HI2.out.len] at this
                  rw [cleared_all this]
                go_wp2_with fail
                go_ret
                exact ⟨reti (by rw [HK.out, HRUN2.out]), HZ, hgr⟩
end Go.Proofs.Qxb6600117a.Kp
