import Derived.Test.Qxb6000751aRep
import Derived.BigRegion
namespace Go.Proofs.Qxb6000751a.Por
open Go.ChangeShapes Go.WideShapes Go.RowKit
set_option linter.unusedVariables false

theorem info46 : (Try.prog.info? 46).map (fun i => (i.zero, i.size, i.bytes)) = some (some (.agg #[.string ⟨#[]⟩, .string ⟨#[]⟩]), 2, 32) := by kernel_rfl

theorem make_rules (m : Nat) (hm : m ≤ 1048576) (w : World) : (Instr.makeSlice 44 (.int .i64 (m : Int)) (.int .i64 (m : Int))).run Try.prog w = .ok (.slice (some ⟨w.heap.size, 0, none⟩) m m) (w.alloc (.cells (madeCells #[.string ⟨#[]⟩, .string ⟨#[]⟩] (m * 2)) 46)) := by
  obtain ⟨i, hi, hz0, hz1, hz2⟩ := info_parts info46
  have h := run_make (P := Try.prog) w 44 46 i (.agg #[.string ⟨#[]⟩, .string ⟨#[]⟩]) Try.underlying44 hi hz0 .i64 .i64 (m : Int) (m : Int) (by omega) (Int.le_refl _) (by rw [hz2]; omega) (by omega)
  rw [hz1, Int.toNat_natCast] at h
  exact h

/-- A slice of strings, as it lies in memory. -/
structure Strs (w : World) (a : Option Addr) (ss : List ByteArray) : Prop where
  lies : ss = [] ∨ ∃ b o, a = some ⟨b, o, none⟩ ∧ b < w.heap.size ∧ ∀ i, i < ss.length → w.cell? ⟨b, o + i, none⟩ = some (.string (ss.getD i ⟨#[]⟩))
  small : ∀ s ∈ ss, s.size ≤ 1048576

theorem Strs.frm {X : Nat → Prop} {w w' : World} {a : Option Addr} {ss : List ByteArray} (h : Strs w a ss) (f : Frm X w w') (hX : ∀ p, a = some p → ¬ X p.block) : Strs w' a ss :=
  ⟨h.lies.elim Or.inl (fun ⟨b, o, e, hb, hc⟩ => Or.inr ⟨b, o, e, Nat.lt_of_lt_of_le hb f.size, fun i hi => (f.cell (p := ⟨b, o + i, none⟩) hb (hX ⟨b, o, none⟩ e)).trans (hc i hi)⟩), h.small⟩
theorem Strs.below {w w' : World} {a : Option Addr} {ss : List ByteArray} (h : Strs w a ss) (f : Below w.heap.size w w') : Strs w' a ss :=
  h.frm (X := fun _ => False) (Frm.of_below f) (fun _ _ h => h)

/-- A slice of bytes, as it lies in memory. -/
structure Bs (w : World) (a : Option Addr) (n : Nat) (bs : List Int) : Prop where
  len : n = bs.length
  lies : n = 0 ∨ ∃ b o, a = some ⟨b, o, none⟩ ∧ b < w.heap.size ∧ ∀ i, i < n → w.cell? ⟨b, o + i, none⟩ = some (.int .u8 (bs.getD i 0))

theorem Bs.frm {X : Nat → Prop} {w w' : World} {a : Option Addr} {n : Nat} {bs : List Int} (h : Bs w a n bs) (f : Frm X w w') (hX : ∀ p, a = some p → ¬ X p.block) : Bs w' a n bs :=
  ⟨h.len, h.lies.elim Or.inl (fun ⟨b, o, e, hb, hc⟩ => Or.inr ⟨b, o, e, Nat.lt_of_lt_of_le hb f.size, fun i hi => (f.cell (p := ⟨b, o + i, none⟩) hb (hX ⟨b, o, none⟩ e)).trans (hc i hi)⟩)⟩
theorem Bs.below {w w' : World} {a : Option Addr} {n : Nat} {bs : List Int} (h : Bs w a n bs) (f : Below w.heap.size w w') : Bs w' a n bs :=
  h.frm (X := fun _ => False) (Frm.of_below f) (fun _ _ h => h)

/-- A slice of bytes at the head of a block of its own, all of whose cells may be written. -/
structure Word (w : World) (a : Option Addr) (n c : Nat) (bs : List Int) : Prop where
  len : n = bs.length
  small : n ≤ 1048576
  cap : n ≤ c
  lies : n = 0 ∨ ∃ b, a = some ⟨b, 0, none⟩ ∧ b < w.heap.size ∧ (∀ i, i < n → w.cell? ⟨b, i, none⟩ = some (.int .u8 (bs.getD i 0))) ∧ ∀ j, j < c → (w.cell? ⟨b, j, none⟩).isSome = true ∧ w.frozen? ⟨b, j, none⟩ = false

/-- The rules of k places have been laid at block R. -/
structure Laying (w wr : World) (R m k : Nat) (ss rr : List ByteArray) : Prop where
  bel : Below w.heap.size w wr
  lt : R < wr.heap.size
  some' : ∀ j, j < m * 2 → (wr.cell? ⟨R, j, none⟩).isSome = true
  free : ∀ j, wr.frozen? ⟨R, j, none⟩ = false
  suf : ∀ i, i < k → wr.cell? ⟨R, i * 2, none⟩ = some (.string (ss.getD i ⟨#[]⟩))
  rep : ∀ i, i < k → wr.cell? ⟨R, i * 2 + 1, none⟩ = some (.string (rr.getD i ⟨#[]⟩))

theorem laying_start (w : World) (m : Nat) (ss rr : List ByteArray) : Laying w (w.alloc (.cells (madeCells #[.string ⟨#[]⟩, .string ⟨#[]⟩] (m * 2)) 46)) w.heap.size m 0 ss rr where
  bel := (Below.refl _ _).alloc (Nat.le_refl _) _
  lt := by simp
  some' := fun j hj => by
    rw [World.cell?_alloc_at (w := w) _ 46 w.heap.size j rfl, Array.getElem?_eq_getElem (by rw [size_madeCells]; exact hj)]; rfl
  free := fun j => by simp
  suf := fun i hi => absurd hi (Nat.not_lt_zero _)
  rep := fun i hi => absurd hi (Nat.not_lt_zero _)

theorem isSome_setCell (w : World) (p q : Addr) (v : Value) (h : (w.cell? q).isSome = true) : ((w.setCell p v).cell? q).isSome = true := by
  obtain ⟨u, hu⟩ := Option.isSome_iff_exists.1 h
  obtain ⟨v', hv'⟩ := RowKit.cell?_setCell_some (p := p) (x := v) hu
  rw [hv']; rfl

theorem frozen_setCell (w : World) (p q : Addr) (v : Value) : (w.setCell p v).frozen? q = w.frozen? q := by simp

theorem setCell_same (w : World) (p : Addr) (v : Value) (h : (w.cell? p).isSome = true) : (w.setCell p v).cell? p = some v := World.cell?_setCell_same' w p v h
theorem setCell_other (w : World) (p q : Addr) (v : Value) (h : p ≠ q) : (w.setCell p v).cell? q = w.cell? q := World.cell?_setCell_other (h := h) ..

theorem laying_step {w wr : World} {m k : Nat} {ss rr : List ByteArray} (h : Laying w wr w.heap.size m k ss rr) (hk : k < m) (s r : ByteArray) (hs : s = ss.getD k ⟨#[]⟩) (hr : r = rr.getD k ⟨#[]⟩) :
    Laying w ((wr.setCell ⟨w.heap.size, k * 2, none⟩ (.string s)).setCell ⟨w.heap.size, k * 2 + 1, none⟩ (.string r)).drew w.heap.size m (k + 1) ss rr where
  bel := ((h.bel.setCell (Nat.le_refl _) _).setCell (Nat.le_refl _) _).drew
  lt := by simpa [World.setCell] using h.lt
  some' := fun j hj => isSome_setCell _ _ _ _ (isSome_setCell _ _ _ _ (h.some' j hj))
  free := fun j => (frozen_setCell _ _ _ _).trans ((frozen_setCell _ _ _ _).trans (h.free j))
  suf := fun i hi => by
    have ne1 : (⟨w.heap.size, k * 2 + 1, none⟩ : Addr) ≠ ⟨w.heap.size, i * 2, none⟩ := fun e => by have := congrArg Addr.off e; simp at this; omega
    refine (setCell_other _ _ _ _ ne1).trans ?_
    by_cases e : i = k
    · subst e
      rw [setCell_same _ _ _ (h.some' _ (by omega)), hs]
    · have ne2 : (⟨w.heap.size, k * 2, none⟩ : Addr) ≠ ⟨w.heap.size, i * 2, none⟩ := fun e => by have := congrArg Addr.off e; simp at this; omega
      exact (setCell_other _ _ _ _ ne2).trans (h.suf i (by omega))
  rep := fun i hi => by
    by_cases e : i = k
    · subst e
      refine (setCell_same _ _ _ (isSome_setCell _ _ _ _ (h.some' _ (by omega)))).trans ?_
      rw [hr]
    · have ne1 : (⟨w.heap.size, k * 2 + 1, none⟩ : Addr) ≠ ⟨w.heap.size, i * 2 + 1, none⟩ := fun e => by have := congrArg Addr.off e; simp at this; omega
      have ne2 : (⟨w.heap.size, k * 2, none⟩ : Addr) ≠ ⟨w.heap.size, i * 2 + 1, none⟩ := fun e => by have := congrArg Addr.off e; simp at this; omega
      exact (setCell_other _ _ _ _ ne1).trans ((setCell_other _ _ _ _ ne2).trans (h.rep i (by omega)))

/-! ### An empty word -/
set_option maxHeartbeats 400000 in
theorem ends_zero (S c : Nat) (a : Option Addr) (t : ByteArray) (w : World) (hc : w.cell? ⟨S, 0, none⟩ = some (.slice a 0 c)) (ht : t.size ≤ 1048576) :
    Calls Try.prog 37 #[.pointer (some ⟨S, 0, none⟩), .string t] w fun e w' => e = .returned (.bool false) ∧ w' = w := by
  have hd : decide ((0 : Int) < -(t.size : Int)) = false := decide_eq_false (by omega)
  have hd' : ((t.size : Int) < 0) = False := by simp
  go_enter Try.func37, Try.ntmps37
  go_wp2_with fail
  go_ret
  exact ⟨rfl, rfl⟩

set_option maxHeartbeats 1000000 in
theorem rep_zero (S c R m rc : Nat) (a : Option Addr) (rules : List (ByteArray × ByteArray)) (t : Int) (w : World) (hS : S < w.heap.size) (hc : w.cell? ⟨S, 0, none⟩ = some (.slice a 0 c))
    (hR : Rules w R rules) (hm : rules.length = m) (hm2 : m ≤ 1048576) :
    Calls Try.prog 35 #[.pointer (some ⟨S, 0, none⟩), .slice (some ⟨R, 0, none⟩) m rc, .int .i64 t] w fun e w' => e = .returned (.tuple #[]) ∧ Below w.heap.size w w' := by
  have HR : Hid (Rules w R rules) := hR
  have HM : Hid (rules.length = m) := hm
  clear hR hm
  go_enter Try.func35, Try.ntmps35
  go_wp2_with fail
  go_loopw [11] (fun i wr => ∃ k : Nat, k ≤ m ∧ i = .int .i64 k ∧ Hid (Below w.heap.size w wr)) (fun i _ => m - (RowKit.intOf i).toNat)
  case atStart => exact ⟨0, by omega, rfl, Below.refl _ _⟩
  case round =>
    obtain ⟨k, hk, rfl, hbl⟩ := hrel
    by_cases hlt : k < m
    · obtain ⟨p, hp⟩ : ∃ p, rules[k]? = some p := ⟨rules[k]'(by rw [HM.out]; exact hlt), List.getElem?_eq_getElem _⟩
      obtain ⟨s, r⟩ := p
      obtain ⟨hs1, hr1⟩ := HR.out.small (s, r) (List.mem_of_getElem? hp)
      replace hs1 : s.size ≤ 1048576 := hs1
      have c1 : wr.cell? ⟨R, k * 2, none⟩ = some (.string s) := (hbl.out.cell (p := ⟨R, k * 2, none⟩) HR.out.lt).trans (HR.out.suf k (s, r) hp)
      have c2 : wr.cell? ⟨R, k * 2 + 1, none⟩ = some (.string r) := (hbl.out.cell (p := ⟨R, k * 2 + 1, none⟩) HR.out.lt).trans (HR.out.rep k (s, r) hp)
      have hsz := hbl.out.size
      have HB2 : Hid (Below w.heap.size w (wr.alloc (.cells #[.string s, .string r] 46))) := hbl.out.alloc hsz _
      have C := ends_zero S c a s _ ((HB2.out.cell (p := ⟨S, 0, none⟩) hS).trans hc) hs1
      clear hp
      go_wp2_with fail
      refine C.mono ?_
      rintro e w' ⟨rfl, rfl⟩
      go_wp2_with fail
      go_roundw
      case rel => exact ⟨k + 1, by omega, by go_num, HB2⟩
      case measure => simp [RowKit.intOf]; omega
    · go_wp2_with fail
      go_end0
      exact ⟨rfl, hbl.out⟩

theorem rs_nil (t : Int) : ∀ rules, rs [] t rules = []
  | [] => rfl
  | p :: rest => by
    have e : endsB [] p.1 = false := by unfold endsB; rw [decide_eq_false (by simp)]; rfl
    rw [rs, e]
    exact rs_nil t rest

theorem zip_at (ss rr : List ByteArray) (i : Nat) (p : ByteArray × ByteArray) (h : (ss.zip rr)[i]? = some p) : i < ss.length ∧ i < rr.length ∧ p.1 = ss.getD i ⟨#[]⟩ ∧ p.2 = rr.getD i ⟨#[]⟩ := by
  obtain ⟨h1, h2⟩ := List.getElem?_zip_eq_some.1 h
  obtain ⟨a1, a2⟩ := List.getElem?_eq_some_iff.1 h1
  obtain ⟨b1, b2⟩ := List.getElem?_eq_some_iff.1 h2
  refine ⟨a1, b1, ?_, ?_⟩
  · rw [List.getD_eq_getElem?_getD, h1]; rfl
  · rw [List.getD_eq_getElem?_getD, h2]; rfl

theorem laying_rules {w wr : World} {R m : Nat} {ss rr : List ByteArray} (h : Laying w wr R m m ss rr) (hs : ss.length = m) (hr : rr.length = m) (s1 : ∀ s ∈ ss, s.size ≤ 1048576) (s2 : ∀ s ∈ rr, s.size ≤ 1048576) : Rules wr R (ss.zip rr) where
  lt := h.lt
  suf := fun i p hp => by
    obtain ⟨a, b, e1, e2⟩ := zip_at ss rr i p hp
    rw [e1]; exact h.suf i (by omega)
  rep := fun i p hp => by
    obtain ⟨a, b, e1, e2⟩ := zip_at ss rr i p hp
    rw [e2]; exact h.rep i (by omega)
  small := fun p hp => ⟨s1 _ (List.of_mem_zip hp).1, s2 _ (List.of_mem_zip hp).2⟩

theorem Rules.below {B : Nat} {w w' : World} {R : Nat} {rules : List (ByteArray × ByteArray)} (h : Rules w R rules) (f : Below B w w') (hR : R < B) : Rules w' R rules :=
  ⟨Nat.lt_of_lt_of_le h.lt f.size, fun i p hp => (f.cell (p := ⟨R, i * 2, none⟩) hR).trans (h.suf i p hp), fun i p hp => (f.cell (p := ⟨R, i * 2 + 1, none⟩) hR).trans (h.rep i p hp), h.small⟩

/-- The block that a slice lies in. -/
def blk (a : Option Addr) (k : Nat) : Prop := ∃ p, a = some p ∧ p.block = k

set_option maxHeartbeats 2000000 in
theorem zz_calls (a a1 a2 : Option Addr) (n c m c1 c2 : Nat) (bs : List Int) (ss rr : List ByteArray) (t : Int) (w : World) (hm : m ≤ 1048576) (hs : ss.length = m) (hr : rr.length = m)
    (hW : Word w a n c bs) (h1 : Strs w a1 ss) (h2 : Strs w a2 rr) :
    Calls Try.prog 27 #[.slice a n c, .slice a1 m c1, .slice a2 m c2, .int .i64 t] w fun e w' => ∃ a' n' c', e = .returned (.slice a' n' c') ∧ Bs w' a' n' (rs bs t (ss.zip rr)) ∧ Frm (blk a) w w' := by
  have hmk := make_rules m hm
  have H1 : Hid (Strs w a1 ss) := h1
  have H2 : Hid (Strs w a2 rr) := h2
  have HL1 : Hid (ss.length = m) := hs
  have HL2 : Hid (rr.length = m) := hr
  have HW : Hid (Word w a n c bs) := hW
  clear h1 h2 hs hr hW
  go_enter Try.func27, Try.ntmps27
  go_wp2_with fail
  go_loopw [10] (fun i wr => ∃ k : Nat, k ≤ m ∧ i = .int .i64 k ∧ Hid (Laying w wr w.heap.size m k ss rr)) (fun i _ => m - (RowKit.intOf i).toNat)
  case atStart => exact ⟨0, by omega, rfl, laying_start w m ss rr⟩
  case round =>
    obtain ⟨k, hk, rfl, hlay⟩ := hrel
    by_cases hlt : k < m
    · obtain ⟨b1, o1, rfl, hb1, g1⟩ : ∃ b o, a1 = some ⟨b, o, none⟩ ∧ b < w.heap.size ∧ ∀ i, i < ss.length → w.cell? ⟨b, o + i, none⟩ = some (.string (ss.getD i ⟨#[]⟩)) := H1.out.lies.elim (fun e => by have := HL1.out; rw [e] at this; simp at this; omega) id
      obtain ⟨b2, o2, rfl, hb2, g2⟩ : ∃ b o, a2 = some ⟨b, o, none⟩ ∧ b < w.heap.size ∧ ∀ i, i < rr.length → w.cell? ⟨b, o + i, none⟩ = some (.string (rr.getD i ⟨#[]⟩)) := H2.out.lies.elim (fun e => by have := HL2.out; rw [e] at this; simp at this; omega) id
      obtain ⟨s, hs⟩ : ∃ s, s = ss.getD k ⟨#[]⟩ := ⟨_, rfl⟩
      obtain ⟨r, hr⟩ : ∃ r, r = rr.getD k ⟨#[]⟩ := ⟨_, rfl⟩
      have e1 : wr.cell? ⟨b1, o1 + k, none⟩ = some (.string s) := by rw [hs]; exact (hlay.out.bel.cell (p := ⟨b1, o1 + k, none⟩) hb1).trans (g1 k (by rw [HL1.out]; exact hlt))
      have e2 : wr.cell? ⟨b2, o2 + k, none⟩ = some (.string r) := by rw [hr]; exact (hlay.out.bel.cell (p := ⟨b2, o2 + k, none⟩) hb2).trans (g2 k (by rw [HL2.out]; exact hlt))
      obtain ⟨v1, hv1⟩ := Option.isSome_iff_exists.1 (hlay.out.some' (k * 2) (by omega))
      obtain ⟨v2, hv2⟩ := Option.isSome_iff_exists.1 (hlay.out.some' (k * 2 + 1) (by omega))
      have f1 := hlay.out.free (k * 2)
      have f2 := hlay.out.free (k * 2 + 1)
      have HSs : Hid (s = ss.getD k ⟨#[]⟩) := hs
      have HSr : Hid (r = rr.getD k ⟨#[]⟩) := hr
      clear hs hr g1 g2
      go_wp2_with fail
      go_region
      go_wp2_with fail
      exact ⟨⟨k + 1, by omega, by go_num, laying_step hlay.out hlt s r HSs.out HSr.out⟩, by simp [RowKit.intOf]; omega⟩
    · obtain rfl : k = m := by omega
      have hsz := hlay.out.bel.size
      have hltR := hlay.out.lt
      have HR0 : Hid (Rules wr w.heap.size (ss.zip rr)) := laying_rules hlay.out HL1.out HL2.out H1.out.small H2.out.small
      have HB : Hid (Below w.heap.size w (wr.alloc (.cells #[.slice a n c] 41))) := hlay.out.bel.alloc hsz _
      have HR : Hid (Rules (wr.alloc (.cells #[.slice a n c] 41)) w.heap.size (ss.zip rr)) := HR0.out.below ((Below.refl wr.heap.size wr).alloc (Nat.le_refl _) _) hltR
      have hzl : (ss.zip rr).length = k := by rw [List.length_zip, HL1.out, HL2.out]; exact Nat.min_self k
      have HZ : Hid ((ss.zip rr).length = k) := hzl
      have hcS : (wr.alloc (.cells #[.slice a n c] 41)).cell? ⟨wr.heap.size, 0, none⟩ = some (.slice a n c) := by simp
      have hSlt : wr.heap.size < (wr.alloc (.cells #[.slice a n c] 41)).heap.size := by simp
      clear hzl
      by_cases hn0 : n = 0
      · subst hn0
        go_wp2_with fail
        refine (rep_zero wr.heap.size c w.heap.size k k a (ss.zip rr) t _ hSlt hcS HR.out HZ.out hm).mono ?_
        rintro e w3 ⟨rfl, hb3⟩
        have hc3 : w3.cell? ⟨wr.heap.size, 0, none⟩ = some (.slice a 0 c) := (hb3.cell (p := ⟨wr.heap.size, 0, none⟩) hSlt).trans hcS
        have HB3 : Hid (Below w.heap.size w w3) := HB.out.trans (hb3.mono (by simp; omega))
        clear hb3
        go_wp2_with fail
        go_ret
        have hbs : bs = [] := List.eq_nil_of_length_eq_zero HW.out.len.symm
        exact ⟨a, 0, c, rfl, ⟨by rw [hbs, rs_nil]; rfl, Or.inl rfl⟩, Frm.of_below HB3.out⟩
      · obtain ⟨b, rfl, hb, hbc, hsp⟩ : ∃ b, a = some ⟨b, 0, none⟩ ∧ b < w.heap.size ∧ (∀ i, i < n → w.cell? ⟨b, i, none⟩ = some (.int .u8 (bs.getD i 0))) ∧ ∀ j, j < c → (w.cell? ⟨b, j, none⟩).isSome = true ∧ w.frozen? ⟨b, j, none⟩ = false := HW.out.lies.elim (fun e => absurd e hn0) id
        have HST : Hid (Stem (wr.alloc (.cells #[.slice (some ⟨b, 0, none⟩) n c] 41)) wr.heap.size b 0 n c bs) := ⟨hcS, HW.out.len, HW.out.small, fun i hi => by rw [Nat.zero_add]; exact (HB.out.cell (p := ⟨b, i, none⟩) hb).trans (hbc i hi)⟩
        have HSP : Hid (∀ j, j < c → ((wr.alloc (.cells #[.slice (some ⟨b, 0, none⟩) n c] 41)).cell? ⟨b, j, none⟩).isSome = true ∧ (wr.alloc (.cells #[.slice (some ⟨b, 0, none⟩) n c] 41)).frozen? ⟨b, j, none⟩ = false) := fun j hj => spare_below HB.out hb (hsp j hj)
        have hfS : (wr.alloc (.cells #[.slice (some ⟨b, 0, none⟩) n c] 41)).frozen? ⟨wr.heap.size, 0, none⟩ = false := by simp
        have hbl : b < wr.heap.size := by omega
        clear hbc hsp
        go_wp2_with fail
        refine (rep_calls wr.heap.size b n c w.heap.size k k bs (ss.zip rr) t _ HST.out (by omega) hSlt (by omega) HW.out.cap hfS HSP.out HR.out HZ.out hm).mono ?_
        rintro e w3 ⟨rfl, hres, hfr⟩
        obtain ⟨g, N, cap1, hc3, hrow⟩ := hres
        have HRow : Hid (Row w3 g N (rs bs t (ss.zip rr))) := hrow
        have HFR : Hid (Frm (blk (some ⟨b, 0, none⟩)) w w3) := (Frm.of_below HB.out).andThen hfr (fun i hi h => h.elim (fun e => ⟨_, rfl, e.symm⟩) (fun e => by omega))
        clear hrow hfr
        go_wp2_with fail
        go_ret
        exact ⟨_, N, cap1, rfl, ⟨HRow.out.len, Or.inr ⟨g, 0, rfl, HRow.out.lt, fun i hi => by rw [Nat.zero_add]; exact HRow.out.at' i hi⟩⟩, HFR.out⟩
end Go.Proofs.Qxb6000751a.Por
