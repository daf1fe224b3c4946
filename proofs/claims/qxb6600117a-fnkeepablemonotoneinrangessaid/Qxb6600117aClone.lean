import Derived.Test.Qxb6600117aIds
namespace Go.Proofs.Qxb6600117a.Kp
open Go.ChangeShapes Go.WideShapes Go.RowKit
set_option linter.unusedVariables false
theorem size3 : (Try.prog.info? 3).map (·.size) = some 1 := by kernel_rfl
theorem info3 : (Try.prog.info? 3).map (fun i => (i.zero, i.size, i.bytes)) = some (some (.int .i64 0), 1, 8) := by kernel_rfl

/-- copy onto a row of the call's own, of just the source's length. -/
theorem copy_whole (T E : TypeId) (hu : Try.prog.underlying T = some (.slice E)) (hsz : (Try.prog.info? E).map (·.size) = some 1) (p : Addr) (n c g : Nat) (cs : List Value) (cur : Array Value) (w0 w : World)
    (hg : w.heap[g]? = some (.cells cur E (0, 0))) (hcur : cur.size = n) (hn : cs.length = n) (hsrc : ∀ j v, cs[j]? = some v → w.cell? (p.add j) = some v) (h1 : ∀ v ∈ cs, v.oneCell' = true) (hb : Below w0.heap.size w0 w) (hB : w0.heap.size ≤ g) :
    ∃ w', (Builtin.copy_ #[T, T] 3 #[.slice (some ⟨g, 0, none⟩) n n, .slice (some p) n c]).run Try.prog w = .ok (.int .i64 n) w' ∧ w'.heap[g]? = some (.cells cs.toArray E (0, 0)) ∧ Below w0.heap.size w0 w' := by
  by_cases h0 : n = 0
  · subst h0
    have hrun := run_copy_none (P := Try.prog) w T T 3 E (some ⟨g, 0, none⟩) (some p) 0 0 0 c hu hsz rfl
    refine ⟨w, hrun, ?_, hb⟩
    have e1 : cs = [] := List.eq_nil_of_length_eq_zero hn
    have e2 : cur = #[] := Array.eq_empty_of_size_eq_zero hcur
    rw [hg, e1, e2]
  · have hrun := run_copy_row (P := Try.prog) w T T 3 E g 0 n n p n c cur E cs hu hsz hg (by rw [hn]; exact (Nat.min_self n).symm) hsrc (by omega) h1
    have e : (cur.toList.take 0 ++ (cs ++ cur.toList.drop (0 + cs.length))).toArray = cs.toArray := by
      rw [List.take_zero, List.nil_append, List.drop_of_length_le (by rw [Array.length_toList]; omega), List.append_nil]
    have e' : (cur.toList.take 0 ++ cs ++ cur.toList.drop (0 + cs.length)).toArray = cs.toArray := by rw [List.append_assoc]; exact e
    refine ⟨_, ?_, setRow_heap w g _ cs.toArray E _ hg, below_setRow hb hB _⟩
    rw [← hn]
    first
      | rw [e] at hrun
      | rw [e'] at hrun
    rw [← hn] at hrun
    exact hrun

theorem heap_new (w : World) (o : Obj) : (w.alloc o).heap[w.heap.size]? = some o := by
  show (w.heap.push o)[w.heap.size]? = some o
  simp
theorem lt_of_block {w : World} {g : Nat} {o : Obj} (h : w.heap[g]? = some o) : g < w.heap.size := (Array.getElem?_eq_some_iff.1 h).1
theorem add_eq (b o j : Nat) : (⟨b, o, none⟩ : Addr).add j = ⟨b, o + j, none⟩ := Addr.add_lit ..
theorem block_add (p : Addr) (j : Nat) : (p.add j).block = p.block := by unfold Addr.add; split <;> rfl

theorem ints_of_block {w : World} {g n : Nat} {xs : List Int} (h : w.heap[g]? = some (.cells (xs.map (Value.int .i64)).toArray 3 (0, 0))) (hl : xs.length = n) : Ints w (some ⟨g, 0, none⟩) n xs := by
  refine ⟨hl, Or.inr ⟨_, rfl, lt_of_block h, fun i hi => ?_⟩⟩
  rw [add_eq, Nat.zero_add]
  have e : w.cell? ⟨g, i, none⟩ = ((xs.map (Value.int .i64)).toArray)[i]? := by simp [World.cell?, h]
  rw [e, List.getElem?_toArray, List.getElem?_map, List.getD_eq_getElem?_getD, List.getElem?_eq_getElem (by omega)]
  rfl

theorem Ints.grown {w w' : World} {a : Option Addr} {n g : Nat} {xs : List Int} (h : Ints w a n xs) (hg : w.grownBy w' (some g)) (hne : ∀ p, a = some p → p.block ≠ g) : Ints w' a n xs := by
  refine ⟨h.len, h.lies.elim Or.inl fun ⟨p, e, hb, hc⟩ => Or.inr ⟨p, e, Nat.lt_of_lt_of_le hb hg.size, fun i hi => ?_⟩⟩
  rw [← hc i hi]
  exact World.cell?_of_block (w := w) (hg.block _ (by rw [block_add]; exact hb) (by rw [block_add]; intro e'; cases e'; exact hne p e rfl))
theorem Ints.below {w w' : World} {a : Option Addr} {n : Nat} {xs : List Int} (h : Ints w a n xs) (hb : Below w.heap.size w w') : Ints w' a n xs := by
  refine ⟨h.len, h.lies.elim Or.inl fun ⟨p, e, hp, hc⟩ => Or.inr ⟨p, e, Nat.lt_of_lt_of_le hp hb.size, fun i hi => ?_⟩⟩
  rw [← hc i hi]
  exact hb.cell (by rw [block_add]; exact hp)

set_option maxHeartbeats 400000 in
theorem clone_some (p : Addr) (n c : Nat) (xs : List Int) (w : World) (h : Ints w (some p) n xs) (hn : n ≤ 65536) :
    Calls Try.prog 16 #[.slice (some p) n c] w fun e w' => ∃ a', e = .returned (.slice a' n n) ∧ Ints w' a' n xs ∧ Below w.heap.size w w' ∧ (∀ p, a' = some p → p.block < w'.heap.size) := by
  have hmk := run_make_row' (P := Try.prog) 28 3 (.int .i64 0) 8 Try.underlying28 info3 rfl .i64 .i64 n (by omega) (by omega)
  have heq := fun wx : World => Lib.run_eql_slice_nil (P := Try.prog) wx 28 3 (some p) n c 0 0 Try.underlying28
  obtain ⟨w1, hrun, hg1, hb1⟩ := copy_whole 28 3 Try.underlying28 size3 p n c w.heap.size (xs.map (Value.int .i64)) (madeCells #[.int .i64 0] n) w (w.alloc (.cells (madeCells #[.int .i64 0] n) 3)) (heap_new w _) (size_madeCells _ _) (by rw [List.length_map]; exact h.len)
    (fun j v hj => by
      obtain ⟨hjl, hv⟩ := List.getElem?_eq_some_iff.1 hj
      rw [List.length_map, h.len] at hjl
      rcases h.lies with e | ⟨q, e, hb, hc⟩
      · omega
      · cases e
        rw [World.cell?_alloc_lt (h := by rw [block_add]; exact hb), hc j hjl]
        rw [List.getElem?_map, List.getElem?_eq_getElem (by rw [h.len]; exact hjl)] at hj
        rw [List.getD_eq_getElem?_getD, List.getElem?_eq_getElem (by rw [h.len]; exact hjl)]
        simpa using hj)
    (fun v hv => by obtain ⟨x, _, rfl⟩ := List.mem_map.1 hv; rfl)
    ((Below.refl _ _).alloc (Nat.le_refl _) _) (Nat.le_refl _)
  have HG : Hid (w1.heap[w.heap.size]? = some (.cells (xs.map (Value.int .i64)).toArray 3 (0, 0))) := hg1
  have HB : Hid (Below w.heap.size w w1) := hb1
  clear hg1 hb1
  go_enter Try.func16, Try.ntmps16
  go_wp2_with fail
  go_ret
  exact ⟨_, rfl, ints_of_block HG.out h.len, HB.out, fun p e => by cases e; exact lt_of_block HG.out⟩

set_option maxHeartbeats 400000 in
theorem clone_none (w : World) :
    Calls Try.prog 16 #[.slice none 0 0] w fun e w' => e = .returned (.slice none 0 0) ∧ w' = w := by
  have heq := fun wx : World => Lib.run_eql_slice_nil (P := Try.prog) wx 28 3 none 0 0 0 0 Try.underlying28
  go_enter Try.func16, Try.ntmps16
  go_wp2_with fail
  go_ret
  exact ⟨rfl, rfl⟩

/-- diffB1CloneInts. -/
theorem clone_calls (a : Option Addr) (n c : Nat) (xs : List Int) (w : World) (h : Ints w a n xs) (ha : a = none → n = 0 ∧ c = 0) (hn : n ≤ 65536) :
    Calls Try.prog 16 #[.slice a n c] w fun e w' => ∃ a', e = .returned (.slice a' n n) ∧ Ints w' a' n xs ∧ Below w.heap.size w w' ∧ (∀ p, a' = some p → p.block < w'.heap.size) := by
  cases a with
  | some p => exact clone_some p n c xs w h hn
  | none =>
    obtain ⟨rfl, rfl⟩ := ha rfl
    refine (clone_none w).mono ?_
    rintro e w' ⟨rfl, rfl⟩
    exact ⟨none, rfl, h, Below.refl _ _, fun p e => by cases e⟩

/-- a[lo:hi]. -/
theorem slice_run (a : Option Addr) (n : Nat) (xs : List Int) (lo hi : Nat) (w : World) (h : Ints w a n xs) (h1 : lo ≤ hi) (h2 : hi ≤ n) :
    ∃ (a' : Option Addr) (m c : Nat), m + lo = hi ∧ Ints w a' m (sub xs lo hi) ∧ (∀ p, a' = some p → ∃ q, a = some q ∧ p.block = q.block) ∧
      ∀ wx : World, (Instr.slice 28 (.slice a n n) (some (.int .i64 lo)) (some (.int .i64 hi)) none).run Try.prog wx = .ok (.slice a' m c) wx := by
  have hs : ∀ wx : World, (sizeOf 3).run Try.prog wx = .ok 1 wx := fun wx => by
    simp [go_sem, sizeOf]
    kernel_rfl
  have he : Try.prog.elem 28 = 3 := by kernel_rfl
  refine ⟨if n = lo then a else a.map (·.add lo), hi - lo, n - lo, by omega, ⟨by rw [sub_length xs lo hi (by rw [h.len]; exact h2)], ?_⟩, ?_, fun wx => ?_⟩
  · by_cases e : hi = lo
    · exact Or.inl (by omega)
    · right
      rcases h.lies with z | ⟨p, e', hb, hc⟩
      · omega
      · refine ⟨p.add lo, by rw [if_neg (by omega), e']; rfl, by rw [block_add]; exact hb, fun i hi' => ?_⟩
        rw [Addr.add_add, hc (lo + i) (by omega)]
        unfold sub
        rw [List.getD_eq_getElem?_getD, List.getD_eq_getElem?_getD, List.getElem?_drop, List.getElem?_take_of_lt (by omega)]
  · intro p e
    split at e
    · exact ⟨p, e, rfl⟩
    · obtain ⟨q, hq, rfl⟩ := Option.map_eq_some_iff.1 e
      exact ⟨q, hq, block_add q lo⟩
  · rw [run_slice_lh wx 28 a n n (by rw [he]; exact Try.underlying28) .i64 .i64 lo hi (by omega) (by omega) (by omega), he, hs]
    show Result.ok (sliced a ((lo : Int).toNat) ((hi : Int).toNat) n 1) wx = _
    rw [Int.toNat_natCast, Int.toNat_natCast, sliced, Nat.mul_one]
end Go.Proofs.Qxb6600117a.Kp
