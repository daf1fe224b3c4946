import Derived.Test.Qxb6000751aZz
import Derived.Laws.CopyOwn
import Derived.Deep.OwnRows
namespace Go.Proofs.Qxb6000751a.Por
open Go.ChangeShapes Go.WideShapes Go.RowKit
set_option linter.unusedVariables false
theorem size5 : (Try.prog.info? 5).map (·.size) = some 1 := by kernel_rfl
theorem info5' : (Try.prog.info? 5).map (fun i => (i.zero, i.size, i.bytes)) = some (some (.int .u8 0), 1, 1) := by kernel_rfl

/-- copy onto a row of the call's own, of just the source's length. -/
theorem copy_whole (T E : TypeId) (hu : Try.prog.underlying T = some (.slice E)) (hsz : (Try.prog.info? E).map (·.size) = some 1) (p : Addr) (n c g : Nat) (cs : List Value) (cur : Array Value) (w0 w : World)
    (hg : w.heap[g]? = some (.cells cur E (0, 0))) (hcur : cur.size = n) (hn : cs.length = n) (hsrc : ∀ j v, cs[j]? = some v → w.cell? (p.add j) = some v) (h1 : ∀ v ∈ cs, v.oneCell' = true) (hb : Below w0.heap.size w0 w) (hB : w0.heap.size ≤ g) :
    ∃ w', (Builtin.copy_ #[T, T] 3 #[.slice (some ⟨g, 0, none⟩) n n, .slice (some p) n c]).run Try.prog w = .ok (.int .i64 n) w' ∧ w'.heap[g]? = some (.cells cs.toArray E (0, 0)) ∧ Below w0.heap.size w0 w' := by
  by_cases h0 : n = 0
  · subst h0
    have hrun := run_copy_none (P := Try.prog) w T T 3 E (some ⟨g, 0, none⟩) (some p) 0 0 0 c hu hsz rfl
    refine ⟨w, hrun, ?_, hb⟩
    have e1 : cs = [] := List.eq_nil_of_length_eq_zero hn
    have e2 : cur = #[] := Array.eq_empty_of_size_eq_zero hcur
    rw [hg, e1, e2]
  · have hrun := run_copy_row (P := Try.prog) w T T 3 E g 0 n n p n c cur E cs hu hsz hg (by rw [hn]; exact (Nat.min_self n).symm) hsrc (by omega) h1
    have e : (cur.toList.take 0 ++ (cs ++ cur.toList.drop (0 + cs.length))).toArray = cs.toArray := by
      rw [List.take_zero, List.nil_append, List.drop_of_length_le (by rw [Array.length_toList]; omega), List.append_nil]
    have e' : (cur.toList.take 0 ++ cs ++ cur.toList.drop (0 + cs.length)).toArray = cs.toArray := by rw [List.append_assoc]; exact e
    refine ⟨_, ?_, setRow_heap w g _ cs.toArray E _ hg, below_setRow hb hB _⟩
    rw [← hn]
    first
      | rw [e] at hrun
      | rw [e'] at hrun
    rw [← hn] at hrun
    exact hrun

theorem heap_new (w : World) (o : Obj) : (w.alloc o).heap[w.heap.size]? = some o := by
  show (w.heap.push o)[w.heap.size]? = some o
  simp

theorem cells_of_block {w : World} {g : Nat} {cs : Array Value} {t : TypeId} (h : w.heap[g]? = some (.cells cs t (0, 0))) (j : Nat) : w.cell? ⟨g, j, none⟩ = cs[j]? ∧ w.frozen? ⟨g, j, none⟩ = false := by
  constructor
  · simp [World.cell?, h]
  · simp [World.frozen?, h]

theorem lt_of_block {w : World} {g : Nat} {o : Obj} (h : w.heap[g]? = some o) : g < w.heap.size := (Array.getElem?_eq_some_iff.1 h).1

theorem word_of_block {w : World} {g n : Nat} {bs : List Int} (h : w.heap[g]? = some (.cells (bs.map (Value.int .u8)).toArray 5 (0, 0))) (hl : n = bs.length) (hn : n ≤ 1048576) : Word w (some ⟨g, 0, none⟩) n n bs := by
  refine ⟨hl, hn, Nat.le_refl _, Or.inr ⟨g, rfl, lt_of_block h, fun i hi => ?_, fun j hj => ⟨?_, (cells_of_block h j).2⟩⟩⟩
  · rw [(cells_of_block h i).1]
    rw [List.getElem?_toArray, List.getElem?_map, List.getD_eq_getElem?_getD, List.getElem?_eq_getElem (by omega)]
    rfl
  · rw [(cells_of_block h j).1]
    rw [List.getElem?_toArray, List.getElem?_map, List.getElem?_eq_getElem (by omega)]
    rfl

theorem add_eq (b o j : Nat) : (⟨b, o, none⟩ : Addr).add j = ⟨b, o + j, none⟩ := Addr.add_lit ..

set_option maxHeartbeats 400000 in
theorem clone_some (p : Addr) (n c : Nat) (bs : List Int) (w : World) (h : Bs w (some p) n bs) (hn : n ≤ 1048576) :
    Calls Try.prog 13 #[.slice (some p) n c] w fun e w' => ∃ a', e = .returned (.slice a' n n) ∧ Word w' a' n n bs ∧ Below w.heap.size w w' ∧ (∀ p, a' = some p → w.heap.size ≤ p.block) := by
  have hmk := run_make_row' (P := Try.prog) 22 5 (.int .u8 0) 1 Try.underlying22 info5' rfl .i64 .i64 n (by omega) (by omega)
  have heq := fun wx : World => Lib.run_eql_slice_nil (P := Try.prog) wx 22 5 (some p) n c 0 0 Try.underlying22
  obtain ⟨w1, hrun, hg1, hb1⟩ := copy_whole 22 5 Try.underlying22 size5 p n c w.heap.size (bs.map (Value.int .u8)) (madeCells #[.int .u8 0] n) w (w.alloc (.cells (madeCells #[.int .u8 0] n) 5)) (heap_new w _) (size_madeCells _ _) (by rw [List.length_map]; exact h.len.symm)
    (fun j v hj => by
      obtain ⟨hjl, hv⟩ := List.getElem?_eq_some_iff.1 hj
      rw [List.length_map, ← h.len] at hjl
      rcases h.lies with e | ⟨b, o, e, hb, hc⟩
      · omega
      · cases e
        rw [add_eq, World.cell?_alloc_lt (h := hb), hc j hjl]
        rw [List.getElem?_map, List.getElem?_eq_getElem (by rw [← h.len]; exact hjl)] at hj
        rw [List.getD_eq_getElem?_getD, List.getElem?_eq_getElem (by rw [← h.len]; exact hjl)]
        simpa using hj)
    (fun v hv => by obtain ⟨x, _, rfl⟩ := List.mem_map.1 hv; rfl)
    ((Below.refl _ _).alloc (Nat.le_refl _) _) (Nat.le_refl _)
  have HG : Hid (w1.heap[w.heap.size]? = some (.cells (bs.map (Value.int .u8)).toArray 5 (0, 0))) := hg1
  have HB : Hid (Below w.heap.size w w1) := hb1
  clear hg1 hb1
  go_enter Try.func13, Try.ntmps13
  go_wp2_with fail
  go_ret
  exact ⟨_, rfl, word_of_block HG.out h.len hn, HB.out, fun p e => by cases e; exact Nat.le_refl _⟩

set_option maxHeartbeats 400000 in
theorem clone_none (w : World) :
    Calls Try.prog 13 #[.slice none 0 0] w fun e w' => e = .returned (.slice none 0 0) ∧ w' = w := by
  have heq := fun wx : World => Lib.run_eql_slice_nil (P := Try.prog) wx 22 5 none 0 0 0 0 Try.underlying22
  go_enter Try.func13, Try.ntmps13
  go_wp2_with fail
  go_ret
  exact ⟨rfl, rfl⟩

/-- cloneBytes. -/
theorem clone_calls (a : Option Addr) (n c : Nat) (bs : List Int) (w : World) (h : Bs w a n bs) (ha : a = none → n = 0 ∧ c = 0) (hn : n ≤ 1048576) :
    Calls Try.prog 13 #[.slice a n c] w fun e w' => ∃ a', e = .returned (.slice a' n n) ∧ Word w' a' n n bs ∧ Below w.heap.size w w' ∧ (∀ p, a' = some p → w.heap.size ≤ p.block) ∧ (a' = none → n = 0) := by
  cases a with
  | some p =>
    refine (clone_some p n c bs w h hn).mono ?_
    rintro e w' ⟨a', rfl, h1, h2, h3⟩
    refine ⟨a', rfl, h1, h2, h3, fun e => ?_⟩
    rcases h1.lies with h | ⟨b, hb, _⟩
    · exact h
    · rw [e] at hb; cases hb
  | none =>
    obtain ⟨rfl, rfl⟩ := ha rfl
    refine (clone_none w).mono ?_
    rintro e w' ⟨rfl, rfl⟩
    exact ⟨none, rfl, ⟨h.len, by omega, Nat.le_refl _, Or.inl rfl⟩, Below.refl _ _, (fun p e => by cases e), (fun _ => rfl)⟩

/-! ### cloneStrs -/
theorem size9 : (Try.prog.info? 9).map (·.size) = some 1 := by kernel_rfl
theorem info9 : (Try.prog.info? 9).map (fun i => (i.zero, i.size, i.bytes)) = some (some (.string ⟨#[]⟩), 1, 16) := by kernel_rfl

theorem strs_of_block {w : World} {g : Nat} {ss : List ByteArray} (h : w.heap[g]? = some (.cells (ss.map Value.string).toArray 9 (0, 0))) (hs : ∀ s ∈ ss, s.size ≤ 1048576) : Strs w (some ⟨g, 0, none⟩) ss := by
  refine ⟨Or.inr ⟨g, 0, rfl, lt_of_block h, fun i hi => ?_⟩, hs⟩
  rw [Nat.zero_add, (cells_of_block h i).1]
  rw [List.getElem?_toArray, List.getElem?_map, List.getD_eq_getElem?_getD, List.getElem?_eq_getElem hi]
  rfl

set_option maxHeartbeats 400000 in
theorem cloneS_some (p : Addr) (n c : Nat) (ss : List ByteArray) (w : World) (h : Strs w (some p) ss) (hl : ss.length = n) (hn : n ≤ 1048576) :
    Calls Try.prog 26 #[.slice (some p) n c] w fun e w' => ∃ a', e = .returned (.slice a' n n) ∧ Strs w' a' ss ∧ Below w.heap.size w w' := by
  have hmk := run_make_row' (P := Try.prog) 29 9 (.string ⟨#[]⟩) 16 Try.underlying29 info9 rfl .i64 .i64 n (by omega) (by omega)
  have heq := fun wx : World => Lib.run_eql_slice_nil (P := Try.prog) wx 29 9 (some p) n c 0 0 Try.underlying29
  obtain ⟨w1, hrun, hg1, hb1⟩ := copy_whole 29 9 Try.underlying29 size9 p n c w.heap.size (ss.map Value.string) (madeCells #[.string ⟨#[]⟩] n) w (w.alloc (.cells (madeCells #[.string ⟨#[]⟩] n) 9)) (heap_new w _) (size_madeCells _ _) (by rw [List.length_map]; exact hl)
    (fun j v hj => by
      obtain ⟨hjl, hv⟩ := List.getElem?_eq_some_iff.1 hj
      rw [List.length_map] at hjl
      rcases h.lies with e | ⟨b, o, e, hb, hc⟩
      · rw [e] at hjl; simp at hjl
      · cases e
        rw [add_eq, World.cell?_alloc_lt (h := hb), hc j hjl]
        rw [List.getElem?_map, List.getElem?_eq_getElem hjl] at hj
        rw [List.getD_eq_getElem?_getD, List.getElem?_eq_getElem hjl]
        simpa using hj)
    (fun v hv => by obtain ⟨x, _, rfl⟩ := List.mem_map.1 hv; rfl)
    ((Below.refl _ _).alloc (Nat.le_refl _) _) (Nat.le_refl _)
  have HG : Hid (w1.heap[w.heap.size]? = some (.cells (ss.map Value.string).toArray 9 (0, 0))) := hg1
  have HB : Hid (Below w.heap.size w w1) := hb1
  clear hg1 hb1
  go_enter Try.func26, Try.ntmps26
  go_wp2_with fail
  go_ret
  exact ⟨_, rfl, strs_of_block HG.out h.small, HB.out⟩

set_option maxHeartbeats 400000 in
theorem cloneS_none (w : World) :
    Calls Try.prog 26 #[.slice none 0 0] w fun e w' => e = .returned (.slice none 0 0) ∧ w' = w := by
  have heq := fun wx : World => Lib.run_eql_slice_nil (P := Try.prog) wx 29 9 none 0 0 0 0 Try.underlying29
  go_enter Try.func26, Try.ntmps26
  go_wp2_with fail
  go_ret
  exact ⟨rfl, rfl⟩

theorem cloneS_calls (a : Option Addr) (n c : Nat) (ss : List ByteArray) (w : World) (h : Strs w a ss) (hl : ss.length = n) (ha : a = none → n = 0 ∧ c = 0) (hn : n ≤ 1048576) :
    Calls Try.prog 26 #[.slice a n c] w fun e w' => ∃ a', e = .returned (.slice a' n n) ∧ Strs w' a' ss ∧ Below w.heap.size w w' := by
  cases a with
  | some p => exact cloneS_some p n c ss w h hl hn
  | none =>
    obtain ⟨rfl, rfl⟩ := ha rfl
    refine (cloneS_none w).mono ?_
    rintro e w' ⟨rfl, rfl⟩
    exact ⟨none, rfl, h, Below.refl _ _⟩
end Go.Proofs.Qxb6000751a.Por
