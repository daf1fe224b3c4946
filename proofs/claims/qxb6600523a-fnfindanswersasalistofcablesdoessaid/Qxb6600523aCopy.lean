import Derived.Test.Qxb6600523aCop
namespace Go.Proofs.Qxb6600523a.Jp
open Go.ChangeShapes Go.WideShapes Go.RowKit
set_option linter.unusedVariables false

theorem block_add (p : Addr) (j : Nat) : (p.add j).block = p.block := by unfold Addr.add; split <;> rfl

/-- A slice whose elements are one cell each, as it lies in memory. -/
def Lies (w : World) (a : Option Addr) (n : Nat) (vs : Nat → Value) : Prop := n = 0 ∨ ∃ p : Addr, a = some p ∧ p.block < w.heap.size ∧ ∀ i, i < n → w.cell? (p.add i) = some (vs i)

theorem Lies.below {w w' : World} {a : Option Addr} {n : Nat} {vs : Nat → Value} (h : Lies w a n vs) {B : Nat} (hb : Below B w w') (hB : ∀ p, a = some p → p.block < B) : Lies w' a n vs := by
  rcases h with e | ⟨p, e, hp, hc⟩
  · exact Or.inl e
  · exact Or.inr ⟨p, e, Nat.lt_of_lt_of_le hp hb.size, fun i hi => (hb.cell (by rw [block_add]; exact hB p e)).trans (hc i hi)⟩
theorem Lies.below' {w w' : World} {a : Option Addr} {n : Nat} {vs : Nat → Value} (h : Lies w a n vs) (hb : Below w.heap.size w w') : Lies w' a n vs := by
  rcases h with e | ⟨p, e, hp, hc⟩
  · exact Or.inl e
  · exact Or.inr ⟨p, e, Nat.lt_of_lt_of_le hp hb.size, fun i hi => (hb.cell (by rw [block_add]; exact hp)).trans (hc i hi)⟩
theorem lies_of_row {w : World} {g n : Nat} {t : TypeId} {vs : Nat → Value} (h : w.rowIs g t n vs) : Lies w (some ⟨g, 0, none⟩) n vs :=
  Or.inr ⟨_, rfl, h.lt, fun i hi => by rw [Addr.add_lit, Nat.zero_add]; exact h.cell hi⟩

def ints (xs : Nat → Int) : Nat → Value := fun i => .int .i64 (xs i)
def bools (bs : Nat → Bool) : Nat → Value := fun i => .bool (bs i)
def upTo (k : Nat) (vs : Nat → Value) (z : Value) : Nat → Value := fun j => if j < k then vs j else z
theorem upTo_step (k : Nat) (vs : Nat → Value) (z : Value) (j : Nat) : (if j = k then vs k else upTo k vs z j) = upTo (k + 1) vs z j := by
  unfold upTo
  by_cases e : j = k
  · rw [if_pos e, e, if_pos (by omega)]
  · rw [if_neg e]
    by_cases e2 : j < k
    · rw [if_pos e2, if_pos (by omega)]
    · rw [if_neg e2, if_neg (by omega)]

def CopyPost (n : Nat) (vs : Nat → Value) (w : World) (e : Ending) (w' : World) : Prop :=
  ∃ a', e = .returned (.slice a' n n) ∧ Lies w' a' n vs ∧ Below w.heap.size w w' ∧ (∀ p, a' = some p → p.block < w'.heap.size)

theorem info3 : (Try.prog.info? 3).map (fun i => (i.zero, i.size, i.bytes)) = some (some (.int .i64 0), 1, 8) := by kernel_rfl

set_option maxHeartbeats 1000000 in
theorem copy8_some (p : Addr) (n c : Nat) (xs : Nat → Int) (w : World) (h : Lies w (some p) n (ints xs)) (hn : n ≤ 65536) :
    Calls Try.prog 8 #[.slice (some p) n c] w fun e w' => CopyPost n (ints xs) w e w' := by
  have hmk := run_make_row' (P := Try.prog) 22 3 (.int .i64 0) 8 Try.underlying22 info3 rfl .i64 .i64 n (by omega) (by omega)
  have heq := fun wx : World => Lib.run_eql_slice_nil (P := Try.prog) wx 22 3 (some p) n c 0 0 Try.underlying22
  have H : Hid (Lies w (some p) n (ints xs)) := h
  clear h
  go_enter Try.func8, Try.ntmps8
  go_wp2_with fail
  have R0 : Hid ((w.alloc (.cells (madeCells #[.int .i64 0] n) 3)).rowIs w.heap.size 3 n (upTo 0 (ints xs) (.int .i64 0))) := (World.rowIs_made w (.int .i64 0) n 3).congr (fun i _ => rfl)
  have B0 : Hid (Below w.heap.size w (w.alloc (.cells (madeCells #[.int .i64 0] n) 3))) := (Below.refl _ _).alloc (Nat.le_refl _) _
  go_loopw [4] (fun i wr => ∃ k : Nat, k ≤ n ∧ i = .int .i64 k ∧ Hid (wr.rowIs w.heap.size 3 n (upTo k (ints xs) (.int .i64 0))) ∧ Hid (Below w.heap.size w wr)) (fun i _ => n - (RowKit.intOf i).toNat)
  case atStart => exact ⟨0, by omega, rfl, R0, B0⟩
  case round =>
    obtain ⟨k, hk, rfl, hrow, hbel⟩ := hrel
    by_cases hlt : k < n
    · obtain ⟨hpb, g1⟩ : p.block < w.heap.size ∧ ∀ i, i < n → w.cell? (p.add i) = some (ints xs i) := H.out.elim (fun e => by omega) (fun ⟨q, e, a, b⟩ => by cases e; exact ⟨a, b⟩)
      obtain ⟨x, hx⟩ : ∃ x, x = xs k := ⟨_, rfl⟩
      have e1 : wr.cell? (p.add k) = some (.int .i64 x) := by
        rw [hx]
        exact (hbel.out.cell (by rw [block_add]; exact hpb)).trans (g1 k hlt)
      have hc := hrow.out.cell hlt
      have hc2 : (upTo k (ints xs) (.int .i64 0)) k = .int .i64 0 := if_neg (by omega)
      rw [hc2] at hc
      have hf := hrow.out.frozen k
      have HN : Hid (∀ j : Nat, (if j = k then .int .i64 x else upTo k (ints xs) (.int .i64 0) j) = upTo (k + 1) (ints xs) (.int .i64 0) j) := fun j => by rw [hx]; exact upTo_step k (ints xs) (.int .i64 0) j
      have hgl := hrow.out.lt
      clear hx g1 hc2
      go_wp2_with fail
      exact ⟨⟨k + 1, by omega, by go_num, (hrow.out.set k _).congr (fun j _ => HN.out j), hbel.out.setCell (Nat.le_refl _) _⟩, by simp [RowKit.intOf]; omega⟩
    · have HL : Hid (wr.rowIs w.heap.size 3 n (ints xs)) := hrow.out.congr (fun j hj => if_pos (by omega))
      go_wp2_with fail
      go_ret
      exact ⟨_, rfl, lies_of_row HL.out, hbel.out, fun q e => by cases e; exact HL.out.lt⟩

set_option maxHeartbeats 400000 in
theorem copy8_none (w : World) : Calls Try.prog 8 #[.slice none 0 0] w fun e w' => e = .returned (.slice none 0 0) ∧ w' = w := by
  have heq := fun wx : World => Lib.run_eql_slice_nil (P := Try.prog) wx 22 3 none 0 0 0 0 Try.underlying22
  go_enter Try.func8, Try.ntmps8
  go_wp2_with fail
  go_ret
  exact ⟨rfl, rfl⟩

theorem copy8_calls (a : Option Addr) (n c : Nat) (xs : Nat → Int) (w : World) (h : Lies w a n (ints xs)) (ha : a = none → n = 0 ∧ c = 0) (hn : n ≤ 65536) :
    Calls Try.prog 8 #[.slice a n c] w fun e w' => CopyPost n (ints xs) w e w' := by
  cases a with
  | some p => exact copy8_some p n c xs w h hn
  | none =>
    obtain ⟨rfl, rfl⟩ := ha rfl
    refine (copy8_none w).mono ?_
    rintro e w' ⟨rfl, rfl⟩
    exact ⟨none, rfl, h, Below.refl _ _, fun p e => by cases e⟩

theorem info4 : (Try.prog.info? 4).map (fun i => (i.zero, i.size, i.bytes)) = some (some (.bool false), 1, 1) := by kernel_rfl

set_option maxHeartbeats 1000000 in
theorem copy9_some (p : Addr) (n c : Nat) (xs : Nat → Bool) (w : World) (h : Lies w (some p) n (bools xs)) (hn : n ≤ 65536) :
    Calls Try.prog 9 #[.slice (some p) n c] w fun e w' => CopyPost n (bools xs) w e w' := by
  have hmk := run_make_row' (P := Try.prog) 23 4 (.bool false) 1 Try.underlying23 info4 rfl .i64 .i64 n (by omega) (by omega)
  have heq := fun wx : World => Lib.run_eql_slice_nil (P := Try.prog) wx 23 4 (some p) n c 0 0 Try.underlying23
  have H : Hid (Lies w (some p) n (bools xs)) := h
  clear h
  go_enter Try.func9, Try.ntmps9
  go_wp2_with fail
  have R0 : Hid ((w.alloc (.cells (madeCells #[.bool false] n) 4)).rowIs w.heap.size 4 n (upTo 0 (bools xs) (.bool false))) := (World.rowIs_made w (.bool false) n 4).congr (fun i _ => rfl)
  have B0 : Hid (Below w.heap.size w (w.alloc (.cells (madeCells #[.bool false] n) 4))) := (Below.refl _ _).alloc (Nat.le_refl _) _
  go_loopw [4] (fun i wr => ∃ k : Nat, k ≤ n ∧ i = .int .i64 k ∧ Hid (wr.rowIs w.heap.size 4 n (upTo k (bools xs) (.bool false))) ∧ Hid (Below w.heap.size w wr)) (fun i _ => n - (RowKit.intOf i).toNat)
  case atStart => exact ⟨0, by omega, rfl, R0, B0⟩
  case round =>
    obtain ⟨k, hk, rfl, hrow, hbel⟩ := hrel
    by_cases hlt : k < n
    · obtain ⟨hpb, g1⟩ : p.block < w.heap.size ∧ ∀ i, i < n → w.cell? (p.add i) = some (bools xs i) := H.out.elim (fun e => by omega) (fun ⟨q, e, a, b⟩ => by cases e; exact ⟨a, b⟩)
      obtain ⟨x, hx⟩ : ∃ x, x = xs k := ⟨_, rfl⟩
      have e1 : wr.cell? (p.add k) = some (.bool x) := by
        rw [hx]
        exact (hbel.out.cell (by rw [block_add]; exact hpb)).trans (g1 k hlt)
      have hc := hrow.out.cell hlt
      have hc2 : (upTo k (bools xs) (.bool false)) k = .bool false := if_neg (by omega)
      rw [hc2] at hc
      have hf := hrow.out.frozen k
      have HN : Hid (∀ j : Nat, (if j = k then .bool x else upTo k (bools xs) (.bool false) j) = upTo (k + 1) (bools xs) (.bool false) j) := fun j => by rw [hx]; exact upTo_step k (bools xs) (.bool false) j
      have hgl := hrow.out.lt
      clear hx g1 hc2
      go_wp2_with fail
      exact ⟨⟨k + 1, by omega, by go_num, (hrow.out.set k _).congr (fun j _ => HN.out j), hbel.out.setCell (Nat.le_refl _) _⟩, by simp [RowKit.intOf]; omega⟩
    · have HL : Hid (wr.rowIs w.heap.size 4 n (bools xs)) := hrow.out.congr (fun j hj => if_pos (by omega))
      go_wp2_with fail
      go_ret
      exact ⟨_, rfl, lies_of_row HL.out, hbel.out, fun q e => by cases e; exact HL.out.lt⟩

set_option maxHeartbeats 400000 in
theorem copy9_none (w : World) : Calls Try.prog 9 #[.slice none 0 0] w fun e w' => e = .returned (.slice none 0 0) ∧ w' = w := by
  have heq := fun wx : World => Lib.run_eql_slice_nil (P := Try.prog) wx 23 4 none 0 0 0 0 Try.underlying23
  go_enter Try.func9, Try.ntmps9
  go_wp2_with fail
  go_ret
  exact ⟨rfl, rfl⟩

theorem copy9_calls (a : Option Addr) (n c : Nat) (xs : Nat → Bool) (w : World) (h : Lies w a n (bools xs)) (ha : a = none → n = 0 ∧ c = 0) (hn : n ≤ 65536) :
    Calls Try.prog 9 #[.slice a n c] w fun e w' => CopyPost n (bools xs) w e w' := by
  cases a with
  | some p => exact copy9_some p n c xs w h hn
  | none =>
    obtain ⟨rfl, rfl⟩ := ha rfl
    refine (copy9_none w).mono ?_
    rintro e w' ⟨rfl, rfl⟩
    exact ⟨none, rfl, h, Below.refl _ _, fun p e => by cases e⟩
end Go.Proofs.Qxb6600523a.Jp
