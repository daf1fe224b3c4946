import Derived.Test.Qxb6000751aLaw10
namespace Go.Proofs.Qxb6000751a.Por
open Go.ChangeShapes Go.WideShapes Go.RowKit
set_option linter.unusedVariables false

def bytesIn (bs : List Int) : Prop := ∀ x ∈ bs, 0 ≤ x ∧ x < 256

theorem nums_at (t : ByteArray) (k : Nat) (h : k < t.size) : (nums t).drop k = ((t[k]'h).toNat : Int) :: (nums t).drop (k + 1) := by
  have hl : k < t.data.toList.length := by rw [Array.length_toList]; exact h
  unfold nums
  rw [← List.map_drop, ← List.map_drop, List.drop_eq_getElem_cons hl, List.map_cons]
  rfl

theorem str_eq (l : List Int) (t : ByteArray) (h : bytesIn l) : ((strOfNums l).toList == t.toList) = (l == nums t) := by
  rw [ByteArray.toList_eq, ByteArray.toList_eq, strOfNums_data]
  unfold nums
  generalize t.data.toList = m
  induction l generalizing m with
  | nil => cases m <;> rfl
  | cons x l ih =>
    cases m with
    | nil => rfl
    | cons b m =>
      have hx := h x (List.mem_cons_self ..)
      rw [List.map_cons, List.map_cons, List.cons_beq_cons, List.cons_beq_cons, ih (fun y hy => h y (List.mem_cons_of_mem _ hy)) m]
      congr 1
      have e1 : (UInt8.ofNat x.toNat).toNat = x.toNat := by
        rw [UInt8.toNat_ofNat']; omega
      rw [Bool.eq_iff_iff, beq_iff_eq, beq_iff_eq]
      constructor
      · intro e
        rw [← e, e1]; omega
      · intro e
        apply UInt8.toNat_inj.1
        rw [e1]; omega

theorem ends_plain (bs : List Int) (t : ByteArray) (h : bytesIn bs) (hlt : t.size < bs.length) : endsB bs t = (bs.drop (bs.length - t.size) == nums t) := by
  unfold endsB
  rw [decide_eq_true hlt, Bool.true_and]
  exact str_eq _ t (fun x hx => h x (List.mem_of_mem_drop hx))

set_option maxHeartbeats 1000000 in
theorem in_short (a : Option Addr) (n c : Nat) (t : ByteArray) (w : World) (hn : n ≤ 1048576) (ht : t.size ≤ 1048576) (hlt : n ≤ t.size) :
    Calls Try.prog 32 #[.slice a n c, .string t] w fun e w' => e = .returned (.bool false) ∧ w' = w := by
  have hd : (n : Int) - (t.size : Int) ≤ 0 := by omega
  go_enter Try.func32, Try.ntmps32
  go_wp2_with fail
  go_ret
  exact ⟨rfl, rfl⟩

set_option maxHeartbeats 1000000 in
theorem in_long (b o n c q : Nat) (bs : List Int) (t : ByteArray) (w : World) (hl : n = bs.length) (hcell : ∀ i, i < n → w.cell? ⟨b, o + i, none⟩ = some (.int .u8 (bs.getD i 0))) (hn : n ≤ 1048576) (ht : t.size ≤ 1048576) (hq : n = q + t.size) (hq0 : 0 < q) (hE : endsB bs t = (bs.drop q == nums t)) :
    Calls Try.prog 32 #[.slice (some ⟨b, o, none⟩) n c, .string t] w fun e w' => e = .returned (.bool (endsB bs t)) ∧ ∃ m, w' = w.drewN m := by
  have HL : Hid (n = bs.length) := hl
  have HC : Hid (∀ i, i < n → w.cell? ⟨b, o + i, none⟩ = some (.int .u8 (bs.getD i 0))) := hcell
  have HE : Hid (endsB bs t = (bs.drop q == nums t)) := hE
  have hd : ¬ ((n : Int) - (t.size : Int) ≤ 0) := by omega
  have hsub : (n : Int) - (t.size : Int) = (q : Int) := by omega
  have HQ : Hid (n = q + t.size) := hq
  have hqn : q + t.size ≤ n := by omega
  clear hl hcell hE hq
  go_enter Try.func32, Try.ntmps32
  go_wp2_with fail
  go_loopw [6] (fun i wr => ∃ k m : Nat, k ≤ t.size ∧ i = .int .i64 k ∧ wr = w.drewN m ∧ Hid (endsB bs t = (bs.drop (q + k) == (nums t).drop k))) (fun i _ => t.size - (RowKit.intOf i).toNat)
  case atStart => exact ⟨0, 0, by omega, rfl, rfl, HE.out⟩
  case round =>
    obtain ⟨k, m, hk, rfl, rfl, heq⟩ := hrel
    by_cases hlt : k < t.size
    · have hd1 := drop_cons (xs := bs) (k := q + k) (by rw [← HL.out, HQ.out]; omega)
      have hd2 := nums_at t k hlt
      obtain ⟨x, hx⟩ : ∃ x, x = bs.getD (q + k) 0 := ⟨_, rfl⟩
      have e1 : w.cell? ⟨b, o + (q + k), none⟩ = some (.int .u8 x) := by rw [hx]; exact HC.out (q + k) (by omega)
      rw [← hx] at hd1
      have HD : Hid (endsB bs t = ((x == ((t[k]'hlt).toNat : Int)) && (bs.drop (q + (k + 1)) == (nums t).drop (k + 1)))) := by show _ = _; rw [heq.out, hd1, hd2, List.cons_beq_cons]; rfl
      clear hd1 hd2 hx
      by_cases hxy : x = ((t[k]'hlt).toNat : Int)
      · have HD2 : Hid (endsB bs t = (bs.drop (q + (k + 1)) == (nums t).drop (k + 1))) := by show _ = _; rw [HD.out, hxy]; simp
        have hne : (x == ((t[k]'hlt).toNat : Int)) = true := beq_iff_eq.2 hxy
        clear hxy
        go_wp2_with fail
        go_quiet (fail)
        go_wp2_with fail
        exact ⟨⟨k + 1, m + nq, by omega, by go_num, rfl, HD2⟩, by simp [RowKit.intOf]; omega⟩
      · have hne : (x == ((t[k]'hlt).toNat : Int)) = false := beq_eq_false_iff_ne.2 hxy
        have HD2 : Hid (endsB bs t = false) := by show _ = _; rw [HD.out, hne]; rfl
        clear hxy
        go_wp2_with fail
        go_quiet (fail)
        go_wp2_with fail
        go_ret
        exact ⟨retb HD2.out.symm, m + nq, World.drewN_drewN ..⟩
    · have hke : k = t.size := by omega
      have HD2 : Hid (endsB bs t = true) := by
        show _ = _
        rw [heq.out, List.drop_of_length_le (by rw [← HL.out, HQ.out]; omega), List.drop_of_length_le (by rw [nums_length]; omega)]; rfl
      clear hke
      go_wp2_with fail
      go_ret
      exact ⟨retb HD2.out.symm, m, rfl⟩

/-- endsIn. -/
theorem in_calls (a : Option Addr) (n c : Nat) (bs : List Int) (t : ByteArray) (w : World) (h : Bs w a n bs) (hby : bytesIn bs) (hn : n ≤ 1048576) (ht : t.size ≤ 1048576) :
    Calls Try.prog 32 #[.slice a n c, .string t] w fun e w' => e = .returned (.bool (endsB bs t)) ∧ ∃ m, w' = w.drewN m := by
  by_cases hlt : t.size < n
  · rcases h.lies with e | ⟨b, o, rfl, hb, hc⟩
    · omega
    · have hE := ends_plain bs t hby (by rw [← h.len]; exact hlt)
      rw [← h.len] at hE
      exact in_long b o n c (n - t.size) bs t w h.len hc hn ht (by omega) (by omega) hE
  · have e : endsB bs t = false := by
      unfold endsB
      rw [← h.len, decide_eq_false hlt, Bool.false_and]
    rw [e]
    refine (in_short a n c t w hn ht (by omega)).mono ?_
    rintro e w' ⟨rfl, rfl⟩
    exact ⟨rfl, 0, rfl⟩

/-! ### Rows of strings that the call fills -/
structure Fill (wr : World) (g m j : Nat) (xs : List ByteArray) : Prop where
  len : xs.length = j
  le : j ≤ m
  lt : g < wr.heap.size
  some' : ∀ i, i < m → (wr.cell? ⟨g, i, none⟩).isSome = true
  free : ∀ i, wr.frozen? ⟨g, i, none⟩ = false
  at' : ∀ i, i < j → wr.cell? ⟨g, i, none⟩ = some (.string (xs.getD i ⟨#[]⟩))

theorem Fill.below {B : Nat} {w w' : World} {g m j : Nat} {xs : List ByteArray} (h : Fill w g m j xs) (f : Below B w w') (hg : g < B) : Fill w' g m j xs :=
  ⟨h.len, h.le, Nat.lt_of_lt_of_le h.lt f.size, fun i hi => by rw [f.cell (p := ⟨g, i, none⟩) hg]; exact h.some' i hi, fun i => (f.frozen (p := ⟨g, i, none⟩) hg).trans (h.free i), fun i hi => (f.cell (p := ⟨g, i, none⟩) hg).trans (h.at' i hi)⟩
theorem Fill.alloc {w : World} {g m j : Nat} {xs : List ByteArray} (h : Fill w g m j xs) (o : Obj) : Fill (w.alloc o) g m j xs := h.below ((Below.refl w.heap.size w).alloc (Nat.le_refl _) o) h.lt
theorem Fill.other {w : World} {g m j : Nat} {xs : List ByteArray} (h : Fill w g m j xs) (p : Addr) (v : Value) (hp : p.block ≠ g) : Fill (w.setCell p v) g m j xs :=
  have ne : ∀ i, p ≠ ⟨g, i, none⟩ := fun i e => hp (by rw [e])
  ⟨h.len, h.le, by simpa [World.setCell] using h.lt, fun i hi => by rw [setCell_other _ _ _ _ (ne i)]; exact h.some' i hi, fun i => (frozen_setCell _ _ _ _).trans (h.free i), fun i hi => (setCell_other _ _ _ _ (ne i)).trans (h.at' i hi)⟩
theorem Fill.push {w : World} {g m j : Nat} {xs : List ByteArray} (h : Fill w g m j xs) (hj : j < m) (s : ByteArray) : Fill (w.setCell ⟨g, j, none⟩ (.string s)) g m (j + 1) (xs ++ [s]) where
  len := by rw [List.length_append, h.len]; rfl
  le := hj
  lt := by simpa [World.setCell] using h.lt
  some' := fun i hi => isSome_setCell _ _ _ _ (h.some' i hi)
  free := fun i => (frozen_setCell _ _ _ _).trans (h.free i)
  at' := fun i hi => by
    by_cases e : i = j
    · subst e
      rw [setCell_same _ _ _ (h.some' i hj), List.getD_eq_getElem?_getD, List.getElem?_append_right (by rw [h.len]; exact Nat.le_refl _), h.len, Nat.sub_self]
      rfl
    · have ne : (⟨g, j, none⟩ : Addr) ≠ ⟨g, i, none⟩ := fun e' => e (congrArg Addr.off e').symm
      rw [setCell_other _ _ _ _ ne, h.at' i (by omega), List.getD_eq_getElem?_getD, List.getD_eq_getElem?_getD, List.getElem?_append_left (by rw [h.len]; omega)]
theorem fill_start (w : World) (m : Nat) : Fill (w.alloc (.cells (madeCells #[.string ⟨#[]⟩] m) 9)) w.heap.size m 0 [] where
  len := rfl
  le := Nat.zero_le _
  lt := by simp
  some' := fun j hj => by
    rw [World.cell?_alloc_at (w := w) _ 9 w.heap.size j rfl, Array.getElem?_eq_getElem (by rw [size_madeCells]; exact hj)]; rfl
  free := fun j => by simp
  at' := fun i hi => absurd hi (Nat.not_lt_zero _)
theorem Fill.strs {w : World} {g m j : Nat} {xs : List ByteArray} (h : Fill w g m j xs) (hs : ∀ s ∈ xs, s.size ≤ 1048576) : Strs w (some ⟨g, 0, none⟩) xs :=
  ⟨Or.inr ⟨g, 0, rfl, h.lt, fun i hi => by rw [Nat.zero_add]; exact h.at' i (by rw [← h.len]; exact hi)⟩, hs⟩

theorem make_strs (m : Nat) (hm : m ≤ 4194304) (w : World) : (Instr.makeSlice 29 (.int .i64 0) (.int .i64 (m : Int))).run Try.prog w = .ok (.slice (some ⟨w.heap.size, 0, none⟩) 0 m) (w.alloc (.cells (madeCells #[.string ⟨#[]⟩] m) 9)) := by
  obtain ⟨i, hi, hz0, hz1, hz2⟩ := info_parts info9
  have h := run_make (P := Try.prog) w 29 9 i (.string ⟨#[]⟩) Try.underlying29 hi hz0 .i64 .i64 0 (m : Int) (by omega) (by omega) (by rw [hz2]; omega) (by omega)
  rw [hz1, Int.toNat_natCast, Nat.mul_one] at h
  exact h
end Go.Proofs.Qxb6000751a.Por
