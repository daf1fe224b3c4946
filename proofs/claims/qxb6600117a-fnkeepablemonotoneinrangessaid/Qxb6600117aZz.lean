import Derived.Test.Qxb6600117aKeep
namespace Go.Proofs.Qxb6600117a.Kp
open Go.ChangeShapes Go.WideShapes Go.RowKit
set_option linter.unusedVariables false

theorem keep_calls (B g N : Nat) (a b : Option Addr) (na nb : Nat) (xs ys : List Int) (lo1 hi1 lo2 hi2 : Nat) (upTo : Int) (w : World)
    (hB : B < w.heap.size) (hBg : B ≠ g) (hN : N ≤ 65536) (hna : na ≤ 65536) (hnb : nb ≤ 65536)
    (c0 : w.cell? ⟨B, 0, none⟩ = some (.slice a na na)) (c1 : w.cell? ⟨B, 1, none⟩ = some (.slice b nb nb)) (c12 : w.cell? ⟨B, 12, none⟩ = some (.slice (some ⟨g, 0, none⟩) N N))
    (ha : Ints w a na xs) (hb : Ints w b nb ys) (hag : ∀ p, a = some p → p.block ≠ g) (hbg : ∀ p, b = some p → p.block ≠ g)
    (hr : w.rowIs g 3 N (row fun _ => 0)) (hlo1 : lo1 ≤ hi1) (hhi1 : hi1 ≤ na) (hlo2 : lo2 ≤ hi2) (hhi2 : hi2 ≤ nb)
    (hRA : Rng N (sub xs lo1 hi1)) (hRB : Rng N (sub ys lo2 hi2)) :
    Calls Try.prog 28 #[.pointer (some ⟨B, 0, none⟩), .int .i64 lo1, .int .i64 hi1, .int .i64 lo2, .int .i64 hi2, .int .i64 upTo] w fun e w' => KeepPost g N (keepF upTo (sub xs lo1 hi1) (sub ys lo2 hi2)) w e w' := by
  by_cases h : hi1 - lo1 ≤ hi2 - lo2
  · exact keep_no B g N a b na nb xs ys lo1 hi1 lo2 hi2 upTo w hB hBg hN hna hnb c0 c1 c12 ha hb hag hbg hr hlo1 hhi1 hlo2 hhi2 hRA hRB h
  · exact keep_sw B g N a b na nb xs ys lo1 hi1 lo2 hi2 upTo w hB hBg hN hna hnb c0 c1 c12 ha hb hag hbg hr hlo1 hhi1 hlo2 hhi2 hRA hRB (by omega)

theorem grown_alloc {w : World} {o : Obj} {r : Option Nat} : w.grownBy (w.alloc o) r :=
  ⟨rfl, rfl, rfl, by show w.heap.size ≤ (w.heap.push o).size; rw [Array.size_push]; omega, fun k hk _ => Below.heap_alloc w o k hk⟩
theorem grown_trans {a w w' : World} {row : Option Nat} (h : a.grownBy w row) (k : w.grownBy w' row) : a.grownBy w' row :=
  ⟨k.os.trans h.os, k.tape.trans h.tape, k.output.trans h.output, Nat.le_trans h.size k.size, fun i hi hne => (k.block i (Nat.lt_of_lt_of_le hi h.size) hne).trans (h.block i hi hne)⟩

theorem cell_new (w : World) (cs : Array Value) (t : TypeId) (i : Nat) : (w.alloc (.cells cs t)).cell? ⟨w.heap.size, i, none⟩ = cs[i]? := by
  unfold World.cell?
  rw [heap_new]
  rfl

set_option maxHeartbeats 2000000 in
/-- ZZKeepable. -/
theorem zz_calls (g N : Nat) (a b : Option Addr) (na nb : Nat) (xs ys : List Int) (lo1 hi1 lo2 hi2 : Nat) (upTo : Int) (w : World)
    (hN : N ≤ 65536) (hna : na ≤ 65536) (hnb : nb ≤ 65536)
    (ha : Ints w a na xs) (hb : Ints w b nb ys) (hag : ∀ p, a = some p → p.block ≠ g) (hbg : ∀ p, b = some p → p.block ≠ g)
    (hr : w.rowIs g 3 N (row fun _ => 0)) (hlo1 : lo1 ≤ hi1) (hhi1 : hi1 ≤ na) (hlo2 : lo2 ≤ hi2) (hhi2 : hi2 ≤ nb)
    (hRA : Rng N (sub xs lo1 hi1)) (hRB : Rng N (sub ys lo2 hi2)) :
    Calls Try.prog 22 #[.slice a na na, .slice b nb nb, .slice (some ⟨g, 0, none⟩) N N, .int .i64 lo1, .int .i64 hi1, .int .i64 lo2, .int .i64 hi2, .int .i64 upTo] w fun e w' => KeepPost g N (keepF upTo (sub xs lo1 hi1) (sub ys lo2 hi2)) w e w' := by
  have HA : Hid (Ints w a na xs) := ha
  have HB : Hid (Ints w b nb ys) := hb
  have HAG : Hid (∀ p, a = some p → p.block ≠ g) := hag
  have HBG : Hid (∀ p, b = some p → p.block ≠ g) := hbg
  have HR : Hid (w.rowIs g 3 N (row fun _ => 0)) := hr
  have HRA : Hid (Rng N (sub xs lo1 hi1)) := hRA
  have HRB : Hid (Rng N (sub ys lo2 hi2)) := hRB
  clear ha hb hag hbg hr hRA hRB
  go_enter Try.func22, Try.ntmps22
  go_wp2_with fail
  have hgl := HR.out.lt
  refine (keep_calls w.heap.size g N a b na nb xs ys lo1 hi1 lo2 hi2 upTo _ ?_ (by omega) hN hna hnb ?_ ?_ ?_ (HA.out.below ((Below.refl _ _).alloc (Nat.le_refl _) _)) (HB.out.below ((Below.refl _ _).alloc (Nat.le_refl _) _)) HAG.out HBG.out (HR.out.alloc _) hlo1 hhi1 hlo2 hhi2 HRA.out HRB.out).mono ?_
  · show w.heap.size < (w.heap.push _).size
    rw [Array.size_push]; omega
  · exact (cell_new ..).trans rfl
  · exact (cell_new ..).trans rfl
  · exact (cell_new ..).trans rfl
  · rintro e w' ⟨rfl, HR2, HG2⟩
    go_wp2_with fail
    go_ret
    exact ⟨rfl, HR2, grown_trans grown_alloc HG2.out⟩
end Go.Proofs.Qxb6600117a.Kp
