import Derived.Test.Qxb6600523aCopy
namespace Go.Proofs.Qxb6600523a.Jp
open Go.ChangeShapes Go.WideShapes Go.RowKit
set_option linter.unusedVariables false
theorem info45 : (Try.prog.info? 45).map (fun i => (i.zero, i.size, i.bytes)) = some (some (.slice none 0 0), 1, 24) := by kernel_rfl

theorem heap_new (w : World) (o : Obj) : (w.alloc o).heap[w.heap.size]? = some o := by
  show (w.heap.push o)[w.heap.size]? = some o
  simp
theorem size_new (w : World) (o : Obj) : (w.alloc o).heap.size = w.heap.size + 1 := by
  show (w.heap.push o).size = _
  rw [Array.size_push]

/-- Fresh joined pairs. -/
def Fresh (D : Nat) (w : World) (e : Ending) (w' : World) : Prop :=
  ∃ J O slot ix τ, e = .returned (.pointer (some ⟨J, 0, none⟩)) ∧ Jn w.heap.size J D (fun _ => []) w' O slot ix τ ∧ Below w.heap.size w w'

theorem cell_new (w : World) (cs : Array Value) (t : TypeId) (i : Nat) : (w.alloc (.cells cs t)).cell? ⟨w.heap.size, i, none⟩ = cs[i]? := by
  unfold World.cell?
  rw [heap_new]
  rfl
theorem frozen_new (w : World) (cs : Array Value) (t : TypeId) (i : Nat) : (w.alloc (.cells cs t)).frozen? ⟨w.heap.size, i, none⟩ = false := by
  unfold World.frozen?
  rw [heap_new]
  simp

theorem jn_fresh (w : World) (D : Nat) (c3 c4 c5 : Value) :
    Jn w.heap.size (w.heap.size + 1) D (fun _ => []) ((w.alloc (.cells (madeCells #[.slice none 0 0] D) 45)).alloc (.cells #[.slice (some ⟨w.heap.size, 0, none⟩) D D, .slice none 0 0, .int .i64 (-1), c3, c4, c5] 44)) w.heap.size (fun _ => .slice none 0 0) (.slice none 0 0) (fun b => if b = w.heap.size then .o else .j) := by
  have e := size_new w (.cells (madeCells #[.slice none 0 0] D) 45)
  have hr : ((w.alloc (.cells (madeCells #[.slice none 0 0] D) 45)).alloc (.cells #[.slice (some ⟨w.heap.size, 0, none⟩) D D, .slice none 0 0, .int .i64 (-1), c3, c4, c5] 44)).rowIs w.heap.size 45 D (fun _ => .slice none 0 0) := (World.rowIs_made w (.slice none 0 0) D 45).alloc _
  refine ⟨by omega, if_neg (by omega), ?_, ?_, ?_, ?_, Nat.le_refl _, if_pos rfl, hr, fun d hd => World.ownsRow_nil _ _ _ _, (fun d k hd hk => by cases hk), Or.inl rfl⟩
  · rw [← e, cell_new]; rfl
  · rw [← e, cell_new]; rfl
  · rw [← e, cell_new]; rfl
  · rw [← e, frozen_new]

set_option maxHeartbeats 1000000 in
/-- ZZNewJoinedPairs. -/
theorem new_calls (D : Nat) (w : World) (hD : D ≤ 65536) : Calls Try.prog 11 #[.int .i64 D] w fun e w' => Fresh D w e w' := by
  have hmk := run_make_row' (P := Try.prog) 39 45 (.slice none 0 0) 24 Try.underlying39 info45 rfl .i64 .i64 D (by omega) (by omega)
  go_enter Try.func11, Try.ntmps11
  go_wp2_with fail
  go_ret
  exact ⟨_, _, _, _, _, rfl, jn_fresh w D _ _ _, ((Below.refl _ w).alloc (Nat.le_refl _) _).alloc (by rw [size_new]; omega) _⟩
end Go.Proofs.Qxb6600523a.Jp
