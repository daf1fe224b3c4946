import Derived.Test.Qxb6600523aLin
namespace Go.Proofs.Qxb6600523a.Jp
open Go.ChangeShapes Go.WideShapes Go.RowKit
set_option linter.unusedVariables false

theorem info55 : (Try.prog.info? 55).map (fun i => (i.zero, i.size, i.bytes)) = some (some (.map none), 1, 8) := by kernel_rfl

theorem zero_get (n i : Nat) (h : i < n) : (Builtin.zeroCells #[Value.map none] n)[i]? = some (.map none) := by
  simp [Builtin.zeroCells, h, Nat.mod_one]

/-- append(nil, make([]map[int]int, D)...) as a step of a region that draws. -/
theorem step_index {ops : Array Oper} {o : Oper} {a : Act} {w : World} {K : Act → World → Prop} {Q : Exit → Act → World → Prop} {E : Prop}
    (hg : o.guard = none) (s x : Operand) (hop : o.op = Op.call { callee := Callee.builtin Builtin.append, args := #[s, x], argTypes := #[40, 3] })
    (D : Nat) (hs : a.eval s = .slice none 0 0) (hx : a.eval x = .int .i64 D) (h0 : 0 < D) (hD : D ≤ 65536)
    (hK : ∀ cap w', D ≤ cap → w'.rowIs w.heap.size 55 cap (fun _ => .map none) → w.grownBy w' none → K (a.put o.dst (.slice (some ⟨w.heap.size, 0, none⟩) D cap)) w') :
    if Region.wanted o (yielded ops a.tmps) = true then Oper.wp Try.prog o a w K Q else E := by
  have hw : Region.wanted o (yielded ops a.tmps) = true := by simp [Region.wanted, hg]
  rw [if_pos hw]
  obtain ⟨i, hi, hz0, hz1, hz2⟩ := info_parts info55
  have hrun := Lib.run_append_nil_zeros (P := Try.prog) w 40 3 o.type 55 i (.map none) .i64 .i64 Try.underlying40 Try.underlying3 hi hz0 D h0 (by omega) (by omega) (by rw [hz2]; omega)
  have hge := grownCap_ge w D 0 55
  refine Lib.wp_append_run w s x 40 3 hop _ _ hs hx _ _ hrun (hK _ _ hge ?_ ⟨rfl, rfl, rfl, ?_, fun k hk _ => ?_⟩)
  · have hsz : (Builtin.zeroCells #[Value.map none] D ++ Builtin.zeroCells #[Value.map none] (grownCap w D 0 55 - D)).size = grownCap w D 0 55 := by
      rw [Array.size_append, size_zeroCells, size_zeroCells]
      show D * 1 + (grownCap w D 0 55 - D) * 1 = _
      omega
    have hr := World.rowIs_alloc w.drew (Builtin.zeroCells #[Value.map none] D ++ Builtin.zeroCells #[Value.map none] (grownCap w D 0 55 - D)) 55 (fun _ => .map none) (fun j hj => by
      rw [hsz] at hj
      by_cases e : j < D
      · rw [Array.getElem?_append_left (by rw [size_zeroCells]; show j < D * 1; omega)]
        exact zero_get D j e
      · rw [Array.getElem?_append_right (by rw [size_zeroCells]; show D * 1 ≤ j; omega), size_zeroCells]
        exact zero_get _ _ (by show j - D * 1 < _; omega))
    rw [hsz] at hr
    exact hr
  · show w.heap.size ≤ (w.heap.push _).size
    rw [Array.size_push]; omega
  · exact Below.heap_alloc w.drew _ k hk
end Go.Proofs.Qxb6600523a.Jp
