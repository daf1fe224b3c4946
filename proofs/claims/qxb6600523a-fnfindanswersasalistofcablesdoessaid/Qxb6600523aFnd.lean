import Derived.Test.Qxb6600523aIndx
import Derived.Test.Qxb6600523aIndy
namespace Go.Proofs.Qxb6600523a.Jp
open Go.ChangeShapes Go.WideShapes Go.RowKit
set_option linter.unusedVariables false

theorem adj_bd {cs : List Cab} {M : Nat} (h : ∀ c ∈ cs, c.1 ≤ M ∧ c.2.1 ≤ M ∧ c.2.2 ≤ M) (d : Nat) : ∀ p ∈ adj cs d, p.1 ≤ M ∧ p.2 ≤ M := by
  have key : ∀ (cs : List Cab) (A : Nat → List (Nat × Nat)), (∀ c ∈ cs, c.1 ≤ M ∧ c.2.1 ≤ M ∧ c.2.2 ≤ M) → (∀ d, ∀ p ∈ A d, p.1 ≤ M ∧ p.2 ≤ M) → ∀ d, ∀ p ∈ cs.foldl put A d, p.1 ≤ M ∧ p.2 ≤ M := by
    intro cs
    induction cs with
    | nil => intro A _ h d; exact h d
    | cons c cs ih =>
      intro A hc h d
      rw [List.foldl_cons]
      refine ih (put A c) (fun b hb => hc b (List.mem_cons_of_mem _ hb)) (fun e => ?_) d
      have hc0 := hc c (List.mem_cons_self ..)
      have hu : ∀ (A : Nat → List (Nat × Nat)), (∀ d, ∀ p ∈ A d, p.1 ≤ M ∧ p.2 ≤ M) → ∀ (d : Nat) (q : Nat × Nat), (q.1 ≤ M ∧ q.2 ≤ M) → ∀ e, ∀ p ∈ upd A d q e, p.1 ≤ M ∧ p.2 ≤ M := by
        intro A h d q hq e p hp
        unfold upd at hp
        split at hp
        · rcases List.mem_append.1 hp with e1 | e1
          · exact h d p e1
          · rw [List.mem_singleton.1 e1]; exact hq
        · exact h e p hp
      exact hu _ (hu A h c.1 (c.2.1, c.2.2) ⟨hc0.2.1, hc0.2.2⟩) c.2.1 (c.1, c.2.2) ⟨hc0.1, hc0.2.2⟩ e
  exact key cs (fun _ => []) h (fun _ p hp => by cases hp) d

theorem getD_bd {l : List (Nat × Nat)} {M : Nat} (h : ∀ p ∈ l, p.1 ≤ M ∧ p.2 ≤ M) (k : Nat) : (l.getD k (0, 0)).1 ≤ M ∧ (l.getD k (0, 0)).2 ≤ M := by
  rw [List.getD_eq_getElem?_getD]
  cases e : l[k]? with
  | none => exact ⟨Nat.zero_le _, Nat.zero_le _⟩
  | some p => exact h p (List.mem_of_getElem? e)

/-- find: the one cable between the two. -/
theorem find_calls (B J D : Nat) (cs : List Cab) (w : World) (O : Nat) (slot : Nat → Value) (ix : Value) (τ : Nat → Role) (h : Jn B J D (adj cs) w O slot ix τ) (hg : Good cs) (hin : ∀ c ∈ cs, c.1 < D ∧ c.2.1 < D ∧ c.2.2 ≤ 65536) (hlen : cs.length ≤ 4096)
    (x y : Nat) (hD : D ≤ 65536) (hB : B ≤ w.heap.size) (hx : x ≤ 9223372036854775807) (hy : y ≤ 9223372036854775807) :
    Calls Try.prog 20 #[.pointer (some ⟨J, 0, none⟩), .int .i64 x, .int .i64 y] w fun e w' => FindPost B J D (adj cs) (scan cs x y) w e w' := by
  by_cases hr : x < D ∧ y < D
  · have h1 := adj_len cs x
    have h2 := adj_len cs y
    have hv := look_adj hg x y
    have hv' : look (adj cs y) x = scan cs x y := by rw [look_adj hg, scan_comm]
    have hbd := fun k => getD_bd (adj_bd (M := 65536) (fun c hc => by have := hin c hc; omega) x) k
    by_cases hsw : (adj cs x).length < (adj cs y).length
    · by_cases h64 : (adj cs x).length ≤ 64
      · exact find_lin_x B J D (adj cs) w O slot ix τ h x y hD hr.1 hr.2 hB (by omega) (by omega) hsw h64 _ hv
      · exact find_idx_x B J D (adj cs) w O slot ix τ h x y hD hr.1 hr.2 hB (by omega) (by omega) hsw (by omega) (by omega) _ hv (dist_adj hg x) hbd
    · by_cases h64 : (adj cs y).length ≤ 64
      · exact find_lin_y B J D (adj cs) w O slot ix τ h x y hD hr.1 hr.2 hB (by omega) (by omega) hsw h64 _ hv'
      · exact find_idx_y B J D (adj cs) w O slot ix τ h x y hD hr.1 hr.2 hB (by omega) (by omega) hsw (by omega) (by omega) _ hv (dist_adj hg x) hbd
  · have hn : scan cs x y = none := scan_none hg (fun b hb hs => by
      have := hin b hb
      unfold same at hs
      omega)
    rw [hn]
    exact find_out B J D (adj cs) w O slot ix τ h x y hD hr hx hy

set_option maxHeartbeats 1000000 in
/-- ZZFind. -/
theorem find13_calls (B J D : Nat) (cs : List Cab) (w : World) (O : Nat) (slot : Nat → Value) (ix : Value) (τ : Nat → Role) (h : Jn B J D (adj cs) w O slot ix τ) (hg : Good cs) (hin : ∀ c ∈ cs, c.1 < D ∧ c.2.1 < D ∧ c.2.2 ≤ 65536) (hlen : cs.length ≤ 4096)
    (x y : Nat) (hD : D ≤ 65536) (hB : B ≤ w.heap.size) (hx : x ≤ 9223372036854775807) (hy : y ≤ 9223372036854775807) :
    Calls Try.prog 13 #[.pointer (some ⟨J, 0, none⟩), .int .i64 x, .int .i64 y] w fun e w' => FindPost B J D (adj cs) (scan cs x y) w e w' := by
  have HC : Hid (Calls Try.prog 20 #[.pointer (some ⟨J, 0, none⟩), .int .i64 x, .int .i64 y] w fun e w' => FindPost B J D (adj cs) (scan cs x y) w e w') := find_calls B J D cs w O slot ix τ h hg hin hlen x y hD hB hx hy
  clear h hg hin hlen hD hB hx hy
  go_enter Try.func13, Try.ntmps13
  go_wp2_with fail
  refine HC.out.mono ?_
  rintro e w' ⟨rfl, h1, h2⟩
  have H1 : Hid (∃ O slot ix τ, Jn B J D (adj cs) w' O slot ix τ) := h1
  have H2 : Hid (Below B w w') := h2
  clear h1 h2
  go_wp2_with fail
  go_ret2
  exact ⟨rfl, H1.out, H2.out⟩
end Go.Proofs.Qxb6600523a.Jp
