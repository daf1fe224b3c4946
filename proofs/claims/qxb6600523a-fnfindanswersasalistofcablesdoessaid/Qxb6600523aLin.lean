import Derived.Test.Qxb6600523aFind
namespace Go.Proofs.Qxb6600523a.Jp
open Go.ChangeShapes Go.WideShapes Go.RowKit
set_option linter.unusedVariables false

theorem drop_get {l : List (Nat × Nat)} {k : Nat} (h : k < l.length) : l.drop k = l.getD k (0, 0) :: l.drop (k + 1) := by
  rw [List.drop_eq_getElem_cons h, List.getD_eq_getElem?_getD, List.getElem?_eq_getElem h]; rfl

theorem look_drop {l : List (Nat × Nat)} {k t : Nat} (h : k < l.length) : look (l.drop k) t = if (l.getD k (0, 0)).1 = t then some (l.getD k (0, 0)).2 else look (l.drop (k + 1)) t := by
  rw [drop_get h, look]

/-- A slot's value written out. -/
theorem Jn.slot_form {B J D : Nat} {A : Nat → List (Nat × Nat)} {w : World} {O : Nat} {slot : Nat → Value} {ix : Value} {τ : Nat → Role} (h : Jn B J D A w O slot ix τ) {d : Nat} (hd : d < D) :
    ∃ ao c n, slot d = .slice ao n c ∧ n = (A d).length ∧ w.cell? ⟨O, d, none⟩ = some (.slice ao n c) ∧
      (∀ k, k < n → ∃ g, ao = some ⟨g, 0, none⟩ ∧ g < w.heap.size ∧ w.cell? ⟨g, k * 2, none⟩ = some (.int .i64 ((A d).getD k (0, 0)).1) ∧ w.cell? ⟨g, k * 2 + 1, none⟩ = some (.int .i64 ((A d).getD k (0, 0)).2)) := by
  have hc := h.rO.cell hd
  have hr := h.rows d hd
  rcases hr.2 with ⟨e, e2⟩ | ⟨g, cap, cur, e, hb, hgh, hrest⟩
  · exact ⟨none, 0, 0, e, e2.symm, by rw [hc, e], fun k hk => by omega⟩
  · refine ⟨some ⟨g, 0, none⟩, cap, _, e, rfl, by rw [hc, e], fun k hk => ⟨g, rfl, (Array.getElem?_eq_some_iff.1 hgh).1, ?_⟩⟩
    have hcs := hr.cells (g := g) (by rw [e]; rfl)
    have hg2 := cells2_get (A d) k hk
    have a1 := hcs _ _ hg2.1
    have a2 := hcs _ _ hg2.2
    rw [Addr.add_lit, Nat.zero_add] at a1 a2
    exact ⟨a1, a2⟩

set_option maxRecDepth 100000 in
set_option maxHeartbeats 4000000 in
theorem find_lin_x (B J D : Nat) (A : Nat → List (Nat × Nat)) (w : World) (O : Nat) (slot : Nat → Value) (ix : Value) (τ : Nat → Role) (h : Jn B J D A w O slot ix τ) (x y : Nat) (hD : D ≤ 65536) (hx : x < D) (hy : y < D) (hB : B ≤ w.heap.size)
    (hlx : (A x).length ≤ 65536) (hly : (A y).length ≤ 65536) (hsw : (A x).length < (A y).length) (h64 : (A x).length ≤ 64) (V : Option Nat) (hV : look (A x) y = V) :
    Calls Try.prog 20 #[.pointer (some ⟨J, 0, none⟩), .int .i64 x, .int .i64 y] w fun e w' => FindPost B J D A V w e w' := by
  obtain ⟨ax, cx, nx, _, hnx, kx, gx⟩ := h.slot_form hx
  obtain ⟨ay, cy, ny, _, hny, ky, gy⟩ := h.slot_form hy
  have c0 := h.c0
  have c2 := h.c2
  have hJ := h.J_lt
  have hO := h.rO.lt
  have e1 : ((-1 : Int) == (y : Int)) = false := beq_eq_false_iff_ne.2 (by omega)
  have e2 : ((-1 : Int) == (x : Int)) = false := beq_eq_false_iff_ne.2 (by omega)
  have hcmp : nx < ny := by omega
  have hn64 : nx ≤ 64 := by omega
  have hnx' : nx ≤ 65536 := by omega
  have hny' : ny ≤ 65536 := by omega
  have HH : Hid (Jn B J D A w O slot ix τ) := h
  have HV : Hid (look (A x) y = V) := hV
  have HN : Hid (nx = (A x).length) := hnx
  have HG : Hid (∀ k, k < nx → ∃ g, ax = some ⟨g, 0, none⟩ ∧ g < w.heap.size ∧ w.cell? ⟨g, k * 2, none⟩ = some (.int .i64 ((A x).getD k (0, 0)).1) ∧ w.cell? ⟨g, k * 2 + 1, none⟩ = some (.int .i64 ((A x).getD k (0, 0)).2)) := gx
  clear h hV gx gy hnx hny hlx hly hsw h64
  go_enter Try.func20, Try.ntmps20
  go_wp2_with fail
  go_quiet (fail)
  go_wp2_with fail
  go_loopw [119] (fun i wr => ∃ k : Nat, k ≤ nx ∧ i = .int .i64 k ∧ Hid (Below w.heap.size w wr) ∧ Hid (V = look ((A x).drop k) y)) (fun i _ => nx - (RowKit.intOf i).toNat)
  case atStart => exact ⟨0, by omega, rfl, ⟨rfl, rfl, rfl, Nat.le_refl _, fun _ _ => rfl⟩, HV.out.symm⟩
  case round =>
    obtain ⟨k, hk, rfl, hbel, hlook⟩ := hrel
    by_cases hlt : k < nx
    · obtain ⟨g, rfl, hg, d0, d1⟩ := HG.out k hlt
      have hll := look_drop (l := A x) (k := k) (t := y) (by rw [← HN.out]; exact hlt)
      generalize (A x).getD k (0, 0) = pr at d0 d1 hll
      obtain ⟨dv, cb⟩ := pr
      have d0' : wr.cell? ⟨g, k * 2, none⟩ = some (.int .i64 dv) := (hbel.out.cell (p := ⟨g, k * 2, none⟩) hg).trans d0
      have d1' : wr.cell? ⟨g, k * 2 + 1, none⟩ = some (.int .i64 cb) := (hbel.out.cell (p := ⟨g, k * 2 + 1, none⟩) hg).trans d1
      have hgr : g < wr.heap.size := Nat.lt_of_lt_of_le hg hbel.out.size
      have hwr : w.heap.size ≤ wr.heap.size := hbel.out.size
      have HL : Hid (V = if dv = y then some cb else look ((A x).drop (k + 1)) y) := hlook.out.trans hll
      clear hll d0 d1 hlook
      by_cases e : dv = y
      · have eb : ((dv : Int) == (y : Int)) = true := beq_iff_eq.2 (by omega)
        have HL2 : Hid (V = some cb) := by show _ = _; rw [HL.out, if_pos e]
        clear e
        go_wp2_with fail
        go_ret2
        exact ⟨by rw [HL2.out]; rfl, ⟨O, slot, ix, τ, HH.out.below (hbel.out.alloc hwr _)⟩, (hbel.out.alloc hwr _).mono hB⟩
      · have eb : ((dv : Int) == (y : Int)) = false := beq_eq_false_iff_ne.2 (by omega)
        have HL2 : Hid (V = look ((A x).drop (k + 1)) y) := by show _ = _; rw [HL.out, if_neg e]
        clear e
        go_wp2_with fail
        exact ⟨⟨k + 1, by omega, by go_num, hbel.out.alloc hwr _, HL2⟩, by simp [RowKit.intOf]; omega⟩
    · have HL2 : Hid (V = none) := by show _ = _; rw [hlook.out, List.drop_of_length_le (by rw [← HN.out]; omega)]; rfl
      go_wp2_with fail
      go_ret2
      exact ⟨by rw [HL2.out]; rfl, ⟨O, slot, ix, τ, HH.out.below hbel.out⟩, hbel.out.mono hB⟩

set_option maxRecDepth 100000 in
set_option maxHeartbeats 4000000 in
theorem find_lin_y (B J D : Nat) (A : Nat → List (Nat × Nat)) (w : World) (O : Nat) (slot : Nat → Value) (ix : Value) (τ : Nat → Role) (h : Jn B J D A w O slot ix τ) (x y : Nat) (hD : D ≤ 65536) (hx : x < D) (hy : y < D) (hB : B ≤ w.heap.size)
    (hlx : (A x).length ≤ 65536) (hly : (A y).length ≤ 65536) (hsw : ¬ (A x).length < (A y).length) (h64 : (A y).length ≤ 64) (V : Option Nat) (hV : look (A y) x = V) :
    Calls Try.prog 20 #[.pointer (some ⟨J, 0, none⟩), .int .i64 x, .int .i64 y] w fun e w' => FindPost B J D A V w e w' := by
  obtain ⟨ax, cx, nx, _, hnx, kx, gx⟩ := h.slot_form hx
  obtain ⟨ay, cy, ny, _, hny, ky, gy⟩ := h.slot_form hy
  have c0 := h.c0
  have c2 := h.c2
  have hJ := h.J_lt
  have hO := h.rO.lt
  have e1 : ((-1 : Int) == (y : Int)) = false := beq_eq_false_iff_ne.2 (by omega)
  have e2 : ((-1 : Int) == (x : Int)) = false := beq_eq_false_iff_ne.2 (by omega)
  have hcmp : ¬ nx < ny := by omega
  have hn64 : ny ≤ 64 := by omega
  have hnx' : nx ≤ 65536 := by omega
  have hny' : ny ≤ 65536 := by omega
  have HH : Hid (Jn B J D A w O slot ix τ) := h
  have HV : Hid (look (A y) x = V) := hV
  have HN : Hid (ny = (A y).length) := hny
  have HG : Hid (∀ k, k < ny → ∃ g, ay = some ⟨g, 0, none⟩ ∧ g < w.heap.size ∧ w.cell? ⟨g, k * 2, none⟩ = some (.int .i64 ((A y).getD k (0, 0)).1) ∧ w.cell? ⟨g, k * 2 + 1, none⟩ = some (.int .i64 ((A y).getD k (0, 0)).2)) := gy
  clear h hV gx gy hnx hny hlx hly hsw h64
  go_enter Try.func20, Try.ntmps20
  go_wp2_with fail
  go_quiet (fail)
  go_wp2_with fail
  go_loopw [119] (fun i wr => ∃ k : Nat, k ≤ ny ∧ i = .int .i64 k ∧ Hid (Below w.heap.size w wr) ∧ Hid (V = look ((A y).drop k) x)) (fun i _ => ny - (RowKit.intOf i).toNat)
  case atStart => exact ⟨0, by omega, rfl, ⟨rfl, rfl, rfl, Nat.le_refl _, fun _ _ => rfl⟩, HV.out.symm⟩
  case round =>
    obtain ⟨k, hk, rfl, hbel, hlook⟩ := hrel
    by_cases hlt : k < ny
    · obtain ⟨g, rfl, hg, d0, d1⟩ := HG.out k hlt
      have hll := look_drop (l := A y) (k := k) (t := x) (by rw [← HN.out]; exact hlt)
      generalize (A y).getD k (0, 0) = pr at d0 d1 hll
      obtain ⟨dv, cb⟩ := pr
      have d0' : wr.cell? ⟨g, k * 2, none⟩ = some (.int .i64 dv) := (hbel.out.cell (p := ⟨g, k * 2, none⟩) hg).trans d0
      have d1' : wr.cell? ⟨g, k * 2 + 1, none⟩ = some (.int .i64 cb) := (hbel.out.cell (p := ⟨g, k * 2 + 1, none⟩) hg).trans d1
      have hgr : g < wr.heap.size := Nat.lt_of_lt_of_le hg hbel.out.size
      have hwr : w.heap.size ≤ wr.heap.size := hbel.out.size
      have HL : Hid (V = if dv = x then some cb else look ((A y).drop (k + 1)) x) := hlook.out.trans hll
      clear hll d0 d1 hlook
      by_cases e : dv = x
      · have eb : ((dv : Int) == (x : Int)) = true := beq_iff_eq.2 (by omega)
        have HL2 : Hid (V = some cb) := by show _ = _; rw [HL.out, if_pos e]
        clear e
        go_wp2_with fail
        go_ret2
        exact ⟨by rw [HL2.out]; rfl, ⟨O, slot, ix, τ, HH.out.below (hbel.out.alloc hwr _)⟩, (hbel.out.alloc hwr _).mono hB⟩
      · have eb : ((dv : Int) == (x : Int)) = false := beq_eq_false_iff_ne.2 (by omega)
        have HL2 : Hid (V = look ((A y).drop (k + 1)) x) := by show _ = _; rw [HL.out, if_neg e]
        clear e
        go_wp2_with fail
        exact ⟨⟨k + 1, by omega, by go_num, hbel.out.alloc hwr _, HL2⟩, by simp [RowKit.intOf]; omega⟩
    · have HL2 : Hid (V = none) := by show _ = _; rw [hlook.out, List.drop_of_length_le (by rw [← HN.out]; omega)]; rfl
      go_wp2_with fail
      go_ret2
      exact ⟨by rw [HL2.out]; rfl, ⟨O, slot, ix, τ, HH.out.below hbel.out⟩, hbel.out.mono hB⟩
end Go.Proofs.Qxb6600523a.Jp
