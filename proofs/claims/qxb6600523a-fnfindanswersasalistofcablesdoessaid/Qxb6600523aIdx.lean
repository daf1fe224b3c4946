import Derived.Test.Qxb6600523aNew
namespace Go.Proofs.Qxb6600523a.Jp
open Go.ChangeShapes Go.WideShapes Go.RowKit
set_option linter.unusedVariables false

section
variable {B J D : Nat} {A : Nat → List (Nat × Nat)} {w w1 : World} {O : Nat} {slot : Nat → Value} {ix : Value} {τ : Nat → Role}

theorem grown_set (w : World) (a : Addr) (v : Value) : w.grownBy (w.setCell a v) (some a.block) :=
  ⟨rfl, rfl, rfl, by simp [World.setCell], fun k hk hne => Below.heap_setCell w a v k (fun e => hne (by rw [e]))⟩

/-- All but the index, where only blocks of one role have turned. -/
theorem Jn.rest (h : Jn B J D A w O slot ix τ) {ix' : Value} {row : Option Nat} (hg : w.grownBy w1 row) (τ' : Nat → Role) (hτ : ∀ b, b < w.heap.size → τ' b = τ b)
    (hO : some O ≠ row) (hrow : ∀ d k, τ k = .r d → some k ≠ row)
    (c0 : w1.cell? ⟨J, 0, none⟩ = some (.slice (some ⟨O, 0, none⟩) D D)) (c1 : w1.cell? ⟨J, 1, none⟩ = some ix') (c2 : w1.cell? ⟨J, 2, none⟩ = some (.int .i64 (-1))) (f1 : w1.frozen? ⟨J, 1, none⟩ = false)
    (hix : Ix B D A w1 ix' τ') : Jn B J D A w1 O slot ix' τ' where
  hBJ := h.hBJ
  tJ := (hτ J h.J_lt).trans h.tJ
  c0 := c0
  c1 := c1
  c2 := c2
  f1 := f1
  hBO := h.hBO
  tO := (hτ O h.rO.lt).trans h.tO
  rO := h.rO.of_block (hg.block O h.rO.lt hO)
  rows := fun d hd => (h.rows d hd).kept hg (by
    cases hv : (slot d).ownBlock with
    | none => exact Or.inl rfl
    | some k => exact Or.inr (hrow d k (h.trow d k hd hv)))
  trow := fun d k hd hk => (hτ k ((h.rows d hd).lt k hk).2).trans (h.trow d k hd hk)
  idx := hix

/-- The index made. -/
theorem Jn.index (h : Jn B J D A w O slot ix τ) {X cap : Nat} (hg : w.grownBy w1 none) (hX : w.heap.size ≤ X) (hr : w1.rowIs X 55 cap (fun _ => .map none)) (hD : D ≤ cap) (hB : B ≤ w.heap.size) :
    ∃ τ', Jn B J D A (w1.setCell ⟨J, 1, none⟩ (.slice (some ⟨X, 0, none⟩) D cap)) O slot (.slice (some ⟨X, 0, none⟩) D cap) τ' := by
  have hJ := h.J_lt
  have hb := below_of_grown hg
  have hJO : J ≠ O := fun e => by have a := h.tJ; rw [e, h.tO] at a; cases a
  have k0 : w1.cell? ⟨J, 0, none⟩ = some (.slice (some ⟨O, 0, none⟩) D D) := (hb.cell (p := ⟨J, 0, none⟩) hJ).trans h.c0
  have k1 : w1.cell? ⟨J, 1, none⟩ = some ix := (hb.cell (p := ⟨J, 1, none⟩) hJ).trans h.c1
  have k2 : w1.cell? ⟨J, 2, none⟩ = some (.int .i64 (-1)) := (hb.cell (p := ⟨J, 2, none⟩) hJ).trans h.c2
  have g1 : w1.frozen? ⟨J, 1, none⟩ = false := (hb.frozen (p := ⟨J, 1, none⟩) hJ).trans h.f1
  have hgs : w.grownBy (w1.setCell ⟨J, 1, none⟩ (.slice (some ⟨X, 0, none⟩) D cap)) (some J) :=
    ⟨hg.os, hg.tape, hg.output, by simpa [World.setCell] using hg.size, fun k hk hne => (Below.heap_setCell w1 _ _ k (fun e => hne (by rw [e]))).trans (hg.block k hk (by simp))⟩
  refine ⟨fun b => if b = X then .x else τ b, h.rest hgs _ (fun b hb' => if_neg (by omega)) (fun e => by cases e; exact hJO rfl) (fun d k hk e => by cases e; rw [h.tJ] at hk; cases hk) ?_ ?_ ?_ ?_ ?_⟩
  · rw [World.cell?_setCell_other (h := by simp)]; exact k0
  · exact World.cell?_setCell_same (h := k1) ..
  · rw [World.cell?_setCell_other (h := by simp)]; exact k2
  · rw [World.frozen?_setCell]; exact g1
  · exact Or.inr ⟨X, cap, fun _ => .map none, rfl, by omega, if_pos rfl, hD, hr.setOther (by show X ≠ J; omega) _, fun d hd => Or.inl rfl⟩

/-- A map made and laid into the index. -/
theorem Jn.mapMade (h : Jn B J D A w O slot ix τ) {X cap d : Nat} {mp : Nat → Value} (hix : ix = .slice (some ⟨X, 0, none⟩) D cap) (hBX : B ≤ X) (tX : τ X = .x) (hDc : D ≤ cap) (hr : w.rowIs X 55 cap mp) (hmp : ∀ d, d < D → MapOk B (A d) w (mp d) d τ) (hd : d < D) (hB : B ≤ w.heap.size) :
    ∃ τ', Jn B J D A ((w.alloc (.map #[] 0)).setCell ⟨X, d, none⟩ (.map (some w.heap.size))) O slot ix τ' ∧ τ' X = .x ∧ τ' w.heap.size = .m d ∧
      ((w.alloc (.map #[] 0)).setCell ⟨X, d, none⟩ (.map (some w.heap.size))).rowIs X 55 cap (fun e => if e = d then .map (some w.heap.size) else mp e) ∧
      (∀ e, e < D → MapOk B (A e) ((w.alloc (.map #[] 0)).setCell ⟨X, d, none⟩ (.map (some w.heap.size))) (if e = d then .map (some w.heap.size) else mp e) e τ') ∧
      ((w.alloc (.map #[] 0)).setCell ⟨X, d, none⟩ (.map (some w.heap.size))).ownsMap Try.prog 3 (plainElem Try.prog 3) w.heap.size 0 (putAll ((A d).take 0)) := by
  have hJ := h.J_lt
  have hX := hr.lt
  have hXJ : X ≠ J := fun e => by rw [e, h.tJ] at tX; cases tX
  have hga : w.grownBy (w.alloc (.map #[] 0)) none := World.grownBy_alloc w _ _
  have hgs : (w.alloc (.map #[] 0)).grownBy ((w.alloc (.map #[] 0)).setCell ⟨X, d, none⟩ (.map (some w.heap.size))) (some X) := grown_set _ _ _
  have hg : w.grownBy ((w.alloc (.map #[] 0)).setCell ⟨X, d, none⟩ (.map (some w.heap.size))) (some X) :=
    ⟨rfl, rfl, rfl, Nat.le_trans hga.size hgs.size, fun k hk hne => (hgs.block k (Nat.lt_of_lt_of_le hk hga.size) hne).trans (hga.block k hk (by simp))⟩
  have hown : ((w.alloc (.map #[] 0)).setCell ⟨X, d, none⟩ (.map (some w.heap.size))).ownsMap Try.prog 3 (plainElem Try.prog 3) w.heap.size 0 (putAll ((A d).take 0)) :=
    (World.ownsMap_made (H := Unit) w Try.prog 3 (plainElem Try.prog 3)).kept hgs (by intro e; cases e; omega)
  have hrow : ((w.alloc (.map #[] 0)).setCell ⟨X, d, none⟩ (.map (some w.heap.size))).rowIs X 55 cap (fun e => if e = d then .map (some w.heap.size) else mp e) := (hr.alloc _).set d _
  have hτ : ∀ b, b < w.heap.size → (if b = w.heap.size then Role.m d else τ b) = τ b := fun b hb => if_neg (by omega)
  have hmp' : ∀ e, e < D → MapOk B (A e) ((w.alloc (.map #[] 0)).setCell ⟨X, d, none⟩ (.map (some w.heap.size))) (if e = d then .map (some w.heap.size) else mp e) e (fun b => if b = w.heap.size then .m d else τ b) := by
    intro e he
    by_cases ed : e = d
    · subst ed
      rw [if_pos rfl]
      exact Or.inr ⟨w.heap.size, 0, rfl, hB, if_pos rfl, Nat.zero_le _, hown⟩
    · rw [if_neg ed]
      rcases hmp e he with e0 | ⟨b, m, e0, hBb, htb, hm, ho⟩
      · exact Or.inl e0
      · exact Or.inr ⟨b, m, e0, hBb, (hτ b ho.lt).trans htb, hm, ho.kept hg (by intro e'; cases e'; rw [tX] at htb; cases htb)⟩
  have bJ : ((w.alloc (.map #[] 0)).setCell ⟨X, d, none⟩ (.map (some w.heap.size))).heap[J]? = w.heap[J]? := hg.block J hJ (fun e => by cases e; exact hXJ rfl)
  refine ⟨fun b => if b = w.heap.size then .m d else τ b, ?_, (hτ X hX).trans tX, if_pos rfl, hrow, hmp', hown⟩
  refine h.rest hg _ hτ (fun e => by cases e; rw [h.tO] at tX; cases tX) (fun e k hk e' => by cases e'; rw [tX] at hk; cases hk) ?_ ?_ ?_ ?_ ?_
  · exact (World.cell?_of_block (w := w) (a := ⟨J, 0, none⟩) bJ).trans h.c0
  · exact (World.cell?_of_block (w := w) (a := ⟨J, 1, none⟩) bJ).trans h.c1
  · exact (World.cell?_of_block (w := w) (a := ⟨J, 2, none⟩) bJ).trans h.c2
  · exact (World.frozen?_of_block (w := w) (a := ⟨J, 1, none⟩) bJ).trans h.f1
  · exact Or.inr ⟨X, cap, _, hix, hBX, (hτ X hX).trans tX, hDc, hrow, hmp'⟩

/-- A map of the index turned. -/
theorem Jn.mapPut (h : Jn B J D A w O slot ix τ) {X cap d b m : Nat} {mp : Nat → Value} (hix : ix = .slice (some ⟨X, 0, none⟩) D cap) (hBX : B ≤ X) (tX : τ X = .x) (hDc : D ≤ cap) (hr : w.rowIs X 55 cap mp) (hmp : ∀ d, d < D → MapOk B (A d) w (mp d) d τ) (hd : d < D)
    (hmd : mp d = .map (some b)) (hBb : B ≤ b) (htb : τ b = .m d) (hm : m ≤ (A d).length) (hg : w.grownBy w1 (some b)) (hown : w1.ownsMap Try.prog 3 (plainElem Try.prog 3) b m (putAll ((A d).take m))) :
    Jn B J D A w1 O slot ix τ ∧ w1.rowIs X 55 cap mp ∧ ∀ e, e < D → MapOk B (A e) w1 (mp e) e τ := by
  have hX := hr.lt
  have hne : ∀ k, (∀ e, τ k = .m e → e ≠ d) → some k ≠ some b := fun k hk e => by cases e; exact hk d htb rfl
  have hrow : w1.rowIs X 55 cap mp := hr.of_block (hg.block X hX (hne X (fun e he => by rw [tX] at he; cases he)))
  have hmp' : ∀ e, e < D → MapOk B (A e) w1 (mp e) e τ := by
    intro e he
    by_cases ed : e = d
    · subst ed
      exact Or.inr ⟨b, m, hmd, hBb, htb, hm, hown⟩
    · exact (hmp e he).kept hg (fun b' hb' => hne b' (fun e' he' => by rw [hb'] at he'; cases he'; exact ed))
  have bJ : w1.heap[J]? = w.heap[J]? := hg.block J h.J_lt (hne J (fun e he => by rw [h.tJ] at he; cases he))
  refine ⟨h.rest hg τ (fun _ _ => rfl) (hne O (fun e he => by rw [h.tO] at he; cases he)) (fun e k hk => hne k (fun e' he' => by rw [hk] at he'; cases he')) ?_ ?_ ?_ ?_ ?_, hrow, hmp'⟩
  · exact (World.cell?_of_block (w := w) (a := ⟨J, 0, none⟩) bJ).trans h.c0
  · exact (World.cell?_of_block (w := w) (a := ⟨J, 1, none⟩) bJ).trans h.c1
  · exact (World.cell?_of_block (w := w) (a := ⟨J, 2, none⟩) bJ).trans h.c2
  · exact (World.frozen?_of_block (w := w) (a := ⟨J, 1, none⟩) bJ).trans h.f1
  · exact Or.inr ⟨X, cap, mp, hix, hBX, tX, hDc, hrow, hmp'⟩
end
end Go.Proofs.Qxb6600523a.Jp
