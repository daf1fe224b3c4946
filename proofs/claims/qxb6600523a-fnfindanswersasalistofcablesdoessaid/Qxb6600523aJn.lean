import Derived.Test.Qxb6600523aProg
import Derived.Test.Qxb6600523aPlain
import Derived.WalkKit
import Derived.WalkSpells
import Derived.WalkLawsBesides
import Derived.Outline
import Derived.Deep.DeepFit
import Derived.BigQuiet
import Derived.Deep.QuietTactic
import Derived.Deep.OwnRows
import Derived.Deep.RegionLaw
import Derived.Maps.AppendAt
import Derived.Maps.Own
import Derived.Maps.OwnOps
import Derived.Maps.OwnSet
import Derived.Maps.Views
import Derived.Below
namespace Go.Proofs.Qxb6600523a.Jp
open Go.ChangeShapes Go.WideShapes Go.RowKit
set_option linter.unusedVariables false

theorem retb {a b : Bool} (h : a = b) : Ending.returned (.bool a) = .returned (.bool b) := by rw [h]

/-- The cells of a list of joints. -/
def cells2 : List (Nat × Nat) → List Value
  | [] => []
  | p :: l => .int .i64 p.1 :: .int .i64 p.2 :: cells2 l

theorem cells2_append (l m : List (Nat × Nat)) : cells2 (l ++ m) = cells2 l ++ cells2 m := by
  induction l with
  | nil => rfl
  | cons p l ih => rw [List.cons_append, cells2, cells2, ih]; rfl
theorem cells2_length (l : List (Nat × Nat)) : (cells2 l).length = l.length * 2 := by
  induction l with
  | nil => rfl
  | cons p l ih => rw [cells2, List.length_cons, List.length_cons, List.length_cons, ih]; omega
theorem cells2_get (l : List (Nat × Nat)) : ∀ i, i < l.length → (cells2 l)[i * 2]? = some (.int .i64 (l.getD i (0, 0)).1) ∧ (cells2 l)[i * 2 + 1]? = some (.int .i64 (l.getD i (0, 0)).2) := by
  induction l with
  | nil => intro i hi; simp at hi
  | cons p l ih =>
    intro i hi
    cases i with
    | zero => exact ⟨rfl, rfl⟩
    | succ i =>
      have := ih i (by simpa using hi)
      rw [cells2, show (i + 1) * 2 = i * 2 + 1 + 1 by omega]
      simpa using this

/-- What a block is there for. -/
inductive Role
  | j | o | x | r (d : Nat) | m (d : Nat) | no

/-- The map filled with a list's entries. -/
def putAll (l : List (Nat × Nat)) : DataW Unit := l.foldl (fun m p => m.put (.int .i64 p.1) (.lit (.int .i64 p.2))) (.map [])

def MapOk (B : Nat) (l : List (Nat × Nat)) (w : World) (v : Value) (d : Nat) (τ : Nat → Role) : Prop :=
  v = .map none ∨ ∃ b m, v = .map (some b) ∧ B ≤ b ∧ τ b = .m d ∧ m ≤ l.length ∧ w.ownsMap Try.prog 3 (plainElem Try.prog 3) b m (putAll (l.take m))

/-- The index: not there yet, or a row of maps. -/
def Ix (B D : Nat) (A : Nat → List (Nat × Nat)) (w : World) (ix : Value) (τ : Nat → Role) : Prop :=
  ix = .slice none 0 0 ∨ ∃ X cap mp, ix = .slice (some ⟨X, 0, none⟩) D cap ∧ B ≤ X ∧ τ X = .x ∧ D ≤ cap ∧ w.rowIs X 55 cap mp ∧ ∀ d, d < D → MapOk B (A d) w (mp d) d τ

/-- The joined pairs at block J: per device d < D the list A d. All blocks from B on, no two of them for two things. -/
structure Jn (B J D : Nat) (A : Nat → List (Nat × Nat)) (w : World) (O : Nat) (slot : Nat → Value) (ix : Value) (τ : Nat → Role) : Prop where
  hBJ : B ≤ J
  tJ : τ J = .j
  c0 : w.cell? ⟨J, 0, none⟩ = some (.slice (some ⟨O, 0, none⟩) D D)
  c1 : w.cell? ⟨J, 1, none⟩ = some ix
  c2 : w.cell? ⟨J, 2, none⟩ = some (.int .i64 (-1))
  f1 : w.frozen? ⟨J, 1, none⟩ = false
  hBO : B ≤ O
  tO : τ O = .o
  rO : w.rowIs O 45 D slot
  rows : ∀ d, d < D → w.ownsRow B 47 2 (slot d) (A d).length (cells2 (A d))
  trow : ∀ d k, d < D → (slot d).ownBlock = some k → τ k = .r d
  idx : Ix B D A w ix τ

theorem cell_lt {w : World} {p : Addr} {v : Value} (h : w.cell? p = some v) : p.block < w.heap.size := by
  unfold World.cell? at h
  cases hb : w.heap[p.block]? with
  | none => rw [hb] at h; cases h
  | some o => exact (Array.getElem?_eq_some_iff.1 hb).1

theorem grown_of_below {w w' : World} (h : Below w.heap.size w w') (row : Option Nat) : w.grownBy w' row := ⟨h.os, h.tape, h.output, h.size, fun k hk _ => h.block k hk⟩
theorem below_of_grown {w w' : World} (h : w.grownBy w' none) : Below w.heap.size w w' := ⟨h.os, h.tape, h.output, h.size, fun k hk => h.block k hk (by simp)⟩

theorem MapOk.kept {B : Nat} {l : List (Nat × Nat)} {w w' : World} {v : Value} {d : Nat} {τ : Nat → Role} {row : Option Nat} (h : MapOk B l w v d τ) (hg : w.grownBy w' row) (hne : ∀ b, τ b = .m d → some b ≠ row) : MapOk B l w' v d τ := by
  rcases h with e | ⟨b, m, e, hB, ht, hm, hown⟩
  · exact Or.inl e
  · exact Or.inr ⟨b, m, e, hB, ht, hm, hown.kept hg (hne b ht)⟩

theorem Ix.kept {B D : Nat} {A : Nat → List (Nat × Nat)} {w w' : World} {ix : Value} {τ : Nat → Role} {row : Option Nat} (h : Ix B D A w ix τ) (hg : w.grownBy w' row) (hx : ∀ b, τ b = .x → some b ≠ row) (hm : ∀ b d, τ b = .m d → some b ≠ row) : Ix B D A w' ix τ := by
  rcases h with e | ⟨X, cap, mp, e, hB, ht, hD, hr, hmp⟩
  · exact Or.inl e
  · exact Or.inr ⟨X, cap, mp, e, hB, ht, hD, hr.of_block (hg.block X hr.lt (hx X ht)), fun d hd => (hmp d hd).kept hg (fun b hb => hm b d hb)⟩

theorem Jn.J_lt {B J D : Nat} {A : Nat → List (Nat × Nat)} {w : World} {O : Nat} {slot : Nat → Value} {ix : Value} {τ : Nat → Role} (h : Jn B J D A w O slot ix τ) : J < w.heap.size := cell_lt h.c0

/-- New blocks do not matter. -/
theorem Jn.below {B J D : Nat} {A : Nat → List (Nat × Nat)} {w w' : World} {O : Nat} {slot : Nat → Value} {ix : Value} {τ : Nat → Role} (h : Jn B J D A w O slot ix τ) (hb : Below w.heap.size w w') : Jn B J D A w' O slot ix τ where
  hBJ := h.hBJ
  tJ := h.tJ
  c0 := (hb.cell (p := ⟨J, 0, none⟩) h.J_lt).trans h.c0
  c1 := (hb.cell (p := ⟨J, 1, none⟩) h.J_lt).trans h.c1
  c2 := (hb.cell (p := ⟨J, 2, none⟩) h.J_lt).trans h.c2
  f1 := (hb.frozen (p := ⟨J, 1, none⟩) h.J_lt).trans h.f1
  hBO := h.hBO
  tO := h.tO
  rO := h.rO.of_block (hb.block O h.rO.lt)
  rows := fun d hd => (h.rows d hd).kept (row := none) (grown_of_below hb none) (by cases hv : (slot d).ownBlock <;> simp)
  trow := h.trow
  idx := h.idx.kept (grown_of_below hb none) (fun _ _ => by simp) (fun _ _ _ => by simp)

/-- An append to one device's list, stored. -/
theorem Jn.app {B J D : Nat} {A : Nat → List (Nat × Nat)} {w w1 : World} {O : Nat} {slot : Nat → Value} {ix : Value} {τ : Nat → Role} (h : Jn B J D A w O slot ix τ) (d y i : Nat) (hd : d < D) (v' : Value)
    (hown : w1.ownsRow B 47 2 v' ((A d).length + 1) (cells2 (A d) ++ cells2 [(y, i)])) (hg : w.grownBy w1 (slot d).ownBlock) (hloc : v'.ownBlock = (slot d).ownBlock ∨ ∃ k, v'.ownBlock = some k ∧ w.heap.size ≤ k) :
    ∃ slot' τ', Jn B J D (upd A d (y, i)) (w1.setCell ⟨O, d, none⟩ v') O slot' ix τ' := by
  have hτ : ∀ b, b < w.heap.size → (∀ e, τ b = .r e → e ≠ d) → ¬ v'.ownBlock = some b := by
    intro b hb ht e
    rcases hloc with e' | ⟨k, hk, hle⟩
    · rw [e'] at e
      exact ht d (h.trow d b hd e) rfl
    · rw [hk] at e; cases e; omega
  have hrow : ∀ b, b < w.heap.size → (∀ e, τ b = .r e → e ≠ d) → some b ≠ (slot d).ownBlock := fun b hb ht e => ht d (h.trow d b hd e.symm) rfl
  have hJ := h.J_lt
  have hO := h.rO.lt
  have hJO : J ≠ O := fun e => by have a := h.tJ; rw [e, h.tO] at a; cases a
  have nJ : ∀ e, τ J = .r e → e ≠ d := fun e he => by rw [h.tJ] at he; cases he
  have nO : ∀ e, τ O = .r e → e ≠ d := fun e he => by rw [h.tO] at he; cases he
  have hg2 : w1.grownBy (w1.setCell ⟨O, d, none⟩ v') (some O) :=
    ⟨rfl, rfl, rfl, by simp [World.setCell], fun k hk hne => Below.heap_setCell w1 _ v' k (fun e => hne (by rw [e]))⟩
  have hbJ : (w1.setCell ⟨O, d, none⟩ v').heap[J]? = w.heap[J]? :=
    (hg2.block J (Nat.lt_of_lt_of_le hJ hg.size) (by simp [hJO])).trans (hg.block J hJ (hrow J hJ nJ))
  refine ⟨fun e => if e = d then v' else slot e, fun b => if v'.ownBlock = some b then .r d else τ b, ?_⟩
  refine ⟨h.hBJ, ?_, ?_, ?_, ?_, ?_, h.hBO, ?_, ?_, ?_, ?_, ?_⟩
  · show (if _ then _ else _) = _
    rw [if_neg (hτ J hJ nJ)]; exact h.tJ
  · exact (World.cell?_of_block (w := w) (a := ⟨J, 0, none⟩) hbJ).trans h.c0
  · exact (World.cell?_of_block (w := w) (a := ⟨J, 1, none⟩) hbJ).trans h.c1
  · exact (World.cell?_of_block (w := w) (a := ⟨J, 2, none⟩) hbJ).trans h.c2
  · exact (World.frozen?_of_block (w := w) (a := ⟨J, 1, none⟩) hbJ).trans h.f1
  · show (if _ then _ else _) = _
    rw [if_neg (hτ O hO nO)]; exact h.tO
  · exact (h.rO.of_block (hg.block O hO (hrow O hO nO))).set d v'
  · intro e he
    show World.ownsRow _ B 47 2 (if e = d then v' else slot e) _ _
    by_cases ed : e = d
    · subst ed
      rw [if_pos rfl, upd_same, List.length_append, cells2_append]
      refine hown.kept hg2 (Or.inr ?_)
      intro e'
      exact hτ O hO nO e'
    · rw [if_neg ed, upd_other _ _ _ _ ed]
      cases hv : (slot e).ownBlock with
      | none => exact ((h.rows e he).kept hg (Or.inl hv)).kept hg2 (Or.inl hv)
      | some k =>
        have hk := h.trow e k he hv
        refine ((h.rows e he).kept hg (Or.inr ?_)).kept hg2 (Or.inr ?_)
        · intro e'
          rw [hv] at e'
          have := h.trow d k hd e'.symm
          rw [hk] at this; cases this; exact ed rfl
        · rw [hv]; intro e'; cases e'; rw [h.tO] at hk; cases hk
  · intro e k he hk
    show (if _ then _ else _) = _
    by_cases ed : e = d
    · subst ed
      rw [if_pos (by simpa using hk)]
    · have hk' : (slot e).ownBlock = some k := by simpa [ed] using hk
      have hr := h.trow e k he hk'
      have hlt := ((h.rows e he).lt k hk').2
      rw [if_neg (hτ k hlt (fun e' he' => by rw [hr] at he'; cases he'; exact ed))]
      exact hr
  · have hix := (h.idx.kept (row := (slot d).ownBlock) hg (fun b hb e => by have := h.trow d b hd e.symm; rw [hb] at this; cases this) (fun b e' hb e => by have := h.trow d b hd e.symm; rw [hb] at this; cases this)).kept (row := some O) hg2
      (fun b hb e => by cases e; rw [h.tO] at hb; cases hb) (fun b e' hb e => by cases e; rw [h.tO] at hb; cases hb)
    have hix0 := h.idx
    rcases h.idx with e | ⟨X, cap, mp, e, hB, ht, hD, hr, hmp⟩
    · exact Or.inl e
    · rcases hix with e2 | ⟨X2, cap2, mp2, e2, hB2, ht2, hD2, hr2, hmp2⟩
      · rw [e] at e2; cases e2
      · rw [e] at e2; cases e2
        refine Or.inr ⟨X, cap, mp2, e, hB, ?_, hD, hr2, fun e' he' => ?_⟩
        · show (if _ then _ else _) = _
          rw [if_neg (hτ X hr.lt (fun e' he' => by rw [ht] at he'; cases he'))]; exact ht
        · have hlen : (A e').length ≤ (upd A d (y, i) e').length := by
            unfold upd
            split
            · next h0 => rw [h0, List.length_append]; omega
            · omega
          have htake : ∀ m, m ≤ (A e').length → (upd A d (y, i) e').take m = (A e').take m := by
            intro m hm
            unfold upd
            split
            · next h0 => rw [h0] at hm ⊢; rw [List.take_append_of_le_length hm]
            · rfl
          rcases hmp2 e' he' with e0 | ⟨b, m, e0, hBb, htb, hm, hownm⟩
          · exact Or.inl e0
          · refine Or.inr ⟨b, m, e0, hBb, ?_, by omega, by rw [htake m hm]; exact hownm⟩
            show (if _ then _ else _) = _
            by_cases hc : v'.ownBlock = some b
            · exfalso
              rcases hloc with e'' | ⟨k, hk, hle⟩
              · rw [e''] at hc
                have := h.trow d b hd hc
                rw [htb] at this; cases this
              · rw [hk] at hc; cases hc
                have hmr := hr2.cell (i := e') (by omega)
                rcases hmp e' he' with e1 | ⟨b1, m1, e1, _, _, _, ho1⟩
                · have c2 := hr2.cell (i := e') (by omega)
                  have c1 := (hr.of_block (w' := w1.setCell ⟨O, d, none⟩ v') ((hg2.block X (Nat.lt_of_lt_of_le hr.lt hg.size) (fun e => by cases e; rw [h.tO] at ht; cases ht)).trans (hg.block X hr.lt (fun e => by have := h.trow d X hd e.symm; rw [ht] at this; cases this)))).cell (i := e') (by omega)
                  rw [c1, e1, e0] at c2; cases c2
                · have c2 := hr2.cell (i := e') (by omega)
                  have c1 := (hr.of_block (w' := w1.setCell ⟨O, d, none⟩ v') ((hg2.block X (Nat.lt_of_lt_of_le hr.lt hg.size) (fun e => by cases e; rw [h.tO] at ht; cases ht)).trans (hg.block X hr.lt (fun e => by have := h.trow d X hd e.symm; rw [ht] at this; cases this)))).cell (i := e') (by omega)
                  rw [c1, e1, e0] at c2; cases c2
                  have := ho1.lt; omega
            · rw [if_neg hc]; exact htb
end Go.Proofs.Qxb6600523a.Jp
