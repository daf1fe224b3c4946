import Derived.Test.Qxb6000751aProg
import Derived.WalkKit
import Derived.WalkSpells
import Derived.Deep.Upon
import Derived.Deep.RegionLaw
import Derived.Deep.Draws
namespace Go.Proofs.Qxb6000751a.Por
open Go.ChangeShapes Go.WideShapes Go.RowKit
set_option linter.unusedVariables false

/-- All that was there, but for the blocks X, is as it was. -/
structure Frm (X : Nat → Prop) (w w' : World) : Prop where
  os : w'.os = w.os
  tape : w'.tape = w.tape
  output : w'.output = w.output
  size : w.heap.size ≤ w'.heap.size
  block : ∀ k, k < w.heap.size → ¬ X k → w'.heap[k]? = w.heap[k]?

theorem Frm.refl (X : Nat → Prop) (w : World) : Frm X w w := ⟨rfl, rfl, rfl, Nat.le_refl _, fun _ _ _ => rfl⟩
theorem Frm.andThen {X Y : Nat → Prop} {x y z : World} (h : Frm X x y) (k : Frm Y y z) (hXY : ∀ i, i < x.heap.size → Y i → X i) : Frm X x z :=
  ⟨k.os.trans h.os, k.tape.trans h.tape, k.output.trans h.output, Nat.le_trans h.size k.size, fun i hi hne => (k.block i (Nat.lt_of_lt_of_le hi h.size) (fun hy => hne (hXY i hi hy))).trans (h.block i hi hne)⟩
theorem Frm.trans {X : Nat → Prop} {x y z : World} (h : Frm X x y) (k : Frm X y z) : Frm X x z := h.andThen k (fun _ _ h => h)
theorem Frm.of_below {X : Nat → Prop} {w w' : World} (h : Below w.heap.size w w') : Frm X w w' := ⟨h.os, h.tape, h.output, h.size, fun k hk _ => h.block k hk⟩
theorem Frm.below_then {X : Nat → Prop} {B : Nat} {x y z : World} (h : Frm X x y) (k : Below B y z) (hB : x.heap.size ≤ B) : Frm X x z :=
  ⟨k.os.trans h.os, k.tape.trans h.tape, k.output.trans h.output, Nat.le_trans h.size k.size, fun i hi hne => (k.block i (Nat.lt_of_lt_of_le hi hB)).trans (h.block i hi hne)⟩
theorem Frm.drewN {X : Nat → Prop} {x y : World} (h : Frm X x y) (n : Nat) : Frm X x (y.drewN n) := ⟨h.os, h.tape, h.output, h.size, h.block⟩
theorem Frm.drew {X : Nat → Prop} {x y : World} (h : Frm X x y) : Frm X x y.drew := ⟨h.os, h.tape, h.output, h.size, h.block⟩
theorem Frm.alloc {X : Nat → Prop} {x y : World} (h : Frm X x y) (o : Obj) : Frm X x (y.alloc o) :=
  h.trans (Frm.of_below ((Below.refl _ _).alloc (Nat.le_refl _) o))
theorem Frm.setCell {X : Nat → Prop} {x y : World} (h : Frm X x y) {p : Addr} (hp : X p.block ∨ x.heap.size ≤ p.block) (v : Value) : Frm X x (y.setCell p v) :=
  ⟨h.os, h.tape, h.output, by simpa [World.setCell] using h.size, fun i hi hne => (Below.heap_setCell y p v i (fun e' => hp.elim (fun e => hne (e' ▸ e)) (fun e => by omega))).trans (h.block i hi hne)⟩
theorem Frm.cell {X : Nat → Prop} {w w' : World} (h : Frm X w w') {p : Addr} (hp : p.block < w.heap.size) (hne : ¬ X p.block) : w'.cell? p = w.cell? p := World.cell?_of_block (w := w) (h.block p.block hp hne)
theorem Frm.frozen {X : Nat → Prop} {w w' : World} (h : Frm X w w') {p : Addr} (hp : p.block < w.heap.size) (hne : ¬ X p.block) : w'.frozen? p = w.frozen? p := World.frozen?_of_block (w := w) (h.block p.block hp hne)
theorem Frm.to_below {X : Nat → Prop} {B : Nat} {w w' : World} (h : Frm X w w') (hB : B ≤ w.heap.size) (hX : ∀ k, k < B → ¬ X k) : Below B w w' :=
  ⟨h.os, h.tape, h.output, h.size, fun k hk => h.block k (by omega) (hX k hk)⟩

/-- The bytes of a string, as numbers. -/
def nums (s : ByteArray) : List Int := s.data.toList.map fun b => (b.toNat : Int)
theorem nums_length (s : ByteArray) : (nums s).length = s.size := by
  unfold nums
  rw [List.length_map, Array.length_toList]
  rfl
theorem byteCells_nums (s : ByteArray) : byteCells s = (nums s).map (Value.int .u8) := by
  unfold byteCells nums
  rw [List.map_map]
  rfl

/-- Block g holds the word bs from its head on. -/
structure Row (w : World) (g n : Nat) (bs : List Int) : Prop where
  len : n = bs.length
  lt : g < w.heap.size
  at' : ∀ i, i < n → w.cell? ⟨g, i, none⟩ = some (.int .u8 (bs.getD i 0))

theorem Row.frm {X : Nat → Prop} {w w' : World} {g n : Nat} {bs : List Int} (h : Row w g n bs) (f : Frm X w w') (hg : ¬ X g) : Row w' g n bs :=
  ⟨h.len, Nat.lt_of_lt_of_le h.lt f.size, fun i hi => (f.cell (p := ⟨g, i, none⟩) h.lt hg).trans (h.at' i hi)⟩
theorem Row.below {B : Nat} {w w' : World} {g n : Nat} {bs : List Int} (h : Row w g n bs) (f : Below B w w') (hg : g < B) : Row w' g n bs :=
  ⟨h.len, Nat.lt_of_lt_of_le h.lt f.size, fun i hi => (f.cell (p := ⟨g, i, none⟩) hg).trans (h.at' i hi)⟩

/-- The world behind an append of a string's bytes onto the first n cells of the row at block b, which has cap cells. -/
structure Grew (w w1 : World) (b g n : Nat) (olds : List Value) (s : ByteArray) : Prop where
  frm : Frm (fun k => k = b) w w1
  where' : g = b ∨ g = w.heap.size
  lt : g < w1.heap.size
  at' : ∀ i v, (olds ++ byteCells s)[i]? = some v → w1.cell? ⟨g, i, none⟩ = some v

theorem info5 : (Try.prog.info? 5).map (fun i => (i.zero, i.size, i.bytes)) = some (some (.int .u8 0), 1, 1) := by kernel_rfl

theorem tape_setCells (b : Nat) : ∀ (vs : List Value) (o : Nat) (w : World), (w.setCells b o vs).tape = w.tape
  | [], _, _ => rfl
  | v :: r, o, w => tape_setCells b r (o + 1) (w.setCell ⟨b, o, none⟩ v)
theorem size_setCells (b : Nat) : ∀ (vs : List Value) (o : Nat) (w : World), (w.setCells b o vs).heap.size = w.heap.size
  | [], _, _ => rfl
  | v :: r, o, w => (size_setCells b r (o + 1) (w.setCell ⟨b, o, none⟩ v)).trans (by simp [World.setCell])

theorem step_append_str {ops : Array Oper} {o : Oper} {a : Act} {w : World} {K : Act → World → Prop} {Q : Exit → Act → World → Prop} {E : Prop}
    (hg : o.guard = none) (s x : Operand) (hop : o.op = Op.call { callee := Callee.builtin Builtin.append, args := #[s, x], argTypes := #[22, 9] })
    (b n cap : Nat) (hs : a.eval s = .slice (some ⟨b, 0, none⟩) n cap) (str : ByteArray) (hx : a.eval x = .string str)
    (olds : List Value) (hlo : olds.length = n) (holds : ∀ j u, olds[j]? = some u → w.cell? ⟨b, j, none⟩ = some u) (hb : b < w.heap.size)
    (hspare : ∀ j, j < cap → (w.cell? ⟨b, j, none⟩).isSome = true ∧ w.frozen? ⟨b, j, none⟩ = false)
    (hbig : n + str.size ≤ 4194304)
    (hK : ∀ g cap1 w1, Grew w w1 b g n olds str → K (a.put o.dst (.slice (some ⟨g, 0, none⟩) (n + str.size) cap1)) w1) :
    if Region.wanted o (yielded ops a.tmps) = true then Oper.wp Try.prog o a w K Q else E := by
  have hw : Region.wanted o (yielded ops a.tmps) = true := by simp [Region.wanted, hg]
  rw [if_pos hw]
  obtain ⟨i, hi, hz0, hz1, hz2⟩ := info_parts info5
  have hsrc : Src Try.prog i.size 9 (.string str) str.size (byteCells str) w := by rw [hz1]; exact Src.ofString w Try.underlying9 str
  by_cases hroom : n + str.size ≤ cap
  · have hrun := run_append_room_src (P := Try.prog) w 22 9 o.type 5 i Try.underlying22 hi b 0 n cap (.string str) str.size (byteCells str) hsrc hroom
      (fun j hj => by rw [byteCells_length] at hj; rw [hz1]; exact (hspare _ (by omega)).1) (fun j hj => by rw [byteCells_length] at hj; rw [hz1]; exact (hspare _ (by omega)).2)
    rw [show 0 + n * i.size = n by rw [hz1]; omega] at hrun
    unfold Oper.wp
    simp [execOp, hop, resolve, invoke, builtin, hs, hx, hrun, Result.andThen]
    refine hK b cap _ ⟨⟨World.os_setCells _ _ _ _, tape_setCells _ _ _ _, World.output_setCells _ _ _ _, Nat.le_of_eq (size_setCells _ _ _ _).symm, fun k hk hne => World.heap_setCells_other _ _ _ _ hk hne⟩, Or.inl rfl, by rw [size_setCells]; exact hb, ?_⟩
    intro j v hj
    by_cases hjn : j < n
    · rw [World.cell?_setCells_out b _ n w ⟨b, j, none⟩ (fun _ _ => Or.inl hjn)]
      rw [List.getElem?_append_left (by omega)] at hj
      exact holds j v hj
    · rw [List.getElem?_append_right (by omega), hlo] at hj
      obtain ⟨hlt, hv⟩ := List.getElem?_eq_some_iff.1 hj
      have hl := byteCells_length str
      have := World.cell?_setCells_in b (byteCells str) n w (fun q hq => (hspare _ (by omega)).1) (j - n) hlt
      rw [show n + (j - n) = j by omega] at this
      rw [this, hv]
  · have hold : (Builtin.firstCells i.size n (.slice (some ⟨b, 0, none⟩) n cap)).run Try.prog w.drew = .ok olds.toArray w.drew :=
      run_firstCells_some w.drew i.size n ⟨b, 0, none⟩ n cap olds (by rw [hz1, hlo]; omega) (fun j v hj => by
        have := holds j v hj
        rw [Addr.add_lit, Nat.zero_add]
        simpa using this)
    have hrun := run_append_grow_src (P := Try.prog) w 22 9 o.type 5 i (.int .u8 0) Try.underlying22 hi hz0 (some ⟨b, 0, none⟩) n cap olds hold (.string str) str.size (byteCells str) hsrc (by omega) (by omega)
      (growslice_fits (by omega) (by rw [hz2]; omega))
    unfold Oper.wp
    simp [execOp, hop, resolve, invoke, builtin, hs, hx, hrun, Result.andThen]
    refine hK w.heap.size _ _ ⟨((Frm.refl _ w).drew).alloc _, Or.inr rfl, ?_, ?_⟩
    · have := World.size_alloc w.drew (.cells ((olds ++ byteCells str).toArray ++ Builtin.zeroCells (Value.int .u8 0).cells (grownCap w (n + str.size) cap 5 - (n + str.size))) 5)
      simp at this ⊢
    · intro j v hj
      rw [World.cell?_alloc_at (w := w.drew) _ 5 w.heap.size j rfl]
      obtain ⟨hlt, hv⟩ := List.getElem?_eq_some_iff.1 hj
      rw [Array.getElem?_append_left (by simpa using hlt)]
      simpa using hj
end Go.Proofs.Qxb6000751a.Por
