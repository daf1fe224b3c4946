import Derived.Test.Qxb6000751aBase
import Derived.Test.Qxb6000751aEnds
namespace Go.Proofs.Qxb6000751a.Por
open Go.ChangeShapes Go.WideShapes Go.RowKit
set_option linter.unusedVariables false

/-- The call of (*stemmer).stemLen as one step of a region that draws. -/
theorem step_stemLen {ops : Array Oper} {o : Oper} {a : Act} {w : World} {K : Act → World → Prop} {Q : Exit → Act → World → Prop} {E : Prop}
    (hg : o.guard = none) (s x : Operand) (hop : o.op = Op.call { callee := Callee.value (Operand.func 39), args := #[s, x], argTypes := #[39, 9] })
    (S b o' n c : Nat) (bs : List Int) (t : ByteArray) (hs : a.eval s = .pointer (some ⟨S, 0, none⟩)) (hx : a.eval x = .string t)
    (h : Stem w S b o' n c bs) (ht : t.size ≤ 1048576)
    (hK : K (a.put o.dst (.int .i64 ((n : Int) - (t.size : Int)))) w) :
    if Region.wanted o (yielded ops a.tmps) = true then Oper.wp Try.prog o a w K Q else E := by
  have hw : Region.wanted o (yielded ops a.tmps) = true := by simp [Region.wanted, hg]
  rw [if_pos hw]
  have hrun : (execOp a.eval o).run Try.prog w = .ok (.enter 39 #[.pointer (some ⟨S, 0, none⟩), .string t]) w := by
    have hf : a.eval (.func 39) = .func (.func 39) #[] #[] := rfl
    generalize a.eval = ev at hs hx hf ⊢
    simp [execOp, hop, hs, hx, hf, go_sem]
  unfold Oper.wp
  rw [hrun, Oper.upon_enter]
  refine (stemLen_calls S b o' n c bs t w h ht).mono ?_
  rintro e w' ⟨rfl, rfl⟩
  exact hK

theorem stem_same {w w' : World} {S b o n c : Nat} {bs : List Int} (h : Stem w S b o n c bs) (hw : w'.heap = w.heap) : Stem w' S b o n c bs := by
  have e : ∀ p, w'.cell? p = w.cell? p := fun p => by unfold World.cell?; rw [hw]
  exact ⟨(e _).trans h.cell, h.len, h.small, fun i hi => (e _).trans (h.at' i hi)⟩

theorem set_end {w w1 : World} {S b g k cap1 : Nat} {bs : List Int} {new : ByteArray} {olds : List Value} {u : Value} (hgr : Grew w.drew w1 b g k olds new) (ho : olds = (bs.take k).map (Value.int .u8)) (hol : olds.length = k)
    (hS : S < w.heap.size) (hSb : S ≠ b) (hc1 : w1.cell? ⟨S, 0, none⟩ = some u) :
    (∃ g1 cap2, (w1.setCell ⟨S, 0, none⟩ (.slice (some ⟨g, 0, none⟩) (k + new.size) cap1)).cell? ⟨S, 0, none⟩ = some (.slice (some ⟨g1, 0, none⟩) (k + new.size) cap2) ∧
      Row (w1.setCell ⟨S, 0, none⟩ (.slice (some ⟨g, 0, none⟩) (k + new.size) cap1)) g1 (k + new.size) (bs.take k ++ nums new)) ∧
      Frm (fun i => i = b ∨ i = S) w (w1.setCell ⟨S, 0, none⟩ (.slice (some ⟨g, 0, none⟩) (k + new.size) cap1)) := by
  have hgS : S ≠ g := by
    rcases hgr.where' with e | e
    · rw [e]; exact hSb
    · have e' : g = w.heap.size := e
      omega
  have hlk : (bs.take k).length = k := by have e := hol; rw [ho, List.length_map] at e; exact e
  have hs1 : (w1.setCell ⟨S, 0, none⟩ (.slice (some ⟨g, 0, none⟩) (k + new.size) cap1)).heap.size = w1.heap.size := by simp [World.setCell]
  refine ⟨⟨g, cap1, ?_, ?_, ?_, ?_⟩, ?_⟩
  · exact World.cell?_setCell_same (h := hc1) ..
  · rw [List.length_append, nums_length, hlk]
  · rw [hs1]; exact hgr.lt
  · intro i hi
    rw [show (w1.setCell ⟨S, 0, none⟩ (.slice (some ⟨g, 0, none⟩) (k + new.size) cap1)).cell? ⟨g, i, none⟩ = w1.cell? ⟨g, i, none⟩ from World.cell?_setCell_other (h := fun e => hgS (congrArg Addr.block e)) ..]
    apply hgr.at' i
    rw [byteCells_nums, ho, ← List.map_append, List.getElem?_map, List.getD_eq_getElem?_getD]
    have hlt : i < (bs.take k ++ nums new).length := by rw [List.length_append, nums_length, hlk]; exact hi
    rw [List.getElem?_eq_getElem hlt]
    rfl
  · have f0 : Frm (fun i => i = b ∨ i = S) w w1 := ⟨hgr.frm.os, hgr.frm.tape, hgr.frm.output, hgr.frm.size, fun i hi hne => hgr.frm.block i hi (fun e => hne (Or.inl e))⟩
    exact f0.setCell (Or.inl (Or.inr rfl)) _

set_option maxHeartbeats 1000000 in
theorem set_calls (S b n c : Nat) (bs : List Int) (old new : ByteArray) (w : World) (h : Stem w S b 0 n c bs) (hSb : S ≠ b) (hS : S < w.heap.size) (hb : b < w.heap.size) (hnc : n ≤ c)
    (hfS : w.frozen? ⟨S, 0, none⟩ = false) (hspare : ∀ j, j < c → (w.cell? ⟨b, j, none⟩).isSome = true ∧ w.frozen? ⟨b, j, none⟩ = false)
    (hold : old.size ≤ n) (hnew : new.size ≤ 1048576) :
    Calls Try.prog 38 #[.pointer (some ⟨S, 0, none⟩), .string old, .string new] w fun e w' => e = .returned (.tuple #[]) ∧
      (∃ g cap1, w'.cell? ⟨S, 0, none⟩ = some (.slice (some ⟨g, 0, none⟩) (n - old.size + new.size) cap1) ∧ Row w' g (n - old.size + new.size) (bs.take (n - old.size) ++ nums new)) ∧
      Frm (fun k => k = b ∨ k = S) w w' := by
  have hc := h.cell
  have hn := h.small
  have hk0 : (0 : Int) ≤ (n : Int) - (old.size : Int) := by omega
  have hk1 : (n : Int) - (old.size : Int) ≤ (c : Int) := by omega
  obtain ⟨olds, ho⟩ : ∃ olds, olds = (bs.take (n - old.size)).map (Value.int .u8) := ⟨_, rfl⟩
  have hol : olds.length = n - old.size := by rw [ho, List.length_map, List.length_take, ← h.len]; omega
  have hOL : Hid (olds.length = n - old.size) := hol
  have hoc : ∀ j u, olds[j]? = some u → w.cell? ⟨b, j, none⟩ = some u := by
    intro j u hj
    obtain ⟨hlt, _⟩ := List.getElem?_eq_some_iff.1 hj
    have hjn : j < n - old.size := by omega
    have h1 := h.at' j (by omega)
    rw [Nat.zero_add] at h1
    rw [h1]
    rw [ho, List.getElem?_map, List.getElem?_take_of_lt hjn] at hj
    rw [List.getD_eq_getElem?_getD]
    cases e : bs[j]? with
    | none => rw [e] at hj; simp at hj
    | some x => rw [e] at hj; simpa using hj
  have hOC : Hid (∀ j u, olds[j]? = some u → w.cell? ⟨b, j, none⟩ = some u) := hoc
  have HO : Hid (olds = (bs.take (n - old.size)).map (Value.int .u8)) := ho
  have HSP : Hid (∀ j, j < c → (w.cell? ⟨b, j, none⟩).isSome = true ∧ w.frozen? ⟨b, j, none⟩ = false) := hspare
  have HH : Hid (Stem w S b 0 n c bs) := h
  clear h ho hol hoc hspare
  go_enter Try.func38, Try.ntmps38
  go_wp2_with fail
  go_region_law (first
    | (refine step_stemLen rfl (.tmp 11) (.tmp 12) rfl S b 0 n c bs old rfl rfl (stem_same HH.out rfl) (by omega) ?_)
    | (refine step_append_str rfl (.tmp 14) (.tmp 15) rfl b (n - old.size) c rfl new rfl olds hOL.out hOC.out hb HSP.out (by omega) ?_; intro g cap1 w1 hgr; have hGR : Hid (Grew _ w1 b g (n - old.size) olds new) := hgr; have hc1 : w1.cell? ⟨S, 0, none⟩ = some (.slice (some ⟨b, 0, none⟩) n c) := (hgr.frm.cell (p := ⟨S, 0, none⟩) hS hSb).trans hc; have hf1 : w1.frozen? ⟨S, 0, none⟩ = false := (hgr.frm.frozen (p := ⟨S, 0, none⟩) hS hSb).trans hfS; clear hgr))
  all_goals
    go_wp2_with fail
    go_end0
    exact ⟨rfl, set_end hGR.out HO.out hOL.out hS hSb hc1⟩
end Go.Proofs.Qxb6000751a.Por
