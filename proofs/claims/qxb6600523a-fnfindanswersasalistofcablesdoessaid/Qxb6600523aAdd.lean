import Derived.Test.Qxb6600523aJn
import Derived.BigRegion
import Derived.Deep.DeepCutAuto
import Derived.Deep.CutRange
namespace Go.Proofs.Qxb6600523a.Jp
open Go.ChangeShapes Go.WideShapes Go.RowKit
set_option linter.unusedVariables false

theorem info47 : (Try.prog.info? 47).map (fun i => (i.zero, i.size, i.bytes)) = some (some (.agg #[.int .i64 0, .int .i64 0]), 2, 16) := by kernel_rfl

/-- append of one joint onto a list of the call's own, as a step of a region that draws. -/
theorem step_append_own {ops : Array Oper} {o : Oper} {a : Act} {w : World} {K : Act → World → Prop} {Q : Exit → Act → World → Prop} {E : Prop}
    (hg : o.guard = none) (s x : Operand) (hop : o.op = Op.call { callee := Callee.builtin Builtin.append, args := #[s, x], argTypes := #[45, 45] })
    (B n : Nat) (v : Value) (xs : List Value) (hs : a.eval s = v) (hown : w.ownsRow B 47 2 v n xs) (hn : n ≤ 65536) (hB : B ≤ w.heap.size)
    (ad : Addr) (news : List Value) (hx : a.eval x = .slice (some ad) 1 1) (hl : news.length = 2) (hnews : ∀ j u, news[j]? = some u → w.cell? (ad.add j) = some u) (h1 : ∀ u ∈ news, u.oneCell' = true)
    (hK : ∀ g cap w', w'.ownsRow B 47 2 (.slice (some ⟨g, 0, none⟩) (n + 1) cap) (n + 1) (xs ++ news) → w.grownBy w' v.ownBlock → (some g = v.ownBlock ∨ g = w.heap.size) → K (a.put o.dst (.slice (some ⟨g, 0, none⟩) (n + 1) cap)) w') :
    if Region.wanted o (yielded ops a.tmps) = true then Oper.wp Try.prog o a w K Q else E := by
  have hw : Region.wanted o (yielded ops a.tmps) = true := by simp [Region.wanted, hg]
  rw [if_pos hw]
  obtain ⟨i, hi, hz0, hz1, hz2⟩ := info_parts info47
  obtain ⟨v', w', hrun, r1, r2, r3, r4⟩ := run_append_own_at (P := Try.prog) w B 45 o.type 47 i (.agg #[.int .i64 0, .int .i64 0]) 2 16 Try.underlying45 hi hz0 hz1 hz2 rfl (by decide) v n xs hown ad 1 1 news (by omega) hnews h1 (by unfold maxLen; omega) (by omega) hB
  rcases r1.2 with ⟨rfl, h0⟩ | ⟨g, cap, cur, rfl, hrest⟩
  · omega
  · unfold Oper.wp
    simp [execOp, hop, resolve, invoke, builtin, hs, hx, hrun, Result.andThen]
    refine hK g cap w' r1 r2 ?_
    rcases r4 with e | e
    · exact Or.inl e
    · exact Or.inr (by simpa [Value.ownBlock] using e)

theorem cell_two_new (w : World) (u v : Value) (t : TypeId) (j : Nat) (x : Value) (h : [u, v][j]? = some x) : (w.alloc (.cells #[u, v] t)).cell? ((⟨w.heap.size, 0, none⟩ : Addr).add j) = some x := by
  rw [Addr.add_lit, Nat.zero_add]
  have e : (w.alloc (.cells #[u, v] t)).heap[w.heap.size]? = some (.cells #[u, v] t) := by
    show (w.heap.push _)[w.heap.size]? = _
    simp
  unfold World.cell?
  rw [e]
  have : (#[u, v] : Array Value)[j]? = some x := by rw [← h]; simp
  exact this

theorem size_push_le (w : World) (o : Obj) {B : Nat} (h : B ≤ w.heap.size) : B ≤ (w.alloc o).drew.heap.size := by
  show B ≤ (w.heap.push o).size
  rw [Array.size_push]; omega
theorem lt_push (w : World) (o : Obj) {b : Nat} (h : b < w.heap.size) : b < (w.alloc o).drew.heap.size := by
  show b < (w.heap.push o).size
  rw [Array.size_push]; omega

theorem grown_new {w w1 : World} {o : Obj} {row : Option Nat} (h : (w.alloc o).drew.grownBy w1 row) : w.grownBy w1 row :=
  ⟨h.os, h.tape, h.output, Nat.le_trans (size_push_le w o (Nat.le_refl _)) h.size, fun k hk hne => (h.block k (lt_push w o hk) hne).trans (Below.heap_alloc w o k hk)⟩

theorem Jn.row_ne {B J D : Nat} {A : Nat → List (Nat × Nat)} {w : World} {O : Nat} {slot : Nat → Value} {ix : Value} {τ : Nat → Role} (h : Jn B J D A w O slot ix τ) {d : Nat} (hd : d < D) : some O ≠ (slot d).ownBlock ∧ some J ≠ (slot d).ownBlock :=
  ⟨(fun e => by have := h.trow d O hd e.symm; rw [h.tO] at this; cases this), (fun e => by have := h.trow d J hd e.symm; rw [h.tJ] at this; cases this)⟩

/-- What one line of ZZAddCable leaves. -/
def Added (B J D : Nat) (A : Nat → List (Nat × Nat)) (O : Nat) (ix : Value) (w w' : World) : Prop := (∃ slot τ, Jn B J D A w' O slot ix τ) ∧ Below B w w'

theorem added {B J D : Nat} {A : Nat → List (Nat × Nat)} {w w1 : World} {O : Nat} {slot : Nat → Value} {ix : Value} {τ : Nat → Role} {o : Obj} (h : Jn B J D A w O slot ix τ) (hB : B ≤ w.heap.size) {d y i g cap n : Nat} {v : Value} (hd : d < D) (hv : slot d = v) (hn : n = (A d).length)
    (hown : w1.ownsRow B 47 2 (.slice (some ⟨g, 0, none⟩) (n + 1) cap) (n + 1) (cells2 (A d) ++ [.int .i64 y, .int .i64 i])) (hg : (w.alloc o).drew.grownBy w1 v.ownBlock) (hloc : some g = v.ownBlock ∨ g = (w.alloc o).drew.heap.size) :
    Added B J D (upd A d (y, i)) O ix w (w1.setCell ⟨O, d, none⟩ (.slice (some ⟨g, 0, none⟩) (n + 1) cap)) := by
  subst hv
  subst hn
  have hg' := grown_new hg
  constructor
  · obtain ⟨slot', τ', hJ⟩ := h.app d y i hd _ hown hg' (hloc.elim (fun e => Or.inl e) (fun e => Or.inr ⟨g, rfl, by rw [e]; exact size_push_le w o (Nat.le_refl _)⟩))
    exact ⟨slot', τ', hJ⟩
  · exact ((Below.refl B w).grown hg' hB (fun k hk => ((h.rows d hd).lt k hk).1)).setCell h.hBO _

set_option maxHeartbeats 4000000 in
/-- ZZAddCable. -/
theorem add_calls (B J D : Nat) (A : Nat → List (Nat × Nat)) (w : World) (O : Nat) (slot : Nat → Value) (ix : Value) (τ : Nat → Role) (h : Jn B J D A w O slot ix τ) (hB : B ≤ w.heap.size)
    (x y i : Nat) (hx : x < D) (hy : y < D) (hi : i ≤ 65536) (hlx : (A x).length ≤ 65536) (hly : (A y).length < 65536) (hD : D ≤ 65536) :
    Calls Try.prog 12 #[.pointer (some ⟨J, 0, none⟩), .int .i64 x, .int .i64 y, .int .i64 i] w fun e w' => e = .returned (.tuple #[]) ∧ Added B J D (put A (x, y, i)) O ix w w' := by
  obtain ⟨ao, c, n, hso, hnl⟩ : ∃ ao c n, slot x = .slice ao n c ∧ n = (A x).length := by
    rcases (h.rows x hx).2 with ⟨e, e2⟩ | ⟨g, cap, cur, e, _⟩
    · exact ⟨none, 0, 0, e, e2.symm⟩
    · exact ⟨_, _, _, e, rfl⟩
  have c0 := h.c0
  have cx := h.rO.cell hx
  have fx := h.rO.frozen x
  have hJ := h.J_lt
  have hO := h.rO.lt
  have hsx : w.cell? ⟨O, x, none⟩ = some (.slice ao n c) := by rw [cx, hso]
  have HH : Hid (Jn B J D A w O slot ix τ) := h
  have HSO : Hid (slot x = .slice ao n c) := hso
  have HN : Hid (n = (A x).length) := hnl
  have hlx' : n ≤ 65536 := by omega
  have HLY : Hid ((upd A x (y, i) y).length ≤ 65536) := by
    show _ ≤ _
    unfold upd
    split
    · next e => rw [List.length_append, ← e]; simp; omega
    · omega
  have HOW : Hid (w.ownsRow B 47 2 (.slice ao n c) n (cells2 (A x))) := by have := h.rows x hx; rw [hso, ← hnl] at this; exact this
  have HNE : Hid (some O ≠ (Value.slice ao n c).ownBlock ∧ some J ≠ (Value.slice ao n c).ownBlock) := by have := h.row_ne hx; rw [hso] at this; exact this
  clear h hso cx hnl hlx hly
  go_enter Try.func12, Try.ntmps12
  go_upto_region 0 with fail
  go_cut [25] from 8 to 43 (fun s wx => s = .pointer (some ⟨O, x, none⟩) ∧ Hid (Added B J D (upd A x (y, i)) O ix w wx))
  case first =>
    go_region_law (refine step_append_own rfl (.tmp 19) (.tmp 23) rfl B n (.slice ao n c) (cells2 (A x)) rfl (World.ownsRow.alloc HOW.out _) hlx' (size_push_le _ _ hB) ⟨w.heap.size, 0, none⟩ [.int .i64 y, .int .i64 i] rfl rfl (cell_two_new _ _ _ _) (by simp [Value.oneCell']) ?_; intro g cap w1 hown hgr hloc; have HADD : Hid (Added B J D (upd A x (y, i)) O ix w (w1.setCell ⟨O, x, none⟩ (.slice (some ⟨g, 0, none⟩) (n + 1) cap))) := added HH.out hB hx HSO.out HN.out hown hgr hloc; have hc1 : w1.cell? ⟨J, 0, none⟩ = some (.slice (some ⟨O, 0, none⟩) D D) := ((grown_new hgr).cell c0 HNE.out.2); have hc2 : w1.cell? ⟨O, x, none⟩ = some (.slice ao n c) := ((grown_new hgr).cell hsx HNE.out.1); have hf1 : w1.frozen? ⟨O, x, none⟩ = false := (World.frozen?_of_block (w := w) ((grown_new hgr).block O hO HNE.out.1)).trans fx; clear hown hgr hloc)
    all_goals
      go_wp2_with fail
      go_meet
      case rel => exact ⟨rfl, HADD⟩
  case rest =>
    obtain ⟨rfl, HADD⟩ := hcut
    clear c0 hsx fx HOW HNE HSO HN HH
    rename World => w2
    obtain ⟨⟨slot2, τ2, h2⟩, hbel⟩ := HADD.out
    have hB2 : B ≤ w2.heap.size := Nat.le_trans hB hbel.size
    have HBEL : Hid (Below B w w2) := hbel
    obtain ⟨ao2, c3, n2, hso, hnl⟩ : ∃ ao c n, slot2 y = .slice ao n c ∧ n = (upd A x (y, i) y).length := by
      rcases (h2.rows y hy).2 with ⟨e, e2⟩ | ⟨g, cap, cur, e, _⟩
      · exact ⟨none, 0, 0, e, e2.symm⟩
      · exact ⟨_, _, _, e, rfl⟩
    have c0 := h2.c0
    have cy := h2.rO.cell hy
    have fy := h2.rO.frozen y
    have hJ2 := h2.J_lt
    have hO2 := h2.rO.lt
    have hsy : w2.cell? ⟨O, y, none⟩ = some (.slice ao2 n2 c3) := by rw [cy, hso]
    have hly' : n2 ≤ 65536 := by have := HLY.out; omega
    have HH : Hid (Jn B J D (upd A x (y, i)) w2 O slot2 ix τ2) := h2
    have HSO : Hid (slot2 y = .slice ao2 n2 c3) := hso
    have HN : Hid (n2 = (upd A x (y, i) y).length) := hnl
    have HOW : Hid (w2.ownsRow B 47 2 (.slice ao2 n2 c3) n2 (cells2 (upd A x (y, i) y))) := by have := h2.rows y hy; rw [hso, ← hnl] at this; exact this
    have HNE : Hid (some O ≠ (Value.slice ao2 n2 c3).ownBlock ∧ some J ≠ (Value.slice ao2 n2 c3).ownBlock) := by have := h2.row_ne hy; rw [hso] at this; exact this
    clear h2 hso cy hnl hbel HADD
    go_wp2_with fail
    go_region_law (refine step_append_own rfl (.tmp 37) (.tmp 41) rfl B n2 (.slice ao2 n2 c3) (cells2 (upd A x (y, i) y)) rfl (World.ownsRow.alloc HOW.out _) hly' (size_push_le _ _ hB2) ⟨w2.heap.size, 0, none⟩ [.int .i64 x, .int .i64 i] rfl rfl (cell_two_new _ _ _ _) (by simp [Value.oneCell']) ?_; intro g2 cap2 w3 hown hgr hloc; have HADD : Hid (Added B J D (upd (upd A x (y, i)) y (x, i)) O ix w2 (w3.setCell ⟨O, y, none⟩ (.slice (some ⟨g2, 0, none⟩) (n2 + 1) cap2))) := added HH.out hB2 hy HSO.out HN.out hown hgr hloc; have hc1 : w3.cell? ⟨J, 0, none⟩ = some (.slice (some ⟨O, 0, none⟩) D D) := ((grown_new hgr).cell c0 HNE.out.2); have hc2 : w3.cell? ⟨O, y, none⟩ = some (.slice ao2 n2 c3) := ((grown_new hgr).cell hsy HNE.out.1); have hf1 : w3.frozen? ⟨O, y, none⟩ = false := (World.frozen?_of_block (w := w2) ((grown_new hgr).block O hO2 HNE.out.1)).trans fy; clear hown hgr hloc)
    all_goals
      go_wp2_with fail
      go_end0
      exact ⟨rfl, HADD.out.1, HBEL.out.trans HADD.out.2⟩
end Go.Proofs.Qxb6600523a.Jp
