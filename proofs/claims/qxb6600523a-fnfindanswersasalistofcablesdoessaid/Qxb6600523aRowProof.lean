/- The row of FnFindAnswersAsAListOfCablesDoes. -/
import Derived.Test.Qxb6600523aLaw
import Derived.Test.Qxb6600523aRows
import Derived.WalkKit
import Derived.ProofKit
import Derived.OpenShut
import Derived.ShutString
import Derived.ChangeOld
import Derived.Deep.Grids
import Derived.Below
namespace Go.Proofs.Qxb6600523a.fnFind
open Go.ChangeShapes Go.WideShapes Go.ChangeAt Go.RowKit
set_option linter.unusedVariables false

theorem own : ownKnob Try.prog.godebug = none := by kernel_rfl
theorem laidOut : laidOutB Try.prog = true := by kernel_rfl

/-- What the walk is told of a slice of integers that came in. -/
def IsRow (w : World) (a : Option Addr) (len cap : Nat) (zs : List Int) : Prop :=
  (a = none ∧ len = 0 ∧ cap = 0 ∧ zs = []) ∨
  ∃ x, a = some x ∧ len ≤ cap ∧ cap ≤ maxLen ∧ zs.length = cap ∧ (∀ i, i < zs.length → w.cell? (x.add i) = some (.int .i64 (zs.getD i 0))) ∧ ∀ n ∈ zs, (Lit.int .i64 n).wf = true

theorem isRow_nil {w : World} {a : Option Addr} {len cap : Nat} {zs : List Int} (h : IsRow w a len cap zs) : a = none → len = 0 ∧ cap = 0 := by
  rcases h with ⟨_, h1, h2, _⟩ | ⟨x, rfl, _⟩
  · exact fun _ => ⟨h1, h2⟩
  · intro e; cases e
theorem isRow_lies {w : World} {a : Option Addr} {len cap : Nat} {zs : List Int} (h : IsRow w a len cap zs) : Jp.Lies w a len (Jp.ints (fun i => zs.getD i 0)) := by
  rcases h with ⟨rfl, rfl, _, rfl⟩ | ⟨x, rfl, hl, _, hz, hc, _⟩
  · exact Or.inl rfl
  · by_cases e : len = 0
    · exact Or.inl e
    · refine Or.inr ⟨x, rfl, ?_, fun i hi => hc i (by omega)⟩
      have := Jp.cell_lt (hc 0 (by omega))
      rwa [Jp.block_add] at this
theorem isRow_top {w : World} {a : Option Addr} {len cap : Nat} {zs : List Int} (h : IsRow w a len cap zs) : ∀ i, i < len → zs.getD i 0 ≤ 9223372036854775807 := by
  intro i hi
  rcases h with ⟨rfl, rfl, _, rfl⟩ | ⟨x, rfl, hl, _, hz, hc, hw⟩
  · omega
  · rw [List.getD_eq_getElem?_getD, List.getElem?_eq_getElem (by omega)]
    have := hw _ (List.getElem_mem (show i < zs.length by omega))
    simp only [Lit.wf, IntKind.min, IntKind.max, IntKind.signed, IntKind.bits, Bool.and_eq_true, decide_eq_true_eq, if_true] at this
    show zs[i] ≤ _
    omega

/-- What the walk is told of a slice of bools that came in. -/
def IsBools (w : World) (a : Option Addr) (len cap : Nat) (bs : Nat → Bool) : Prop :=
  (a = none ∧ len = 0 ∧ cap = 0) ∨ ∃ x, a = some x ∧ len ≤ cap ∧ ∀ i, i < cap → w.cell? (x.add i) = some (.bool (bs i))
theorem isBools_nil {w : World} {a : Option Addr} {len cap : Nat} {bs : Nat → Bool} (h : IsBools w a len cap bs) : a = none → len = 0 ∧ cap = 0 := by
  rcases h with ⟨_, h1, h2⟩ | ⟨x, rfl, _⟩
  · exact fun _ => ⟨h1, h2⟩
  · intro e; cases e
theorem isBools_lies {w : World} {a : Option Addr} {len cap : Nat} {bs : Nat → Bool} (h : IsBools w a len cap bs) : Jp.Lies w a len (Jp.bools bs) := by
  rcases h with ⟨rfl, rfl, _⟩ | ⟨x, rfl, hl, hc⟩
  · exact Or.inl rfl
  · by_cases e : len = 0
    · exact Or.inl e
    · refine Or.inr ⟨x, rfl, ?_, fun i hi => hc i (by omega)⟩
      have := Jp.cell_lt (hc 0 (by omega))
      rwa [Jp.block_add] at this

theorem walk (a0 : Int) (a1 : Option Addr) (len1 cap1 : Nat) (z1 : List Int) (a2 : Option Addr) (len2 cap2 : Nat) (z2 : List Int) (a3 : Option Addr) (len3 cap3 : Nat) (z3 : Nat → Bool) (w : World) (w1 : IsRow w a1 len1 cap1 z1) (w2 : IsRow w a2 len2 cap2 z2) (w3 : IsBools w a3 len3 cap3 z3) :
    Calls Try.prog 3 #[.int .i64 a0, .slice a1 len1 cap1, .slice a2 len2 cap2, .slice a3 len3 cap3] w fun e w' => e = .returned (.bool true) ∧ Below w.heap.size w w' :=
  Jp.law3_calls a0 a1 a2 a3 len1 cap1 len2 cap2 len3 cap3 (fun i => z1.getD i 0) (fun i => z2.getD i 0) z3 w (isRow_lies w1) (isRow_lies w2) (isBools_lies w3) (isRow_nil w1) (isRow_nil w2) (isBools_nil w3) (isRow_top w1) (isRow_top w2)

set_option maxRecDepth 100000 in
theorem lifted (os : Os) (started : os.Started) (H : Type) (enc : TypeId × Value → H) :
    ReturnsInHanded {} Try.checked os 3 .any (Rows.fnFindAnswersAsAListOfCablesDoesSpec.pre6 enc Try.prog Try.f3 Rows.fnFindAnswersAsAListOfCablesDoesRow.domain false) (Rows.fnFindAnswersAsAListOfCablesDoesSpec.post enc Try.prog Try.f3 false true false false) := by
  refine returnsInHanded_of_change (C := Try.checked) own started (by kernel_rfl) Try.func3
    (ChangeSpec.witness6 (enc := enc) (C := Try.checked) false ⟨#[], #[.int .i64 0, .slice none 0 0, .slice none 0 0, .slice none 0 0], []⟩ 8 (by kernel_rfl) (by kernel_rfl) (by kernel_rfl) (by kernel_rfl)) ?_
  intro W base args ds gs before hval0 hW hcnd _
  have hval : ∀ (j : Nat) t v, Try.f3.params[j]? = some t → args[j]? = some v → Value.okWide Try.prog W .any base t v := hval0
  have hW' := hW
  obtain ⟨p, q, hA0, hV, rfl, hfz, hnd⟩ := hW
  have hA : DataW.TrodAll enc Try.prog W 0 (fun _ => true) true Try.f3.params.toList args.toList ds p := hA0
  rw [Try.params3] at hA hval
  obtain ⟨v0, vs0, d0, ds0, p0, q0, hargs, rfl, rfl, h0, r0⟩ := trodAll_cons hA
  obtain ⟨v1, vs1, d1, ds1, p1, q1, rfl, rfl, rfl, h1, r1⟩ := trodAll_cons r0
  obtain ⟨v2, vs2, d2, ds2, p2, q2, rfl, rfl, rfl, h2, r2⟩ := trodAll_cons r1
  obtain ⟨v3, vs3, d3, ds3, p3, q3, rfl, rfl, rfl, h3, r3⟩ := trodAll_cons r2
  obtain ⟨rfl, rfl, rfl⟩ := trodAll_nil r3
  obtain rfl : args = #[v0, v1, v2, v3] := by cases args; simp_all
  obtain ⟨rfl, rfl⟩ := trodVars_none hV
  obtain ⟨a0, rfl, rfl, rfl, w0⟩ := open_int Try.underlying3 (hval 0 3 v0 rfl rfl) h0
  obtain ⟨a1, len1, cap1, rfl⟩ := okWide_slice Try.underlying22 (hval 1 22 v1 rfl rfl)
  have k1 := h1
  have lt1 : ∀ x ∈ p1, x.block < W.heap.size := by obtain ⟨m, hm⟩ := k1; exact DataW.trod_lt m _ _ _ hm
  obtain ⟨z1, w1⟩ : ∃ zs, IsRow W a1 len1 cap1 zs := by
    obtain ⟨fuel, hf⟩ := h1
    rcases open_ints Try.underlying22 Try.underlying3 (by kernel_rfl) hf with ⟨hcs, _⟩ | ⟨x, l, c, zs, hcs, _, hl, hm, hz, _, hcell, hwz⟩
    · simp [Value.cells] at hcs
      obtain ⟨rfl, rfl, rfl⟩ := hcs
      exact ⟨[], .inl ⟨rfl, rfl, rfl, rfl⟩⟩
    · simp [Value.cells] at hcs
      obtain ⟨rfl, rfl, rfl⟩ := hcs
      exact ⟨zs, .inr ⟨_, rfl, hl, hm, by simpa using hz, hcell, hwz⟩⟩
  obtain ⟨a2, len2, cap2, rfl⟩ := okWide_slice Try.underlying22 (hval 2 22 v2 rfl rfl)
  have k2 := h2
  have lt2 : ∀ x ∈ p2, x.block < W.heap.size := by obtain ⟨m, hm⟩ := k2; exact DataW.trod_lt m _ _ _ hm
  obtain ⟨z2, w2⟩ : ∃ zs, IsRow W a2 len2 cap2 zs := by
    obtain ⟨fuel, hf⟩ := h2
    rcases open_ints Try.underlying22 Try.underlying3 (by kernel_rfl) hf with ⟨hcs, _⟩ | ⟨x, l, c, zs, hcs, _, hl, hm, hz, _, hcell, hwz⟩
    · simp [Value.cells] at hcs
      obtain ⟨rfl, rfl, rfl⟩ := hcs
      exact ⟨[], .inl ⟨rfl, rfl, rfl, rfl⟩⟩
    · simp [Value.cells] at hcs
      obtain ⟨rfl, rfl, rfl⟩ := hcs
      exact ⟨zs, .inr ⟨_, rfl, hl, hm, by simpa using hz, hcell, hwz⟩⟩
  obtain ⟨a3, len3, cap3, rfl⟩ := okWide_slice Try.underlying23 (hval 3 23 v3 rfl rfl)
  have k3 := h3
  have lt3 : ∀ x ∈ p3, x.block < W.heap.size := by obtain ⟨m, hm⟩ := k3; exact DataW.trod_lt m _ _ _ hm
  obtain ⟨z3, w3⟩ : ∃ bs, IsBools W a3 len3 cap3 bs := by
    obtain ⟨fuel, hf⟩ := h3
    rcases Go.Deep.open_bools Try.underlying23 Try.underlying4 (by kernel_rfl) hf with ⟨hcs, _⟩ | ⟨x, l, c, bs, hcs, _, hl, hm, _, hcell⟩
    · simp [Value.cells] at hcs
      obtain ⟨rfl, rfl, rfl⟩ := hcs
      exact ⟨fun _ => false, .inl ⟨rfl, rfl, rfl⟩⟩
    · simp [Value.cells] at hcs
      obtain ⟨rfl, rfl, rfl⟩ := hcs
      exact ⟨bs, .inr ⟨_, rfl, hl, hcell⟩⟩
  clear hA0 hval0
  refine (walk a0 a1 len1 cap1 z1 a2 len2 cap2 z2 a3 len3 cap3 z3 W w1 w2 w3).mono fun e W' ⟨he, bel⟩ => ?_
  subst he
  exact ⟨_, rfl, _, _, _, [], _, [], hW', trodAll_mk1 (shut_bool Try.underlying4 _), (trodAll_cons_mk (shut_int Try.underlying3 w0) (trodAll_cons_mk (Below.trod laidOut (by kernel_rfl) (of_decide_eq_true (by kernel_rfl)) k1 bel lt1) (trodAll_cons_mk (Below.trod laidOut (by kernel_rfl) (of_decide_eq_true (by kernel_rfl)) k2 bel lt2) (trodAll_cons_mk (Below.trod laidOut (by kernel_rfl) (of_decide_eq_true (by kernel_rfl)) k3 bel lt3) trodAll_mk0)))), rfl, bel.frame _, fun h => by cases h⟩

theorem over : Rows.fnFindAnswersAsAListOfCablesDoesRow.holds Try.pinned (OpenSpec.ofChange Rows.fnFindAnswersAsAListOfCablesDoesSpec) :=
  OpenClaim.holds_of_wide 3 Try.f3 rfl rfl rfl rfl rfl rfl rfl ⟨rfl, rfl, rfl, rfl, rfl⟩ rfl rfl rfl rfl rfl (by kernel_rfl) Try.func3 (by kernel_rfl)
    (of_decide_eq_true (by kernel_rfl)) (by unfold Func.isWrapper; first | (rw [if_pos (by decide +kernel)]; kernel_rfl) | (rw [if_neg (by decide +kernel)]; exact ⟨rfl, rfl⟩))
    (fun os started H enc _ => lifted os started H enc)

/-- The statement. -/
theorem proved : Rows.FnFindAnswersAsAListOfCablesDoesSaid := over
end Go.Proofs.Qxb6600523a.fnFind
