import Derived.Test.Qxb6600523aMk
namespace Go.Proofs.Qxb6600523a.Jp
open Go.ChangeShapes Go.WideShapes Go.RowKit
open Go.Maps (Keyed int_keyed keyOf_int_mk)
set_option linter.unusedVariables false

theorem law3 : Keyed Try.prog 3 := int_keyed Try.underlying3
theorem zero3 (w : World) : (zeroValue 3).run Try.prog w = .ok (.int .i64 0) w := by kernel_rfl

/-- The joined pairs with their index there. -/
structure Jx (B J D : Nat) (A : Nat → List (Nat × Nat)) (w : World) (O : Nat) (slot : Nat → Value) (X cap : Nat) (mp : Nat → Value) (τ : Nat → Role) : Prop where
  jn : Jn B J D A w O slot (.slice (some ⟨X, 0, none⟩) D cap) τ
  hBX : B ≤ X
  tX : τ X = .x
  hDc : D ≤ cap
  hr : w.rowIs X 55 cap mp
  hmp : ∀ d, d < D → MapOk B (A d) w (mp d) d τ

def Indexed (B J D : Nat) (A : Nat → List (Nat × Nat)) (O : Nat) (slot : Nat → Value) (w w' : World) : Prop := (∃ X cap mp τ, Jx B J D A w' O slot X cap mp τ) ∧ Below B w w'

theorem jx_of {B J D : Nat} {A : Nat → List (Nat × Nat)} {w : World} {O : Nat} {slot : Nat → Value} {X cap : Nat} {τ : Nat → Role} (h : Jn B J D A w O slot (.slice (some ⟨X, 0, none⟩) D cap) τ) : ∃ X cap mp τ, Jx B J D A w O slot X cap mp τ := by
  rcases h.idx with e | ⟨X2, cap2, mp, e, h1, h2, h3, h4, h5⟩
  · cases e
  · cases e
    exact ⟨X, cap, mp, τ, h, h1, h2, h3, h4, h5⟩

theorem indexed {B J D : Nat} {A : Nat → List (Nat × Nat)} {w w2 : World} {O : Nat} {slot : Nat → Value} {ix : Value} {τ : Nat → Role} {cap : Nat} (h : Jn B J D A w O slot ix τ) (hB : B ≤ w.heap.size) (hD : D ≤ cap)
    (hr : w2.rowIs w.heap.size 55 cap (fun _ => .map none)) (hg : w.grownBy w2 none) :
    Indexed B J D A O slot w (w2.setCell ⟨J, 1, none⟩ (.slice (some ⟨w.heap.size, 0, none⟩) D cap)) := by
  obtain ⟨τ', hj⟩ := h.index hg (Nat.le_refl _) hr hD hB
  exact ⟨jx_of hj, ((below_of_grown hg).mono hB).setCell (p := ⟨J, 1, none⟩) h.hBJ _⟩

/-- make(map[int]int, n). -/
theorem run_makeMap_hint (n : Int) (w : World) : (Instr.makeMap 55 (some (.int .i64 n))).run Try.prog w = .ok (.map (some w.heap.size)) (w.alloc (.map #[] 0)) := by
  simp [Instr.makeMap, run_underlying Try.underlying55, asInt, asIntOf, Result.andThen]

/-- The joined pairs, the map of x there, m of the entries in it. -/
def Jm (B J D : Nat) (A : Nat → List (Nat × Nat)) (w : World) (O : Nat) (slot : Nat → Value) (x b m : Nat) : Prop :=
  ∃ X cap mp τ, Jx B J D A w O slot X cap mp τ ∧ mp x = .map (some b) ∧ B ≤ b ∧ τ b = .m x ∧ m ≤ (A x).length ∧ w.ownsMap Try.prog 3 (plainElem (H := Unit) Try.prog 3) b m (putAll ((A x).take m))

section
variable {B J D : Nat} {A : Nat → List (Nat × Nat)} {w w1 : World} {O : Nat} {slot : Nat → Value} {X cap : Nat} {mp : Nat → Value} {τ : Nat → Role} {x b m : Nat}

theorem Jx.below (h : Jx B J D A w O slot X cap mp τ) (hb : Below w.heap.size w w1) : Jx B J D A w1 O slot X cap mp τ where
  jn := h.jn.below hb
  hBX := h.hBX
  tX := h.tX
  hDc := h.hDc
  hr := h.hr.of_block (hb.block X h.hr.lt)
  hmp := fun d hd => (h.hmp d hd).kept (grown_of_below hb none) (fun _ _ => by simp)

theorem Jm.below (h : Jm B J D A w O slot x b m) (hb : Below w.heap.size w w1) : Jm B J D A w1 O slot x b m := by
  obtain ⟨X, cap, mp, τ, h1, h2, h3, h4, h5, h6⟩ := h
  exact ⟨X, cap, mp, τ, h1.below hb, h2, h3, h4, h5, h6.kept (grown_of_below hb none) (by simp)⟩

theorem Jm.ge (h : Jm B J D A w O slot x b m) : B ≤ b := let ⟨_, _, _, _, _, _, h3, _⟩ := h; h3
theorem Jm.le (h : Jm B J D A w O slot x b m) : m ≤ (A x).length := let ⟨_, _, _, _, _, _, _, _, h5, _⟩ := h; h5
theorem Jm.owns (h : Jm B J D A w O slot x b m) : w.ownsMap Try.prog 3 (plainElem (H := Unit) Try.prog 3) b m (putAll ((A x).take m)) := let ⟨_, _, _, _, _, _, _, _, _, h6⟩ := h; h6
theorem Jm.jn (h : Jm B J D A w O slot x b m) : ∃ ix τ, Jn B J D A w O slot ix τ := let ⟨_, _, _, _, h1, _⟩ := h; ⟨_, _, h1.jn⟩

theorem Jm.len (h : Jm B J D A w O slot x b m) (hd : Dist (A x)) (n : Nat) : (Builtin.len_ #[55] 3 #[.map (some b)]).run Try.prog (w.drewN n) = .ok (.int .i64 m) (w.drewN n) := by
  have ho : (w.drewN n).ownsMap Try.prog 3 (plainElem (H := Unit) Try.prog 3) b m (putAll ((A x).take m)) := h.owns
  rw [ho.len Try.underlying55 3, (putAll_facts (A x) hd m h.le).2.1]

/-- One entry more. -/
theorem Jm.put (h : Jm B J D A w O slot x b m) (hx : x < D) (hm : m < (A x).length) (hg : w.grownBy w1 (some b))
    (hown : w1.ownsMap Try.prog 3 (plainElem (H := Unit) Try.prog 3) b (m + 1) ((putAll ((A x).take m)).put (.int .i64 ((A x).getD m (0, 0)).1) (.lit (.int .i64 ((A x).getD m (0, 0)).2)))) :
    Jm B J D A w1 O slot x b (m + 1) := by
  obtain ⟨X, cap, mp, τ, h1, h2, h3, h4, h5, h6⟩ := h
  have hown' : w1.ownsMap Try.prog 3 (plainElem (H := Unit) Try.prog 3) b (m + 1) (putAll ((A x).take (m + 1))) := by
    rw [take_snoc hm, putAll_snoc]; exact hown
  obtain ⟨k1, k2, k3⟩ := h1.jn.mapPut rfl h1.hBX h1.tX h1.hDc h1.hr h1.hmp hx h2 h3 h4 (m := m + 1) (by omega) hg hown'
  exact ⟨X, cap, mp, τ, ⟨k1, h1.hBX, h1.tX, h1.hDc, k2, k3⟩, h2, h3, h4, by omega, hown'⟩

/-- The map made. -/
theorem Jx.made (h : Jx B J D A w O slot X cap mp τ) (hx : x < D) (hB : B ≤ w.heap.size) :
    Jm B J D A ((w.alloc (.map #[] 0)).setCell ⟨X, x, none⟩ (.map (some w.heap.size))) O slot x w.heap.size 0 := by
  obtain ⟨τ', k1, k2, k3, k4, k5, k6⟩ := h.jn.mapMade rfl h.hBX h.tX h.hDc h.hr h.hmp hx hB
  exact ⟨X, cap, _, τ', ⟨k1, h.hBX, k2, h.hDc, k4, k5⟩, if_pos rfl, hB, k3, Nat.zero_le _, k6⟩
end

theorem size47 (wx : World) : (sizeOf 47).run Try.prog wx = .ok 2 wx := by
  simp [go_sem, sizeOf]
  kernel_rfl

/-- s[m:] of joints. -/
theorem slice_run (g n c m : Nat) (hm : m ≤ n) (hc : n ≤ c) : ∃ (a' : Option Addr) (c' n' : Nat), n' + m = n ∧ (m < n → a' = some ⟨g, m * 2, none⟩) ∧
    ∀ wx : World, (Instr.slice 45 (.slice (some ⟨g, 0, none⟩) n c) (some (.int .i64 m)) none none).run Try.prog wx = .ok (.slice a' n' c') wx := by
  have he : Try.prog.elem 45 = 47 := by kernel_rfl
  refine ⟨if c = m then some ⟨g, 0, none⟩ else some ⟨g, m * 2, none⟩, c - m, n - m, by omega, fun h => if_neg (by omega), fun wx => ?_⟩
  rw [run_slice_l wx 45 (some ⟨g, 0, none⟩) n c (by rw [he]; exact Try.underlying45) .i64 m (by omega) (by omega), he, size47]
  show Result.ok (sliced _ ((m : Int).toNat) n c 2) wx = _
  rw [Int.toNat_natCast, sliced]
  show Result.ok (Value.slice (if c = m then _ else some (Addr.add ⟨g, 0, none⟩ (m * 2))) (n - m) (c - m)) wx = _
  rw [Addr.add_lit, Nat.zero_add]

theorem wf_i64 {n : Nat} (h : n ≤ 65536) : (Lit.int .i64 (n : Int)).wf = true := by
  simp [Lit.wf, IntKind.min, IntKind.max, IntKind.bits, IntKind.signed]
  omega
end Go.Proofs.Qxb6600523a.Jp
