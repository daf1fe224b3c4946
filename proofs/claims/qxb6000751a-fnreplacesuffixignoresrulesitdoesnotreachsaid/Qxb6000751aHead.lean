import Derived.Test.Qxb6000751aOpen
namespace Go.Proofs.Qxb6000751a.Por
/-! Three of the form's closed facts read the words of the dump's head. Run by the kernel off the head's string as it stands they outgrow the memory (nine long names stand in it): so they are drawn from one fact, the first word behind the harness's, which is read off the string's signs ('String.toList_ofList'). -/

theorem cut_strip (rest : List (List Char)) : stripLifts liftWords ("cut".toList :: rest) = ([], "cut".toList :: rest) := by
  have s : ∀ (o : String) (os : List String), ("cut".toList == o.toList) = false → stripLifts (o :: os) ("cut".toList :: rest) = stripLifts os ("cut".toList :: rest) := fun o os h => by
    rw [stripLifts, h]; rfl
  unfold liftWords
  repeat rw [s _ _ (by decide)]
  rfl

theorem head_cons {α : Type} {l : List α} {a : α} (h : l.head? = some a) : ∃ rest, l = a :: rest := by
  cases l with
  | nil => cases h
  | cons x r => cases h; exact ⟨r, rfl⟩

theorem make_of (P : Program) (h : (behindMainWord (wordsSigns P.initOrder.toList)).head? = some "cut".toList) : P.make = some .cut := by
  obtain ⟨rest, e⟩ := head_cons h
  unfold Program.make
  rw [e]
  simp only []
  rw [if_neg (by decide), if_pos (by rw [beq_self_eq_true]; rfl)]

theorem lifts_of (P : Program) (h : (behindMainWord (wordsSigns P.initOrder.toList)).head? = some "cut".toList) : P.headLifts = [] := by
  obtain ⟨rest, e⟩ := head_cons h
  unfold Program.headLifts
  rw [e, cut_strip]
  show (if (some "cut".toList == some "cut".toList) = true then ([] : List String) else []) = []
  split <;> rfl

theorem final_of (P : Program) (h : (behindMainWord (wordsSigns P.initOrder.toList)).head? = some "cut".toList) : P.liftsFinal = false := by
  unfold Program.liftsFinal
  rw [lifts_of P h]
  simp only []
  rw [h]
  rw [show ((some "cut".toList : Option (List Char)) == some "carried".toList) = false by decide]
  rfl

theorem enter_of (P : Program) (h : (behindMainWord (wordsSigns P.initOrder.toList)).head? = some "cut".toList) (h1 : P.laysLater = false) (h2 : P.bearsReflect = false) (h3 : P.doorFits [] = true) : P.mayEnter = true := by
  obtain ⟨rest, e⟩ := head_cons h
  unfold Program.mayEnter
  rw [e]
  simp only []
  rw [cut_strip, h1, h2, h3]
  simp

set_option maxRecDepth 100000 in
theorem first : (behindMainWord (wordsSigns Try.prog.initOrder.toList)).head? = some "cut".toList := by
  have h : Try.prog.initOrder.toList = _ := String.toList_ofList
  rw [h]
  show _ = _
  kernel_rfl
theorem laysLater : Try.prog.laysLater = false := by kernel_rfl
theorem bearsReflect : Try.prog.bearsReflect = false := by kernel_rfl
theorem doorFits : Try.prog.doorFits [] = true := by kernel_rfl

theorem mayEnter : Try.prog.mayEnter = true := enter_of _ first laysLater bearsReflect doorFits
theorem liftsFinal : Try.prog.liftsFinal = false := final_of _ first
theorem make : Try.prog.make = some .cut := make_of _ first
end Go.Proofs.Qxb6000751a.Por
