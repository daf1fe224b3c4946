import Derived.Test.Qxb6600523aIdx
namespace Go.Proofs.Qxb6600523a.Jp
open Go.ChangeShapes Go.WideShapes Go.RowKit
set_option linter.unusedVariables false

theorem putAll_snoc (l : List (Nat × Nat)) (p : Nat × Nat) : putAll (l ++ [p]) = (putAll l).put (.int .i64 p.1) (.lit (.int .i64 p.2)) := by unfold putAll; rw [List.foldl_append]; rfl

theorem take_snoc {l : List (Nat × Nat)} {m : Nat} (hm : m < l.length) : l.take (m + 1) = l.take m ++ [l.getD m (0, 0)] := by
  rw [List.take_succ_eq_append_getElem hm, List.getD_eq_getElem?_getD, List.getElem?_eq_getElem hm]; rfl

theorem keyLit (a : Int) : WideAt.IsKeyLit (.int .i64 a) := trivial

theorem putAll_facts (l : List (Nat × Nat)) (hd : Dist l) : ∀ m, m ≤ l.length → Maps.Tidy (putAll (l.take m)) ∧ Maps.size (putAll (l.take m)) = m ∧
    ∀ t : Nat, Maps.has (putAll (l.take m)) (.int .i64 t) = (look (l.take m) t).isSome ∧ (putAll (l.take m)).atKey (.int .i64 t) (.lit (.int .i64 0)) = .lit (.int .i64 (((look (l.take m) t).getD 0 : Nat) : Int)) := by
  intro m
  induction m with
  | zero =>
    intro _
    exact ⟨Maps.tidy_empty, rfl, fun t => ⟨rfl, rfl⟩⟩
  | succ m ih =>
    intro hm
    obtain ⟨h1, h2, h3⟩ := ih (by omega)
    have hn := dist_take hd (m := m) (by omega)
    rw [take_snoc (by omega), putAll_snoc]
    refine ⟨h1.put (keyLit _) _, ?_, fun t => ?_⟩
    · rw [Maps.size_put h1, (h3 _).1, hn, h2]; rfl
    · rw [look_append]
      by_cases e : (l.getD m (0, 0)).1 = t
      · have e2 : look (l.take m) t = none := by rw [← e]; exact hn
        have e3 : look [l.getD m (0, 0)] t = some (l.getD m (0, 0)).2 := by rw [look, if_pos e]
        rw [e2]
        show _ = (look [l.getD m (0, 0)] t).isSome ∧ _ = DataW.lit (.int .i64 (((look [l.getD m (0, 0)] t).getD 0 : Nat) : Int))
        rw [e3, e]
        exact ⟨Maps.has_put_same h1.isMap (keyLit _) _, Maps.atKey_put_same h1.isMap (keyLit _) _ _⟩
      · have e3 : look [l.getD m (0, 0)] t = none := by rw [look, if_neg e]; rfl
        have hne : (Lit.int .i64 (t : Int)) ≠ .int .i64 ((l.getD m (0, 0)).1 : Int) := by intro h; injection h with _ h; omega
        have e4 : (look (l.take m) t).orElse (fun _ => look [l.getD m (0, 0)] t) = look (l.take m) t := by rw [e3]; cases look (l.take m) t <;> rfl
        rw [e4, Maps.has_put_other hne, Maps.atKey_put_other hne]
        exact h3 t
end Go.Proofs.Qxb6600523a.Jp
