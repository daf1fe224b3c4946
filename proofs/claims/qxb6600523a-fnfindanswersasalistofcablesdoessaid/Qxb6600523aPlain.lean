/- Cables and what a search for one answers: no Go in sight. -/
namespace Go.Proofs.Qxb6600523a.Jp
set_option linter.unusedVariables false

/-- The first entry at device t. -/
def look : List (Nat × Nat) → Nat → Option Nat
  | [], _ => none
  | p :: l, t => if p.1 = t then some p.2 else look l t

theorem look_append (l m : List (Nat × Nat)) (t : Nat) : look (l ++ m) t = (look l t).orElse (fun _ => look m t) := by
  induction l with
  | nil => rfl
  | cons p l ih =>
    rw [List.cons_append, look, look]
    split
    · rfl
    · exact ih

theorem look_none {l : List (Nat × Nat)} {t : Nat} (h : look l t = none) : ∀ p ∈ l, p.1 ≠ t := by
  induction l with
  | nil => intro p hp; cases hp
  | cons q l ih =>
    rw [look] at h
    split at h
    · cases h
    · next hq =>
      intro p hp
      rcases List.mem_cons.1 hp with e | e
      · rw [e]; exact hq
      · exact ih h p e

/-- A cable: its two devices, its number. -/
abbrev Cab := Nat × Nat × Nat

def same (c : Cab) (x y : Nat) : Prop := (c.1 = x ∧ c.2.1 = y) ∨ (c.1 = y ∧ c.2.1 = x)
instance (c : Cab) (x y : Nat) : Decidable (same c x y) := by unfold same; infer_instance

/-- Per device: the devices at the other ends and the cables' numbers. -/
def upd (A : Nat → List (Nat × Nat)) (d : Nat) (p : Nat × Nat) : Nat → List (Nat × Nat) := fun e => if e = d then A d ++ [p] else A e

theorem upd_same (A : Nat → List (Nat × Nat)) (d : Nat) (p : Nat × Nat) : upd A d p d = A d ++ [p] := if_pos rfl
theorem upd_other (A : Nat → List (Nat × Nat)) (d e : Nat) (p : Nat × Nat) (h : e ≠ d) : upd A d p e = A e := if_neg h

def put (A : Nat → List (Nat × Nat)) (c : Cab) : Nat → List (Nat × Nat) := upd (upd A c.1 (c.2.1, c.2.2)) c.2.1 (c.1, c.2.2)

def adj (cs : List Cab) : Nat → List (Nat × Nat) := cs.foldl put (fun _ => [])

theorem adj_snoc (cs : List Cab) (c : Cab) : adj (cs ++ [c]) = put (adj cs) c := by unfold adj; rw [List.foldl_append]; rfl

/-- The last cable that joins x and y. -/
def scan (cs : List Cab) (x y : Nat) : Option Nat := cs.foldl (fun o c => if same c x y then some c.2.2 else o) none
theorem scan_snoc (cs : List Cab) (c : Cab) (x y : Nat) : scan (cs ++ [c]) x y = if same c x y then some c.2.2 else scan cs x y := by unfold scan; rw [List.foldl_append]; rfl

/-- What holds of the cables so far: two ends that differ, no pair twice. -/
inductive Good : List Cab → Prop
  | nil : Good []
  | snoc {cs : List Cab} {c : Cab} : Good cs → c.1 ≠ c.2.1 → (∀ b ∈ cs, ¬ same b c.1 c.2.1) → Good (cs ++ [c])

theorem scan_none {cs : List Cab} {x y : Nat} (hg : Good cs) (h : ∀ b ∈ cs, ¬ same b x y) : scan cs x y = none := by
  induction hg with
  | nil => rfl
  | @snoc cs c hg hc hn ih =>
    rw [scan_snoc, if_neg (h c (List.mem_append_right _ (List.mem_singleton.2 rfl)))]
    exact ih (fun b hb => h b (List.mem_append_left _ hb))

theorem same_comm {c : Cab} {x y : Nat} : same c x y ↔ same c y x := by unfold same; omega
theorem scan_comm (cs : List Cab) (x y : Nat) : scan cs x y = scan cs y x := by
  unfold scan
  congr 1
  funext o c
  by_cases h : same c x y
  · rw [if_pos h, if_pos (same_comm.1 h)]
  · rw [if_neg h, if_neg (fun h' => h (same_comm.1 h'))]

theorem look_adj {cs : List Cab} (hg : Good cs) (x y : Nat) : look (adj cs x) y = scan cs x y := by
  induction hg with
  | nil => rfl
  | @snoc cs c hg hc hn ih =>
    obtain ⟨p, q, i⟩ := c
    have hc' : p ≠ q := hc
    rw [adj_snoc, scan_snoc]
    show look (upd (upd (adj cs) p (q, i)) q (p, i) x) y = _
    by_cases hs : same (p, q, i) x y
    · rw [if_pos hs]
      have h0 : scan cs x y = none := scan_none hg (fun b hb hb' => hn b hb (by
        have e : same (p, q, i) x y := hs
        unfold same at e hb' ⊢
        simp only at e ⊢
        omega))
      have e : (p = x ∧ q = y) ∨ (p = y ∧ q = x) := hs
      rcases e with ⟨rfl, rfl⟩ | ⟨rfl, rfl⟩
      · rw [upd_other _ _ _ _ hc', upd_same, look_append, ih, h0]
        show look [(q, i)] q = _
        rw [look, if_pos rfl]
      · rw [upd_same, upd_other _ _ _ _ (fun h => hc' h.symm), look_append, ih, h0]
        show look [(p, i)] p = _
        rw [look, if_pos rfl]
    · rw [if_neg hs, ← ih]
      have e : ¬ ((p = x ∧ q = y) ∨ (p = y ∧ q = x)) := hs
      by_cases hx : x = q
      · subst hx
        rw [upd_same, upd_other _ _ _ _ (fun h => hc' h.symm), look_append]
        have : look [(p, i)] y = none := by rw [look, if_neg (by show ¬ p = y; omega)]; rfl
        rw [this]; cases look (adj cs x) y <;> rfl
      · rw [upd_other _ _ _ _ hx]
        by_cases hp : x = p
        · subst hp
          rw [upd_same, look_append]
          have : look [(q, i)] y = none := by rw [look, if_neg (by show ¬ q = y; omega)]; rfl
          rw [this]; cases look (adj cs x) y <;> rfl
        · rw [upd_other _ _ _ _ hp]

/-- No device twice in a list. -/
def Dist (l : List (Nat × Nat)) : Prop := l.Pairwise (fun p q => p.1 ≠ q.1)

theorem dist_snoc {l : List (Nat × Nat)} {p : Nat × Nat} (h : Dist l) (hn : look l p.1 = none) : Dist (l ++ [p]) := by
  unfold Dist at *
  rw [List.pairwise_append]
  refine ⟨h, List.pairwise_singleton _ _, fun a ha b hb => ?_⟩
  rw [List.mem_singleton.1 hb]
  exact look_none hn a ha

theorem dist_adj {cs : List Cab} (hg : Good cs) (d : Nat) : Dist (adj cs d) := by
  induction hg with
  | nil => exact List.Pairwise.nil
  | @snoc cs c hg hc hn ih =>
    obtain ⟨p, q, i⟩ := c
    have hc' : p ≠ q := hc
    have h1 : look (adj cs p) q = none := by rw [look_adj hg]; exact scan_none hg hn
    have h2 : look (adj cs q) p = none := by rw [look_adj hg, scan_comm]; exact scan_none hg hn
    rw [adj_snoc]
    show Dist (upd (upd (adj cs) p (q, i)) q (p, i) d)
    by_cases hx : d = q
    · subst hx
      rw [upd_same, upd_other _ _ _ _ (fun h => hc' h.symm)]
      exact dist_snoc ih h2
    · rw [upd_other _ _ _ _ hx]
      by_cases hp : d = p
      · subst hp
        rw [upd_same]
        exact dist_snoc ih h1
      · rw [upd_other _ _ _ _ hp]
        exact ih

theorem dist_take {l : List (Nat × Nat)} (h : Dist l) {m : Nat} (hm : m < l.length) : look (l.take m) (l.getD m (0, 0)).1 = none := by
  have hs : l.take (m + 1) = l.take m ++ [l.getD m (0, 0)] := by
    rw [List.take_succ_eq_append_getElem hm, List.getD_eq_getElem?_getD, List.getElem?_eq_getElem hm]; rfl
  have h' : Dist (l.take (m + 1)) := h.sublist (List.take_sublist _ _)
  rw [hs] at h'
  have h2 := (List.pairwise_append.1 h').2.2
  have key : ∀ (k : List (Nat × Nat)) (t : Nat), (∀ p ∈ k, p.1 ≠ t) → look k t = none := by
    intro k t
    induction k with
    | nil => intro _; rfl
    | cons q k ih =>
      intro hk
      rw [look, if_neg (hk q (List.mem_cons_self ..))]
      exact ih (fun p hp => hk p (List.mem_cons_of_mem _ hp))
  exact key _ _ (fun p hp => h2 p hp _ (List.mem_singleton.2 rfl))

/-- Each list's entries at one device: at most one. -/
theorem adj_len (cs : List Cab) (d : Nat) : (adj cs d).length ≤ 2 * cs.length := by
  have key : ∀ (cs : List Cab) (A : Nat → List (Nat × Nat)) (k : Nat), (∀ d, (A d).length ≤ 2 * k) → ∀ d, (cs.foldl put A d).length ≤ 2 * (k + cs.length) := by
    intro cs
    induction cs with
    | nil => intro A k h d; exact h d
    | cons c cs ih =>
      intro A k h d
      rw [List.foldl_cons, List.length_cons]
      have := ih (put A c) (k + 1) (fun e => by
        have hu : ∀ (A : Nat → List (Nat × Nat)) (m : Nat), (∀ d, (A d).length ≤ m) → ∀ d p e, (upd A d p e).length ≤ m + 1 := by
          intro A m h d p e
          unfold upd
          split
          · rw [List.length_append]; have := h d; simp; omega
          · have := h e; omega
        have := hu _ _ (hu A (2 * k) h c.1 (c.2.1, c.2.2)) c.2.1 (c.1, c.2.2) e
        show (upd _ _ _ e).length ≤ _
        omega) d
      omega
  have := key cs (fun _ => []) 0 (fun _ => by simp) d
  unfold adj; omega
end Go.Proofs.Qxb6600523a.Jp
