import Derived.Test.Qxb6600523aPlain
/- The script of steps: which cables are laid, what is valid: no Go in sight. -/
namespace Go.Proofs.Qxb6600523a.Jp
set_option linter.unusedVariables false

/-- The same two devices. -/
def Pair (a b x y : Int) : Prop := (a = x ∧ b = y) ∨ (a = y ∧ b = x)

/-- The steps below k are such as the law wants. -/
def Valid (D : Nat) (xs ys : Nat → Int) (bs : Nat → Bool) (k : Nat) : Prop :=
  ∀ i, i < k → 0 ≤ xs i ∧ 0 ≤ ys i ∧ (bs i = true → xs i < D ∧ ys i < D ∧ xs i ≠ ys i ∧ ∀ e, e < i → bs e = true → ¬ Pair (xs e) (ys e) (xs i) (ys i))

theorem valid_zero (D : Nat) (xs ys : Nat → Int) (bs : Nat → Bool) : Valid D xs ys bs 0 := fun i h => absurd h (Nat.not_lt_zero i)

theorem valid_step {D : Nat} {xs ys : Nat → Int} {bs : Nat → Bool} {k : Nat} (h : Valid D xs ys bs k) (hx : 0 ≤ xs k) (hy : 0 ≤ ys k)
    (hb : bs k = true → xs k < D ∧ ys k < D ∧ xs k ≠ ys k ∧ ∀ e, e < k → bs e = true → ¬ Pair (xs e) (ys e) (xs k) (ys k)) : Valid D xs ys bs (k + 1) := by
  intro i hi
  by_cases e : i = k
  · subst e; exact ⟨hx, hy, hb⟩
  · exact h i (by omega)

/-- The cables that the first k steps lay. -/
def cabs (xs ys : Nat → Int) (bs : Nat → Bool) : Nat → List Cab
  | 0 => []
  | k + 1 => if bs k = true then cabs xs ys bs k ++ [((xs k).toNat, (ys k).toNat, k)] else cabs xs ys bs k

theorem cabs_mem {xs ys : Nat → Int} {bs : Nat → Bool} : ∀ {k : Nat} {c : Cab}, c ∈ cabs xs ys bs k → ∃ e, e < k ∧ bs e = true ∧ c = ((xs e).toNat, (ys e).toNat, e)
  | 0, c, h => by cases h
  | k + 1, c, h => by
    unfold cabs at h
    split at h
    · next hb =>
      rcases List.mem_append.1 h with h | h
      · obtain ⟨e, he, r⟩ := cabs_mem h
        exact ⟨e, by omega, r⟩
      · exact ⟨k, by omega, hb, List.mem_singleton.1 h⟩
    · obtain ⟨e, he, r⟩ := cabs_mem h
      exact ⟨e, by omega, r⟩

theorem cabs_len (xs ys : Nat → Int) (bs : Nat → Bool) : ∀ k, (cabs xs ys bs k).length ≤ k
  | 0 => Nat.le_refl _
  | k + 1 => by
    have := cabs_len xs ys bs k
    unfold cabs
    split
    · rw [List.length_append, List.length_singleton]; omega
    · omega

theorem cabs_good {D : Nat} {xs ys : Nat → Int} {bs : Nat → Bool} {n : Nat} (hv : Valid D xs ys bs n) : ∀ k, k ≤ n → Good (cabs xs ys bs k)
  | 0, _ => Good.nil
  | k + 1, hk => by
    have ih := cabs_good hv k (by omega)
    unfold cabs
    split
    · next hb =>
      obtain ⟨h1, h2, h3⟩ := hv k (by omega)
      obtain ⟨h4, h5, h6, h7⟩ := h3 hb
      refine Good.snoc ih ?_ ?_
      · show (xs k).toNat ≠ (ys k).toNat
        omega
      · intro b hb' hs
        obtain ⟨e, he, hbe, rfl⟩ := cabs_mem hb'
        obtain ⟨g1, g2, _⟩ := hv e (by omega)
        refine h7 e he hbe ?_
        have hs' : ((xs e).toNat = (xs k).toNat ∧ (ys e).toNat = (ys k).toNat) ∨ ((xs e).toNat = (ys k).toNat ∧ (ys e).toNat = (xs k).toNat) := hs
        unfold Pair
        omega
    · exact ih

theorem cabs_in {D : Nat} {xs ys : Nat → Int} {bs : Nat → Bool} {n : Nat} (hv : Valid D xs ys bs n) {k : Nat} (hk : k ≤ n) (hn : n ≤ 65536) : ∀ c ∈ cabs xs ys bs k, c.1 < D ∧ c.2.1 < D ∧ c.2.2 ≤ 65536 := by
  intro c hc
  obtain ⟨e, he, hb, rfl⟩ := cabs_mem hc
  obtain ⟨h1, h2, h3⟩ := hv e (by omega)
  obtain ⟨h4, h5, _⟩ := h3 hb
  refine ⟨?_, ?_, ?_⟩
  · show (xs e).toNat < D
    omega
  · show (ys e).toNat < D
    omega
  · show e ≤ 65536
    omega

/-- One step of the list's own search. -/
theorem scan_add {xs ys : Nat → Int} {bs : Nat → Bool} {e x y : Nat} (hx : 0 ≤ xs e) (hy : 0 ≤ ys e) (hb : bs e = true) (hp : Pair (xs e) (ys e) x y) : scan (cabs xs ys bs (e + 1)) x y = some e := by
  rw [cabs, if_pos hb, scan_snoc, if_pos]
  unfold Pair at hp
  show ((xs e).toNat = x ∧ (ys e).toNat = y) ∨ ((xs e).toNat = y ∧ (ys e).toNat = x)
  omega
theorem scan_not {xs ys : Nat → Int} {bs : Nat → Bool} {e x y : Nat} (hx : 0 ≤ xs e) (hy : 0 ≤ ys e) (hp : ¬ Pair (xs e) (ys e) x y) : scan (cabs xs ys bs (e + 1)) x y = scan (cabs xs ys bs e) x y := by
  rw [cabs]
  split
  · rw [scan_snoc, if_neg]
    unfold Pair at hp
    show ¬ (((xs e).toNat = x ∧ (ys e).toNat = y) ∨ ((xs e).toNat = y ∧ (ys e).toNat = x))
    omega
  · rfl
theorem scan_skip {xs ys : Nat → Int} {bs : Nat → Bool} {e x y : Nat} (hb : bs e = false) : scan (cabs xs ys bs (e + 1)) x y = scan (cabs xs ys bs e) x y := by
  rw [cabs, if_neg (by rw [hb]; exact Bool.false_ne_true)]
theorem adj_add {xs ys : Nat → Int} {bs : Nat → Bool} {k : Nat} (hb : bs k = true) : adj (cabs xs ys bs (k + 1)) = put (adj (cabs xs ys bs k)) ((xs k).toNat, (ys k).toNat, k) := by
  rw [cabs, if_pos hb, adj_snoc]
theorem adj_skip {xs ys : Nat → Int} {bs : Nat → Bool} {k : Nat} (hb : bs k = false) : adj (cabs xs ys bs (k + 1)) = adj (cabs xs ys bs k) := by
  rw [cabs, if_neg (by rw [hb]; exact Bool.false_ne_true)]
end Go.Proofs.Qxb6600523a.Jp
