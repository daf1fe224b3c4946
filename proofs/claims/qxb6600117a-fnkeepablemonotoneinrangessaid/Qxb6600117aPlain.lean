/- The plain functions of keepable's law: no Go in sight. -/
namespace Go.Proofs.Qxb6600117a.Kp
set_option linter.unusedVariables false

/-- How often v stands in xs. -/
def cnt : List Int → Int → Int
  | [], _ => 0
  | x :: xs, v => (if x = v then 1 else 0) + cnt xs v

theorem cnt_nonneg : ∀ (xs : List Int) (v : Int), 0 ≤ cnt xs v
  | [], _ => Int.le_refl _
  | x :: xs, v => by
    have := cnt_nonneg xs v
    rw [cnt]; split <;> omega
theorem cnt_len : ∀ (xs : List Int) (v : Int), cnt xs v ≤ xs.length
  | [], _ => Int.le_refl _
  | x :: xs, v => by
    have := cnt_len xs v
    rw [cnt, List.length_cons]; split <;> omega
theorem cnt_append : ∀ (xs ys : List Int) (v : Int), cnt (xs ++ ys) v = cnt xs v + cnt ys v
  | [], ys, v => by rw [List.nil_append, cnt]; omega
  | x :: xs, ys, v => by
    rw [List.cons_append, cnt, cnt, cnt_append xs ys v]; omega
theorem cnt_zero : ∀ (xs : List Int) (v : Int), v ∉ xs → cnt xs v = 0
  | [], _, _ => rfl
  | x :: xs, v, h => by
    rw [cnt, if_neg (fun e => h (by rw [e]; exact List.mem_cons_self ..)), cnt_zero xs v (fun h' => h (List.mem_cons_of_mem _ h'))]; rfl

/-- One copy of y less. -/
def dec (c : Int → Int) (y : Int) : Int → Int := fun v => if v = y then c y - 1 else c v

/-- The second loop of keepable. -/
def run (upTo : Int) : (Int → Int) → Int → List Int → Int
  | _, k, [] => k
  | c, k, y :: ys => if k = upTo then k else if 0 < c y then run upTo (dec c y) (k + 1) ys else run upTo c k ys

def keepF (upTo : Int) (A B : List Int) : Int := if B.length < A.length then run upTo (cnt B) 0 A else run upTo (cnt A) 0 B

/-- The sum of f over 0 .. n-1. -/
def S : Nat → (Int → Int) → Int
  | 0, _ => 0
  | n + 1, f => S n f + f n

theorem S_congr : ∀ (n : Nat) (f g : Int → Int), (∀ v : Int, 0 ≤ v → v < n → f v = g v) → S n f = S n g
  | 0, _, _, _ => rfl
  | n + 1, f, g, h => by
    rw [S, S, S_congr n f g (fun v h0 h1 => h v h0 (by omega)), h n (by omega) (by omega)]
theorem S_le : ∀ (n : Nat) (f g : Int → Int), (∀ v : Int, 0 ≤ v → v < n → f v ≤ g v) → S n f ≤ S n g
  | 0, _, _, _ => Int.le_refl _
  | n + 1, f, g, h => by
    have h1 := S_le n f g (fun v h0 h1 => h v h0 (by omega))
    have h2 := h n (by omega) (by omega)
    rw [S, S]; omega
theorem S_nonneg (n : Nat) (f : Int → Int) (h : ∀ v : Int, 0 ≤ v → v < n → 0 ≤ f v) : 0 ≤ S n f := by
  have h0 : S n (fun _ => 0) = 0 := by
    induction n with
    | zero => rfl
    | succ n ih => rw [S, ih (fun v a b => h v a (by omega))]; rfl
  have := S_le n (fun _ => 0) f h
  omega
/-- One place more. -/
theorem S_one : ∀ (n : Nat) (f g : Int → Int) (y : Int), 0 ≤ y → y < n → f y = 1 + g y → (∀ v, v ≠ y → f v = g v) → S n f = 1 + S n g
  | 0, _, _, y, h0, h1, _, _ => by omega
  | n + 1, f, g, y, h0, h1, e, h => by
    rw [S, S]
    by_cases hy : y = n
    · subst hy
      rw [e, S_congr n f g (fun v a b => h v (by omega))]; omega
    · rw [S_one n f g y h0 (by omega) e h, h n (by omega)]; omega

def Rng (N : Nat) (xs : List Int) : Prop := ∀ x ∈ xs, 0 ≤ x ∧ x < N

theorem S_cnt (N : Nat) : ∀ xs : List Int, Rng N xs → S N (cnt xs) = xs.length
  | [], _ => by
    show S N (fun _ => 0) = 0
    induction N with
    | zero => rfl
    | succ n ih => rw [S, ih (fun x hx => by cases hx)]; rfl
  | x :: xs, h => by
    have hx := h x (List.mem_cons_self ..)
    have ih := S_cnt N xs (fun y hy => h y (List.mem_cons_of_mem _ hy))
    rw [S_one N (cnt (x :: xs)) (cnt xs) x hx.1 hx.2 (by rw [cnt, if_pos rfl]) (fun v hv => by rw [cnt, if_neg (fun e => hv e.symm)]; omega), ih, List.length_cons]
    omega

def ov (N : Nat) (c : Int → Int) (ys : List Int) : Int := S N (fun v => min (c v) (cnt ys v))

theorem ov_cons_pos (N : Nat) (c : Int → Int) (y : Int) (ys : List Int) (h0 : 0 ≤ y) (h1 : y < N) (hc : 0 < c y) : ov N c (y :: ys) = 1 + ov N (dec c y) ys := by
  unfold ov
  refine S_one N _ _ y h0 h1 ?_ ?_
  · show min (c y) (cnt (y :: ys) y) = 1 + min (dec c y y) (cnt ys y)
    rw [cnt, if_pos rfl, dec, if_pos rfl]; omega
  · intro v hv
    show min (c v) (cnt (y :: ys) v) = min (dec c y v) (cnt ys v)
    rw [cnt, if_neg (fun e => hv e.symm), dec, if_neg hv]; omega

theorem ov_cons_zero (N : Nat) (c : Int → Int) (y : Int) (ys : List Int) (hc : c y = 0) : ov N c (y :: ys) = ov N c ys := by
  unfold ov
  apply S_congr
  intro v _ _
  show min (c v) (cnt (y :: ys) v) = min (c v) (cnt ys v)
  have := cnt_nonneg ys v
  rw [cnt]
  by_cases e : y = v
  · subst e; rw [if_pos rfl, hc]; omega
  · rw [if_neg e]; omega

def cap (upTo n : Int) : Int := if upTo < 0 then n else min upTo n

theorem run_eq (N : Nat) (upTo : Int) : ∀ (ys : List Int) (c : Int → Int) (k : Int), Rng N ys → (∀ v, 0 ≤ c v) → 0 ≤ k → (upTo < 0 ∨ k ≤ upTo) → run upTo c k ys = cap upTo (k + ov N c ys)
  | [], c, k, _, hc, hk, hu => by
    have h0 : ov N c [] = 0 := by
      unfold ov
      have : S N (fun v => min (c v) (cnt [] v)) = S N (cnt []) := S_congr N _ _ (fun v _ _ => by
        have := hc v
        show min (c v) 0 = 0
        omega)
      rw [this, S_cnt N [] (fun x hx => by cases hx)]; rfl
    rw [run, h0]; unfold cap; split <;> omega
  | y :: ys, c, k, hr, hc, hk, hu => by
    have hy := hr y (List.mem_cons_self ..)
    have hr' : Rng N ys := fun x hx => hr x (List.mem_cons_of_mem _ hx)
    have hnn : 0 ≤ ov N c (y :: ys) := S_nonneg N _ (fun v _ _ => by have := hc v; have := cnt_nonneg (y :: ys) v; show 0 ≤ min _ _; omega)
    rw [run]
    by_cases e : k = upTo
    · rw [if_pos e]; unfold cap; split <;> omega
    · rw [if_neg e]
      by_cases p : 0 < c y
      · rw [if_pos p, run_eq N upTo ys (dec c y) (k + 1) hr' (fun v => by have := hc v; unfold dec; split <;> omega) (by omega) (by omega), ov_cons_pos N c y ys hy.1 hy.2 p, Int.add_assoc]
      · rw [if_neg p, run_eq N upTo ys c k hr' hc hk hu, ov_cons_zero N c y ys (by have := hc y; omega)]

theorem keepF_eq (N : Nat) (upTo : Int) (A B : List Int) (hA : Rng N A) (hB : Rng N B) : keepF upTo A B = cap upTo (ov N (cnt A) B) := by
  have hsym : ov N (cnt B) A = ov N (cnt A) B := S_congr N _ _ (fun v _ _ => by show min _ _ = min _ _; omega)
  unfold keepF
  split
  · rw [run_eq N upTo A (cnt B) 0 hA (cnt_nonneg B) (Int.le_refl _) (by omega), hsym, Int.zero_add]
  · rw [run_eq N upTo B (cnt A) 0 hB (cnt_nonneg A) (Int.le_refl _) (by omega), Int.zero_add]

theorem ov_le_left (N : Nat) (A B : List Int) (hA : Rng N A) : ov N (cnt A) B ≤ A.length := by
  rw [← S_cnt N A hA]
  exact S_le N _ _ (fun v _ _ => by show min _ _ ≤ _; omega)
theorem ov_le_right (N : Nat) (A B : List Int) (hB : Rng N B) : ov N (cnt A) B ≤ B.length := by
  rw [← S_cnt N B hB]
  exact S_le N _ _ (fun v _ _ => by show min _ _ ≤ _; omega)
theorem ov_mono (N : Nat) (A B A2 B2 : List Int) (h1 : ∀ v, cnt A2 v ≤ cnt A v) (h2 : ∀ v, cnt B2 v ≤ cnt B v) : ov N (cnt A2) B2 ≤ ov N (cnt A) B :=
  S_le N _ _ (fun v _ _ => by have := h1 v; have := h2 v; show min _ _ ≤ min _ _; omega)
theorem ov_nonneg (N : Nat) (A B : List Int) : 0 ≤ ov N (cnt A) B := S_nonneg N _ (fun v _ _ => by have := cnt_nonneg A v; have := cnt_nonneg B v; show 0 ≤ min _ _; omega)

/-- What the law says. -/
theorem law (N : Nat) (upTo : Int) (A B A2 B2 : List Int) (hA : Rng N A) (hB : Rng N B) (hA2 : Rng N A2) (hB2 : Rng N B2) (h1 : ∀ v, cnt A2 v ≤ cnt A v) (h2 : ∀ v, cnt B2 v ≤ cnt B v) :
    0 ≤ keepF upTo A2 B2 ∧ keepF upTo A2 B2 ≤ keepF upTo A B ∧ keepF upTo A B ≤ A.length ∧ keepF upTo A B ≤ B.length := by
  rw [keepF_eq N upTo A B hA hB, keepF_eq N upTo A2 B2 hA2 hB2]
  have a := ov_le_left N A B hA
  have b := ov_le_right N A B hB
  have c := ov_mono N A B A2 B2 h1 h2
  have d := ov_nonneg N A2 B2
  unfold cap
  split <;> omega

/-- a[lo:hi]. -/
def sub (xs : List Int) (lo hi : Nat) : List Int := (xs.take hi).drop lo

theorem sub_length (xs : List Int) (lo hi : Nat) (h : hi ≤ xs.length) : (sub xs lo hi).length = hi - lo := by
  unfold sub; rw [List.length_drop, List.length_take]; omega

theorem take_split (xs : List Int) (a b : Nat) (h : a ≤ b) : xs.take b = xs.take a ++ sub xs a b := by
  have t : (xs.take b).take a = xs.take a := by rw [List.take_take]; congr 1; omega
  unfold sub
  rw [← t, List.take_append_drop]
theorem cnt_take (xs : List Int) (a b : Nat) (h : a ≤ b) (v : Int) : cnt (sub xs a b) v = cnt (xs.take b) v - cnt (xs.take a) v := by
  rw [take_split xs a b h, cnt_append]; omega
theorem cnt_take_le (xs : List Int) (a b : Nat) (h : a ≤ b) (v : Int) : cnt (xs.take a) v ≤ cnt (xs.take b) v := by
  have := cnt_take xs a b h v
  have := cnt_nonneg (sub xs a b) v
  omega
theorem cnt_sub (xs : List Int) (lo hi lo2 hi2 : Nat) (h1 : lo ≤ lo2) (h2 : lo2 ≤ hi2) (h3 : hi2 ≤ hi) (v : Int) : cnt (sub xs lo2 hi2) v ≤ cnt (sub xs lo hi) v := by
  rw [cnt_take xs lo2 hi2 h2, cnt_take xs lo hi (by omega)]
  have := cnt_take_le xs lo lo2 h1 v
  have := cnt_take_le xs hi2 hi h3 v
  omega
theorem rng_sub {N : Nat} {xs : List Int} {lo hi lo2 hi2 : Nat} (h : Rng N (sub xs lo hi)) (h1 : lo ≤ lo2) (h3 : hi2 ≤ hi) : Rng N (sub xs lo2 hi2) := fun x hx => by
  apply h
  unfold sub at hx ⊢
  obtain ⟨i, hi', rfl⟩ := List.getElem_of_mem hx
  rw [List.getElem_drop, List.getElem_take]
  rw [List.length_drop, List.length_take] at hi'
  have hk : i + lo2 - lo < ((xs.take hi).drop lo).length := by rw [List.length_drop, List.length_take]; omega
  have e : ((xs.take hi).drop lo)[i + lo2 - lo]'hk = xs[lo2 + i]'(by omega) := by
    rw [List.getElem_drop, List.getElem_take]; congr 1; omega
  rw [← e]; exact List.getElem_mem hk
end Go.Proofs.Qxb6600117a.Kp
