/-
  PLAIN MATHEMATICS, no Go in sight: the Levenshtein distance of prefixes, by its table.
-/
namespace Go.Proofs.Qxb6619364a.Lev

/-- One row of the table out of the row above it. -/
def step (p : Nat → Nat) (i : Nat) (x : Int) (t : Nat → Int) : Nat → Nat
  | 0 => i + 1
  | j + 1 => min (min (p (j + 1) + 1) (step p i x t j + 1)) (p j + if x = t j then 0 else 1)

/-- The distance from the first i of s to the first j of t. -/
def lev (s t : Nat → Int) : Nat → Nat → Nat
  | 0 => fun j => j
  | i + 1 => step (lev s t i) i (s i) t

theorem lev_zero (s t : Nat → Int) (j : Nat) : lev s t 0 j = j := rfl
theorem lev_left (s t : Nat → Int) (i : Nat) : lev s t i 0 = i := by cases i <;> rfl
theorem lev_succ (s t : Nat → Int) (i j : Nat) :
    lev s t (i + 1) (j + 1) = min (min (lev s t i (j + 1) + 1) (lev s t (i + 1) j + 1)) (lev s t i j + if s i = t j then 0 else 1) := rfl

theorem up_i (s t : Nat → Int) (i j : Nat) : lev s t (i + 1) j ≤ lev s t i j + 1 := by
  cases j with
  | zero => simp [lev_left]
  | succ j => rw [lev_succ]; omega
theorem up_j (s t : Nat → Int) (i j : Nat) : lev s t i (j + 1) ≤ lev s t i j + 1 := by
  cases i with
  | zero => simp [lev_zero]
  | succ i => rw [lev_succ]; omega
theorem dn_i (s t : Nat → Int) (i : Nat) : ∀ j, lev s t i j ≤ lev s t (i + 1) j + 1
  | 0 => by simp [lev_left]; omega
  | j + 1 => by
    have a := dn_i s t i j
    have b := up_j s t i j
    rw [lev_succ]
    split <;> omega
theorem dn_j (s t : Nat → Int) (j : Nat) : ∀ i, lev s t i j ≤ lev s t i (j + 1) + 1
  | 0 => by simp [lev_zero]; omega
  | i + 1 => by
    have a := dn_j s t j i
    have b := up_i s t i j
    rw [lev_succ]
    split <;> omega
theorem diag_lo (s t : Nat → Int) (i j : Nat) : lev s t i j ≤ lev s t (i + 1) (j + 1) := by
  have a := dn_j s t j i
  have b := dn_i s t i j
  rw [lev_succ]
  split <;> omega
theorem diag_hi (s t : Nat → Int) (i j : Nat) : lev s t (i + 1) (j + 1) ≤ lev s t i j + 1 := by
  rw [lev_succ]
  split <;> omega
theorem diag_eq (s t : Nat → Int) (i j : Nat) (h : s i = t j) : lev s t (i + 1) (j + 1) = lev s t i j := by
  have a := diag_lo s t i j
  have b : lev s t (i + 1) (j + 1) ≤ lev s t i j := by
    rw [lev_succ, if_pos h]; omega
  omega
theorem diag_ne (s t : Nat → Int) (i j : Nat) (h : ¬ s i = t j) :
    lev s t (i + 1) (j + 1) = min (min (lev s t i (j + 1)) (lev s t (i + 1) j)) (lev s t i j) + 1 := by
  rw [lev_succ, if_neg h]; omega

/-- Along a diagonal the distance never goes down. -/
theorem diag_mono (s t : Nat → Int) (i j : Nat) : ∀ d, lev s t i j ≤ lev s t (i + d) (j + d)
  | 0 => Nat.le_refl _
  | d + 1 => Nat.le_trans (diag_mono s t i j d) (diag_lo s t (i + d) (j + d))
theorem le_max (s t : Nat → Int) : ∀ i j, lev s t i j ≤ max i j
  | 0, j => by simp [lev_zero]
  | i + 1, 0 => by simp [lev_left]
  | i + 1, j + 1 => by
    have := le_max s t i j
    have := diag_hi s t i j
    omega

/-! ### a common end, a common beginning -/
theorem suffix (s t : Nat → Int) (i j : Nat) : ∀ q, (∀ k, k < q → s (i + k) = t (j + k)) → lev s t (i + q) (j + q) = lev s t i j
  | 0, _ => rfl
  | q + 1, h => by
    rw [← Nat.add_assoc, ← Nat.add_assoc, diag_eq s t (i + q) (j + q) (h q (by omega))]
    exact suffix s t i j q fun k hk => h k (by omega)

theorem first_row (s t : Nat → Int) (h : s 0 = t 0) : ∀ j, lev s t 1 (j + 1) = j
  | 0 => by rw [diag_eq s t 0 0 h]; rfl
  | j + 1 => by
    have a := first_row s t h j
    have b := up_j s t 1 (j + 1)
    have c := diag_lo s t 0 (j + 1)
    rw [lev_zero] at c
    simp only [Nat.zero_add] at c
    omega
theorem first_col (s t : Nat → Int) (h : s 0 = t 0) : ∀ i, lev s t (i + 1) 1 = i
  | 0 => by rw [diag_eq s t 0 0 h]; rfl
  | i + 1 => by
    have a := first_col s t h i
    have b := up_i s t (i + 1) 1
    have c := diag_lo s t (i + 1) 0
    rw [lev_left] at c
    simp only [Nat.zero_add] at c
    omega
theorem head_eq (s t : Nat → Int) (h : s 0 = t 0) : ∀ i j, lev s t (i + 1) (j + 1) = lev (fun k => s (k + 1)) (fun k => t (k + 1)) i j
  | 0, j => by rw [lev_zero]; exact first_row s t h j
  | i + 1, 0 => by rw [lev_left]; exact first_col s t h (i + 1)
  | i + 1, j + 1 => by
    rw [lev_succ s t (i + 1) (j + 1), lev_succ (fun k => s (k + 1)), head_eq s t h i (j + 1), head_eq s t h (i + 1) j, head_eq s t h i j]
theorem pre : ∀ (p : Nat) (s t : Nat → Int), (∀ k, k < p → s k = t k) → ∀ i j, lev s t (i + p) (j + p) = lev (fun k => s (k + p)) (fun k => t (k + p)) i j
  | 0, _, _, _, _, _ => rfl
  | p + 1, s, t, h, i, j => by
    rw [← Nat.add_assoc, ← Nat.add_assoc, head_eq s t (h 0 (by omega)), pre p _ _ (fun k hk => h (k + 1) (by omega))]
    rfl

/-- Only the first i of s and the first j of t are looked at. -/
theorem step_congr (p q : Nat → Nat) (i : Nat) (x : Int) (t u : Nat → Int) : ∀ j, (∀ k, k ≤ j → p k = q k) → (∀ k, k < j → t k = u k) → step p i x t j = step q i x u j
  | 0, _, _ => rfl
  | j + 1, hp, ht => by
    simp only [step]
    rw [hp (j + 1) (by omega), hp j (by omega), ht j (by omega), step_congr p q i x t u j (fun k hk => hp k (by omega)) (fun k hk => ht k (by omega))]
theorem congr (s u t v : Nat → Int) : ∀ i j, (∀ k, k < i → s k = u k) → (∀ k, k < j → t k = v k) → lev s t i j = lev u v i j
  | 0, _, _, _ => rfl
  | i + 1, j, hs, ht => by
    simp only [lev]
    rw [hs i (by omega)]
    exact step_congr _ _ _ _ _ _ _ (fun k hk => congr s u t v i k (fun l hl => hs l (by omega)) (fun l hl => ht l (by omega))) ht

/-! ### over lists -/
def fn (l : List Int) (k : Nat) : Int := l.getD k 0
/-- The distance of two lists. -/
def dist (a b : List Int) : Nat := lev (fn a) (fn b) a.length b.length

theorem fn_append_left (a b : List Int) (k : Nat) (h : k < a.length) : fn (a ++ b) k = fn a k := by
  simp [fn, List.getElem?_append_left h]
theorem fn_append_right (a b : List Int) (k : Nat) : fn (a ++ b) (a.length + k) = fn b k := by
  simp [fn, List.getElem?_append_right]

theorem dist_pre (p a b : List Int) : dist (p ++ a) (p ++ b) = dist a b := by
  unfold dist
  rw [List.length_append, List.length_append, Nat.add_comm p.length, Nat.add_comm p.length]
  rw [pre p.length _ _ (fun k hk => by rw [fn_append_left p a k hk, fn_append_left p b k hk])]
  refine congr _ _ _ _ _ _ (fun k _ => ?_) (fun k _ => ?_)
  · show fn (p ++ a) (k + p.length) = _
    rw [Nat.add_comm, fn_append_right]
  · show fn (p ++ b) (k + p.length) = _
    rw [Nat.add_comm, fn_append_right]
theorem dist_suf (a b q : List Int) : dist (a ++ q) (b ++ q) = dist a b := by
  unfold dist
  rw [List.length_append, List.length_append]
  rw [suffix _ _ _ _ q.length (fun k _ => by rw [fn_append_right, fn_append_right])]
  exact congr _ _ _ _ _ _ (fun k hk => fn_append_left a q k hk) (fun k hk => fn_append_left b q k hk)
theorem dist_nil_right (a : List Int) : dist a [] = a.length := by
  unfold dist; exact lev_left _ _ _
theorem dist_nil_left (b : List Int) : dist [] b = b.length := by
  unfold dist; exact lev_zero _ _ _
theorem dist_le (a b : List Int) : dist a b ≤ max a.length b.length := le_max _ _ _ _

theorem affix_whole (p a b q : List Int) : dist (p ++ a ++ q) (p ++ b ++ q) = dist a b := by
  rw [dist_suf, dist_pre]
theorem affix_cut (p a q : List Int) : dist (p ++ a ++ q) (p ++ [] ++ q) = a.length := by
  rw [dist_suf, dist_pre, dist_nil_right]
theorem affix_put (p b q : List Int) : dist (p ++ [] ++ q) (p ++ b ++ q) = b.length := by
  rw [dist_suf, dist_pre, dist_nil_left]

end Go.Proofs.Qxb6619364a.Lev
