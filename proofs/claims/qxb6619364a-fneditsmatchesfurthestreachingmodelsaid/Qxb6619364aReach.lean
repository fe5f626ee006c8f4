/-
  PLAIN MATHEMATICS, no Go in sight: the furthest-reaching rows on the diagonals. Cell x stands for the diagonal 'column = row + x - n'.
-/
import Derived.Test.Qxb6619364aLev
namespace Go.Proofs.Qxb6619364a.Lev

/-- What a cell says is true: it is -1, or a row of the diagonal within d edits. -/
def Row (s t : Nat → Int) (n m d x : Nat) (v : Int) : Prop :=
  v = -1 ∨ ∃ i j : Nat, v = i ∧ j + n = i + x ∧ i ≤ n ∧ j ≤ m ∧ lev s t i j ≤ d
def Sound (s t : Nat → Int) (n m d : Nat) (P : Nat → Int) : Prop := ∀ x, x ≤ n + m → Row s t n m d x (P x)
/-- A diagonal above has come to the last row, or one below to the last column. -/
def Blk (n m : Nat) (P : Nat → Int) (x : Nat) : Prop :=
  (∃ y, x < y ∧ y ≤ n + m ∧ P y = n) ∨ (∃ y, y < x ∧ P y + y = m + n)
/-- No point within d edits lies further, but where that does not matter. -/
def Comp (s t : Nat → Int) (n m d : Nat) (P : Nat → Int) : Prop :=
  ∀ i j x : Nat, i ≤ n → j ≤ m → lev s t i j ≤ d → x + i = j + n → (i : Int) ≤ P x ∨ Blk n m P x

def c1 (n m x : Nat) (p : Int) : Int := if 0 ≤ p ∧ p < n ∧ p + ((x : Int) - n) < m then p + 1 else p
def c2 (n m x : Nat) (b l : Int) : Int := if 0 < x ∧ 0 ≤ l ∧ l + ((x : Int) - n) ≤ m ∧ b < l then l else b
def c3 (n m x : Nat) (b r : Int) : Int := if x + 1 < n + m + 1 ∧ 0 ≤ r ∧ r < n ∧ b < r + 1 then r + 1 else b
/-- Where the slide of cell x starts. -/
def cand (n m : Nat) (P : Nat → Int) (x : Nat) : Int := c3 n m x (c2 n m x (c1 n m x (P x)) (P (x - 1))) (P (x + 1))

/-- The slide along diagonal x from row c comes to row r. -/
def Slid (s t : Nat → Int) (n m x : Nat) (c r : Int) : Prop :=
  (c = -1 ∧ r = -1) ∨ ∃ i j e : Nat, c = i ∧ j + n = i + x ∧ r = ((i + e : Nat) : Int) ∧ i + e ≤ n ∧ j + e ≤ m ∧ (∀ z, z < e → s (i + z) = t (j + z)) ∧
    (i + e = n ∨ j + e = m ∨ ¬ s (i + e) = t (j + e))

theorem c1_ge (n m x : Nat) (p : Int) : p ≤ c1 n m x p := by unfold c1; split <;> omega
theorem c2_ge (n m x : Nat) (b l : Int) : b ≤ c2 n m x b l := by unfold c2; split <;> omega
theorem c3_ge (n m x : Nat) (b r : Int) : b ≤ c3 n m x b r := by unfold c3; split <;> omega
theorem cand_ge (n m : Nat) (P : Nat → Int) (x : Nat) : P x ≤ cand n m P x :=
  Int.le_trans (c1_ge n m x (P x)) (Int.le_trans (c2_ge n m x _ (P (x - 1))) (c3_ge n m x _ (P (x + 1))))
theorem cand_c (n m : Nat) (P : Nat → Int) (x : Nat) (h0 : 0 ≤ P x) (h1 : P x < n) (h2 : P x + ((x : Int) - n) < m) : P x + 1 ≤ cand n m P x := by
  refine Int.le_trans ?_ (Int.le_trans (c2_ge n m x _ (P (x - 1))) (c3_ge n m x _ (P (x + 1))))
  unfold c1; rw [if_pos ⟨h0, h1, h2⟩]; exact Int.le_refl _
theorem cand_l (n m : Nat) (P : Nat → Int) (x : Nat) (hx : 0 < x) (h0 : 0 ≤ P (x - 1)) (h2 : P (x - 1) + ((x : Int) - n) ≤ m) : P (x - 1) ≤ cand n m P x := by
  refine Int.le_trans ?_ (c3_ge n m x _ (P (x + 1)))
  unfold c2; split <;> omega
theorem cand_r (n m : Nat) (P : Nat → Int) (x : Nat) (hx : x + 1 ≤ n + m) (h0 : 0 ≤ P (x + 1)) (h1 : P (x + 1) < n) : P (x + 1) + 1 ≤ cand n m P x := by
  unfold cand c3
  split <;> omega

theorem cand_sound {s t : Nat → Int} {n m d : Nat} {P : Nat → Int} (h : Sound s t n m d P) (x : Nat) (hx : x ≤ n + m) : Row s t n m (d + 1) x (cand n m P x) := by
  have a1 : Row s t n m (d + 1) x (c1 n m x (P x)) := by
    unfold c1
    rcases h x hx with e | ⟨i, j, e, f, g1, g2, g3⟩
    · rw [e, if_neg (by omega)]; exact Or.inl rfl
    · rw [e]
      split
      · have := diag_hi s t i j
        exact Or.inr ⟨i + 1, j + 1, by omega, by omega, by omega, by omega, by omega⟩
      · exact Or.inr ⟨i, j, rfl, f, g1, g2, by omega⟩
  have a2 : Row s t n m (d + 1) x (c2 n m x (c1 n m x (P x)) (P (x - 1))) := by
    unfold c2
    split
    · rename_i hh
      rcases h (x - 1) (by omega) with e | ⟨i, j, e, f, g1, g2, g3⟩
      · omega
      · rw [e] at hh ⊢
        have := up_j s t i j
        exact Or.inr ⟨i, j + 1, rfl, by omega, by omega, by omega, by omega⟩
    · exact a1
  unfold cand c3
  split
  · rename_i hh
    rcases h (x + 1) (by omega) with e | ⟨i, j, e, f, g1, g2, g3⟩
    · omega
    · rw [e] at hh ⊢
      have := up_i s t i j
      exact Or.inr ⟨i + 1, j, by omega, by omega, by omega, by omega, by omega⟩
  · exact a2

theorem slid_ge {s t : Nat → Int} {n m x : Nat} {c r : Int} (h : Slid s t n m x c r) : c ≤ r := by
  rcases h with ⟨rfl, rfl⟩ | ⟨i, j, e, h1, _, h2, _⟩
  · omega
  · omega

theorem slid_sound {s t : Nat → Int} {n m d x : Nat} {c r : Int} (h : Slid s t n m x c r) (hc : Row s t n m d x c) : Row s t n m d x r := by
  rcases h with ⟨_, rfl⟩ | ⟨i, j, e, h1, h2, h3, h4, h5, h6, _⟩
  · exact Or.inl rfl
  · rcases hc with hc | ⟨i', j', g1, g2, g3, g4, g5⟩
    · omega
    · obtain rfl : i' = i := by omega
      obtain rfl : j' = j := by omega
      exact Or.inr ⟨i' + e, j' + e, h3, by omega, h4, h5, by rw [suffix s t i' j' e h6]; exact g5⟩

theorem sound_le {s t : Nat → Int} {n m d : Nat} {P : Nat → Int} (h : Sound s t n m d P) (x : Nat) (hx : x ≤ n + m) : P x ≤ n ∧ P x + x ≤ m + n ∧ -1 ≤ P x ∧ (0 ≤ P x → (n : Int) ≤ P x + x) := by
  rcases h x hx with e | ⟨i, j, e, f, g1, g2, g3⟩
  · omega
  · omega

theorem blk_mono {s t : Nat → Int} {n m d x : Nat} {P Q : Nat → Int} (hx : x ≤ n + m) (hQ : Sound s t n m d Q) (hge : ∀ y, y ≤ n + m → P y ≤ Q y) (h : Blk n m P x) : Blk n m Q x := by
  rcases h with ⟨y, h1, h2, h3⟩ | ⟨y, h1, h2⟩
  · have := hge y h2
    have := sound_le hQ y h2
    exact Or.inl ⟨y, h1, h2, by omega⟩
  · have := hge y (by omega)
    have := sound_le hQ y (by omega)
    exact Or.inr ⟨y, h1, by omega⟩

/-- The first point of a diagonal. -/
theorem first_le {s t : Nat → Int} {n m i j x : Nat} (_hi : i ≤ n) (_hj : j ≤ m) (hx : x + i = j + n) : x - n ≤ lev s t i j ∧ n - x ≤ lev s t i j := by
  by_cases h : n ≤ x
  · have := diag_mono s t 0 (x - n) i
    rw [lev_zero, Nat.zero_add, show x - n + i = j by omega] at this
    omega
  · have := diag_mono s t (n - x) 0 j
    rw [lev_left, Nat.zero_add, show n - x + j = i by omega] at this
    omega

theorem step_law {s t : Nat → Int} {n m d : Nat} {P Q : Nat → Int} (hs : Sound s t n m d P) (hc : Comp s t n m d P)
    (hq : ∀ x, x ≤ n + m → Slid s t n m x (cand n m P x) (Q x)) : Sound s t n m (d + 1) Q ∧ Comp s t n m (d + 1) Q := by
  have hS : Sound s t n m (d + 1) Q := fun x hx => slid_sound (hq x hx) (cand_sound hs x hx)
  have hCQ : ∀ y, y ≤ n + m → cand n m P y ≤ Q y := fun y hy => slid_ge (hq y hy)
  have hPQ : ∀ y, y ≤ n + m → P y ≤ Q y := fun y hy => Int.le_trans (cand_ge n m P y) (hCQ y hy)
  refine ⟨hS, fun i j x hi hj hl hx => ?_⟩
  have hxw : x ≤ n + m := by omega
  by_cases hge : (i : Int) ≤ Q x
  · exact Or.inl hge
  refine Or.inr ?_
  have up : Blk n m P x → Blk n m Q x := blk_mono hxw hS hPQ
  have q1 := sound_le hS x hxw
  have q2 := hCQ x hxw
  have q3 := hPQ x hxw
  have p1 := sound_le hs x hxw
  rcases hq x hxw with ⟨e1, e2⟩ | ⟨i0, j0, e, e1, e2, e3, e4, e5, e6, e7⟩
  · -- the diagonal is not reached yet
    have hf := first_le (s := s) (t := t) hi hj hx
    by_cases hn : n ≤ x
    · by_cases hd : x - n ≤ d
      · rcases hc 0 (x - n) x (by omega) (by omega) (by rw [lev_zero]; exact hd) (by omega) with h | h
        · omega
        · exact up h
      · rcases hc 0 (x - 1 - n) (x - 1) (by omega) (by omega) (by rw [lev_zero]; omega) (by omega) with h | h
        · have p2 := sound_le hs (x - 1) (by omega)
          by_cases hb : P (x - 1) + ((x - 1 : Nat) : Int) = m + n
          · exact up (Or.inr ⟨x - 1, by omega, hb⟩)
          · have := cand_l n m P x (by omega) (by omega) (by omega)
            omega
        · rcases h with ⟨y, h1, h2, h3⟩ | ⟨y, h1, h2⟩
          · by_cases ey : y = x
            · subst ey; omega
            · exact up (Or.inl ⟨y, by omega, h2, h3⟩)
          · exact up (Or.inr ⟨y, by omega, h2⟩)
    · by_cases hd : n - x ≤ d
      · rcases hc (n - x) 0 x (by omega) (by omega) (by rw [lev_left]; exact hd) (by omega) with h | h
        · omega
        · exact up h
      · rcases hc (n - x - 1) 0 (x + 1) (by omega) (by omega) (by rw [lev_left]; omega) (by omega) with h | h
        · have p2 := sound_le hs (x + 1) (by omega)
          by_cases hb : P (x + 1) = n
          · exact up (Or.inl ⟨x + 1, by omega, by omega, hb⟩)
          · have := cand_r n m P x (by omega) (by omega) (by omega)
            omega
        · rcases h with ⟨y, h1, h2, h3⟩ | ⟨y, h1, h2⟩
          · exact up (Or.inl ⟨y, by omega, h2, h3⟩)
          · by_cases ey : y = x
            · subst ey; omega
            · exact up (Or.inr ⟨y, by omega, h2⟩)
  · -- the slide has stopped at a mismatch, short of row i
    have hmis : ¬ s (i0 + e) = t (j0 + e) := by
      rcases e7 with h | h | h
      · omega
      · omega
      · exact h
    have hm1 := diag_mono s t (i0 + e + 1) (j0 + e + 1) (i - (i0 + e + 1))
    rw [show i0 + e + 1 + (i - (i0 + e + 1)) = i by omega, show j0 + e + 1 + (i - (i0 + e + 1)) = j by omega, diag_ne s t _ _ hmis] at hm1
    generalize hr : i0 + e = r at *
    generalize hcc : j0 + e = c at *
    have h3 : lev s t r c ≤ d ∨ lev s t r (c + 1) ≤ d ∨ lev s t (r + 1) c ≤ d := by omega
    rcases h3 with h3 | h3 | h3
    · rcases hc r c x (by omega) (by omega) h3 (by omega) with h | h
      · have := cand_c n m P x (by omega) (by omega) (by omega)
        omega
      · exact up h
    · rcases hc r (c + 1) (x + 1) (by omega) (by omega) h3 (by omega) with h | h
      · have p2 := sound_le hs (x + 1) (by omega)
        by_cases hb : P (x + 1) = n
        · exact up (Or.inl ⟨x + 1, by omega, by omega, hb⟩)
        · have := cand_r n m P x (by omega) (by omega) (by omega)
          omega
      · rcases h with ⟨y, h1, h2, h3⟩ | ⟨y, h1, h2⟩
        · exact up (Or.inl ⟨y, by omega, h2, h3⟩)
        · by_cases ey : y = x
          · subst ey; omega
          · exact up (Or.inr ⟨y, by omega, h2⟩)
    · rcases hc (r + 1) c (x - 1) (by omega) (by omega) h3 (by omega) with h | h
      · have p2 := sound_le hs (x - 1) (by omega)
        by_cases hb : P (x - 1) + ((x - 1 : Nat) : Int) = m + n
        · exact up (Or.inr ⟨x - 1, by omega, hb⟩)
        · have := cand_l n m P x (by omega) (by omega) (by omega)
          omega
      · rcases h with ⟨y, h1, h2, h3⟩ | ⟨y, h1, h2⟩
        · by_cases ey : y = x
          · subst ey; omega
          · exact up (Or.inl ⟨y, by omega, h2, h3⟩)
        · exact up (Or.inr ⟨y, by omega, h2⟩)

theorem start_law {s t : Nat → Int} {n m : Nat} {P : Nat → Int} (h1 : ∀ x, x ≤ n + m → ¬ x = n → P x = -1) (h2 : Slid s t n m n 0 (P n)) : Sound s t n m 0 P ∧ Comp s t n m 0 P := by
  rcases h2 with ⟨h2, _⟩ | ⟨i, j, e, a1, a2, a3, a4, a5, a6, a7⟩
  · omega
  obtain rfl : i = 0 := by omega
  obtain rfl : j = 0 := by omega
  refine ⟨fun x hx => ?_, fun i j x hi hj hl hx => ?_⟩
  · by_cases ex : x = n
    · subst ex
      exact Or.inr ⟨0 + e, 0 + e, a3, by omega, a4, a5, by rw [suffix s t 0 0 e a6]; exact Nat.le_refl _⟩
    · exact Or.inl (h1 x hx ex)
  · have hf := first_le (s := s) (t := t) hi hj hx
    obtain rfl : x = n := by omega
    obtain rfl : i = j := by omega
    by_cases hge : (i : Int) ≤ P x
    · exact Or.inl hge
    · have hmis : ¬ s (0 + e) = t (0 + e) := by
        rcases a7 with h | h | h
        · omega
        · omega
        · exact h
      have hm1 := diag_mono s t (0 + e + 1) (0 + e + 1) (i - (0 + e + 1))
      rw [show 0 + e + 1 + (i - (0 + e + 1)) = i by omega, diag_ne s t _ _ hmis] at hm1
      omega

theorem end_law {s t : Nat → Int} {n m d : Nat} {P : Nat → Int} (hs : Sound s t n m d P) (hc : Comp s t n m d P) : P m = n ↔ lev s t n m ≤ d := by
  constructor
  · intro h
    rcases hs m (by omega) with e | ⟨i, j, e, f, g1, g2, g3⟩
    · omega
    · obtain rfl : i = n := by omega
      obtain rfl : j = m := by omega
      exact g3
  · intro h
    have p := sound_le hs m (by omega)
    rcases hc n m m (Nat.le_refl _) (Nat.le_refl _) h rfl with e | ⟨y, h1, h2, h3⟩ | ⟨y, h1, h2⟩
    · omega
    · have := sound_le hs y h2
      omega
    · have := sound_le hs y (by omega)
      omega

end Go.Proofs.Qxb6619364a.Lev
