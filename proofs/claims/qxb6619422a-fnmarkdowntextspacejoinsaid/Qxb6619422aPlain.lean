/-
  PLAIN MATHEMATICS, no Go in sight: which bytes of a text are markup at their place; the escaped text.
-/
namespace Go.Proofs.Qxb6619422a

/-- The byte at j; 0 beyond the end. -/
def bt (l : List UInt8) (j : Nat) : UInt8 := l[j]?.getD 0
def g (l : List UInt8) (j : Nat) : Nat := (bt l j).toNat

def special (c : Nat) : Bool := c == 92 || c == 96 || c == 42 || c == 95 || c == 91 || c == 93 || c == 60 || c == 62 || c == 126 || c == 38 || c == 124
/-- Is the byte at j markup at its place? -/
def markB (l : List UInt8) (j : Nat) : Bool :=
  special (g l j) || (g l j == 58 && (g l (j + 1) == 47 && g l (j + 2) == 47)) || (g l j == 46 && (decide (3 ≤ j) && g l (j - 3) == 119 && g l (j - 2) == 119 && g l (j - 1) == 119))

def piece (l : List UInt8) (j : Nat) : List UInt8 := if markB l j = true then [92, bt l j] else [bt l j]
/-- The first j bytes, escaped. -/
def escTo (l : List UInt8) : Nat → List UInt8
  | 0 => []
  | j + 1 => escTo l j ++ piece l j
def esc (l : List UInt8) : List UInt8 := escTo l l.length
/-- The number of markup places among the first j. -/
def cnt (l : List UInt8) : Nat → Nat
  | 0 => 0
  | j + 1 => cnt l j + if markB l j = true then 1 else 0

theorem cnt_le (l : List UInt8) : ∀ j, cnt l j ≤ j
  | 0 => Nat.le_refl _
  | j + 1 => by have := cnt_le l j; unfold cnt; split <;> omega
theorem escTo_length (l : List UInt8) : ∀ j, (escTo l j).length = j + cnt l j
  | 0 => rfl
  | j + 1 => by
    have := escTo_length l j
    unfold escTo cnt piece
    split <;> simp <;> omega
theorem escTo_split (l : List UInt8) (j : Nat) : ∀ n, j < n → ∃ r, escTo l n = escTo l j ++ (piece l j ++ r)
  | 0, h => absurd h (Nat.not_lt_zero _)
  | n + 1, h => by
    by_cases e : j = n
    · subst e; exact ⟨[], by simp [escTo]⟩
    · obtain ⟨r, hr⟩ := escTo_split l j n (by omega)
      exact ⟨r ++ piece l n, by simp [escTo, hr]⟩
theorem take_succ (l : List UInt8) (j : Nat) (h : j < l.length) : l.take (j + 1) = l.take j ++ [bt l j] := by
  rw [List.take_add_one]
  simp [bt, List.getElem?_eq_getElem h]
theorem cut_succ (l : List UInt8) (a j : Nat) (ha : a ≤ j) (h : j < l.length) : (l.drop a).take (j + 1 - a) = (l.drop a).take (j - a) ++ [bt l j] := by
  rw [show j + 1 - a = (j - a) + 1 by omega, take_succ _ _ (by simp; omega)]
  congr 2
  simp only [bt, List.getElem?_drop]
  rw [show a + (j - a) = j by omega]

/-! ### a space between two texts -/
theorem bt_left (a b : List UInt8) (j : Nat) (h : j < a.length) : bt (a ++ 32 :: b) j = bt a j := by
  simp [bt, List.getElem?_append_left h]
theorem bt_mid (a b : List UInt8) : bt (a ++ 32 :: b) a.length = 32 := by
  simp [bt]
theorem bt_right (a b : List UInt8) (j : Nat) : bt (a ++ 32 :: b) (a.length + 1 + j) = bt b j := by
  simp only [bt]
  rw [List.getElem?_append_right (by omega), show a.length + 1 + j - a.length = j + 1 by omega]
  rfl
theorem bt_out (a : List UInt8) (j : Nat) (h : a.length ≤ j) : bt a j = 0 := by
  simp [bt, List.getElem?_eq_none h]

theorem mark_left (a b : List UInt8) (j : Nat) (h : j < a.length) : markB (a ++ 32 :: b) j = markB a j := by
  have e0 : g (a ++ 32 :: b) j = g a j := by unfold g; rw [bt_left a b j h]
  have e1 : g (a ++ 32 :: b) (j - 1) = g a (j - 1) := by unfold g; rw [bt_left a b _ (by omega)]
  have e2 : g (a ++ 32 :: b) (j - 2) = g a (j - 2) := by unfold g; rw [bt_left a b _ (by omega)]
  have e3 : g (a ++ 32 :: b) (j - 3) = g a (j - 3) := by unfold g; rw [bt_left a b _ (by omega)]
  have e4 : (g (a ++ 32 :: b) (j + 1) == 47 && g (a ++ 32 :: b) (j + 2) == 47) = (g a (j + 1) == 47 && g a (j + 2) == 47) := by
    by_cases h1 : j + 1 < a.length
    · have f1 : g (a ++ 32 :: b) (j + 1) = g a (j + 1) := by unfold g; rw [bt_left a b _ h1]
      by_cases h2 : j + 2 < a.length
      · have f2 : g (a ++ 32 :: b) (j + 2) = g a (j + 2) := by unfold g; rw [bt_left a b _ h2]
        rw [f1, f2]
      · have f2 : g (a ++ 32 :: b) (j + 2) = 32 := by unfold g; rw [show j + 2 = a.length by omega, bt_mid]; rfl
        have f3 : g a (j + 2) = 0 := by unfold g; rw [bt_out a _ (by omega)]; rfl
        rw [f1, f2, f3]; simp
    · have f2 : g (a ++ 32 :: b) (j + 1) = 32 := by unfold g; rw [show j + 1 = a.length by omega, bt_mid]; rfl
      have f3 : g a (j + 1) = 0 := by unfold g; rw [bt_out a _ (by omega)]; rfl
      rw [f2, f3]; simp
  unfold markB
  rw [e0, e1, e2, e3, e4]
theorem mark_mid (a b : List UInt8) : markB (a ++ 32 :: b) a.length = false := by
  have e : g (a ++ 32 :: b) a.length = 32 := by unfold g; rw [bt_mid]; rfl
  unfold markB
  rw [e]
  simp [special]
theorem mark_right (a b : List UInt8) (j : Nat) : markB (a ++ 32 :: b) (a.length + 1 + j) = markB b j := by
  have e0 : g (a ++ 32 :: b) (a.length + 1 + j) = g b j := by unfold g; rw [bt_right]
  have e1 : g (a ++ 32 :: b) (a.length + 1 + j + 1) = g b (j + 1) := by unfold g; rw [show a.length + 1 + j + 1 = a.length + 1 + (j + 1) by omega, bt_right]
  have e2 : g (a ++ 32 :: b) (a.length + 1 + j + 2) = g b (j + 2) := by unfold g; rw [show a.length + 1 + j + 2 = a.length + 1 + (j + 2) by omega, bt_right]
  have e3 : (decide (3 ≤ a.length + 1 + j) && g (a ++ 32 :: b) (a.length + 1 + j - 3) == 119 && g (a ++ 32 :: b) (a.length + 1 + j - 2) == 119 && g (a ++ 32 :: b) (a.length + 1 + j - 1) == 119)
      = (decide (3 ≤ j) && g b (j - 3) == 119 && g b (j - 2) == 119 && g b (j - 1) == 119) := by
    have m : g (a ++ 32 :: b) a.length = 32 := by unfold g; rw [bt_mid]; rfl
    by_cases h : 3 ≤ j
    · have f1 : g (a ++ 32 :: b) (a.length + 1 + j - 1) = g b (j - 1) := by unfold g; rw [show a.length + 1 + j - 1 = a.length + 1 + (j - 1) by omega, bt_right]
      have f2 : g (a ++ 32 :: b) (a.length + 1 + j - 2) = g b (j - 2) := by unfold g; rw [show a.length + 1 + j - 2 = a.length + 1 + (j - 2) by omega, bt_right]
      have f3 : g (a ++ 32 :: b) (a.length + 1 + j - 3) = g b (j - 3) := by unfold g; rw [show a.length + 1 + j - 3 = a.length + 1 + (j - 3) by omega, bt_right]
      rw [f1, f2, f3, decide_eq_true h, decide_eq_true (show 3 ≤ a.length + 1 + j by omega)]
    · rw [decide_eq_false h]
      rw [show (false && g b (j - 3) == 119 && g b (j - 2) == 119 && g b (j - 1) == 119) = false from rfl]
      by_cases j0 : j = 0
      · subst j0
        rw [show a.length + 1 + 0 - 1 = a.length by omega, m]; simp
      · by_cases j1 : j = 1
        · subst j1
          rw [show a.length + 1 + 1 - 2 = a.length by omega, m]; simp
        · rw [show a.length + 1 + j - 3 = a.length by omega, m]; simp
  unfold markB
  rw [e0, e1, e2, e3]

theorem esc_left (a b : List UInt8) : ∀ j, j ≤ a.length → escTo (a ++ 32 :: b) j = escTo a j
  | 0, _ => rfl
  | j + 1, h => by
    unfold escTo piece
    rw [esc_left a b j (by omega), mark_left a b j h, bt_left a b j h]
theorem esc_right (a b : List UInt8) : ∀ j, escTo (a ++ 32 :: b) (a.length + 1 + j) = escTo a a.length ++ 32 :: escTo b j
  | 0 => by
    show escTo (a ++ 32 :: b) a.length ++ piece (a ++ 32 :: b) a.length = _
    rw [esc_left a b _ (Nat.le_refl _)]
    unfold piece
    rw [mark_mid, bt_mid]
    simp [escTo]
  | j + 1 => by
    show escTo (a ++ 32 :: b) (a.length + 1 + j) ++ piece (a ++ 32 :: b) (a.length + 1 + j) = _
    rw [esc_right a b j]
    unfold piece
    rw [mark_right, bt_right]
    simp [escTo, piece]
theorem esc_join (a b : List UInt8) : esc (a ++ 32 :: b) = esc a ++ 32 :: esc b := by
  unfold esc
  rw [show (a ++ 32 :: b).length = a.length + 1 + b.length by simp; omega]
  exact esc_right a b b.length

end Go.Proofs.Qxb6619422a
