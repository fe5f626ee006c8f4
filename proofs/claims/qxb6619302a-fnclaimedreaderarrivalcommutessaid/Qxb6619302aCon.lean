/-
  The contracts of claimed and ZZclaimed over the given translation, and the bit facts they need.
-/
import Derived.Test.Qxb6619302aRows
import Derived.WalkKit
import Derived.ProofKit
import Derived.WalkSpells
import Derived.WalkLawsBesides
import Derived.Laws.BitsAllLaws
namespace Go.Proofs.Qxb6619302a
open Go.ChangeShapes Go.WideShapes Go.ChangeAt Go.RowKit

/-- A small constant joins the low three bits alone. -/
theorem or8 (n c : Nat) (hc : c < 8) : n ||| c = n / 8 * 8 + (n % 8 ||| c) := by
  have h1 : n % 8 ||| c < 2 ^ 3 := Nat.or_lt_two_pow (by omega) (by omega)
  have e : n / 8 * 8 + n % 8 = n := by omega
  have e2 : n / 8 * 8 + n % 8 = n / 8 * 8 ||| n % 8 := by
    rw [nat_join 3 (n / 8 * 8) (n % 8) (by omega) (by omega)]
  rw [← nat_join 3 (n / 8 * 8) (n % 8 ||| c) (by omega) h1, ← Nat.or_assoc, ← e2, e]

theorem or1 (n : Nat) : n ||| 1 = n - n % 2 + 1 := by
  have : ∀ r, r < 8 → r ||| 1 = r - r % 2 + 1 := by decide
  rw [or8 n 1 (by omega), this _ (by omega)]; omega
theorem or4 (n : Nat) : n ||| 4 = n - n / 4 % 2 * 4 + 4 := by
  have : ∀ r, r < 8 → r ||| 4 = r - r / 4 % 2 * 4 + 4 := by decide
  rw [or8 n 4 (by omega), this _ (by omega)]; omega
theorem or2 (n : Nat) : n ||| 2 = n - n / 2 % 2 * 2 + 2 := by
  have : ∀ r, r < 8 → r ||| 2 = r - r / 2 % 2 * 2 + 2 := by decide
  rw [or8 n 2 (by omega), this _ (by omega)]; omega
theorem and5 (n : Nat) : n &&& 5 = n % 2 + n / 4 % 2 * 4 := by
  have h : ∀ r, r < 8 → r &&& 5 = r % 2 + r / 4 % 2 * 4 := by decide
  have e : (5 : Nat) = 7 &&& 5 := by decide
  rw [e, ← Nat.and_assoc, nat_mask3, h _ (by omega)]; omega
theorem and_hi (i k n : Nat) (hn : n < 2 ^ (i + k)) : n &&& (2 ^ k - 1) * 2 ^ i = n / 2 ^ i * 2 ^ i := by
  have e : n / 2 ^ i &&& (2 ^ k - 1) = n / 2 ^ i := by
    rw [Nat.and_two_pow_sub_one_eq_mod]
    apply Nat.mod_eq_of_lt
    apply Nat.div_lt_of_lt_mul
    rw [← Nat.pow_add]; exact hn
  rw [show n / 2 ^ i * 2 ^ i = (n / 2 ^ i &&& (2 ^ k - 1)) * 2 ^ i from congrArg (· * 2 ^ i) e.symm]
  apply Nat.eq_of_testBit_eq
  intro j
  rw [Nat.testBit_and, Nat.testBit_mul_two_pow, Nat.testBit_mul_two_pow, Nat.testBit_and, Nat.testBit_div_two_pow]
  by_cases h2 : i ≤ j
  · have : j - i + i = j := by omega
    simp [h2, this]
  · simp [h2]

theorem b_or1 (n : Nat) (h : n < 18446744073709551616) : bits .or .u64 (n : Int) 1 = ((n - n % 2 + 1 : Nat) : Int) := by
  rw [show (1 : Int) = ((1 : Nat) : Int) from rfl, u64_or_nat n 1 h (by omega), or1]
theorem b_or4 (n : Nat) (h : n < 18446744073709551616) : bits .or .u64 (n : Int) 4 = ((n - n / 4 % 2 * 4 + 4 : Nat) : Int) := by
  rw [show (4 : Int) = ((4 : Nat) : Int) from rfl, u64_or_nat n 4 h (by omega), or4]
theorem b_or2 (n : Nat) (h : n < 18446744073709551616) : bits .or .u64 (n : Int) 2 = ((n - n / 2 % 2 * 2 + 2 : Nat) : Int) := by
  rw [show (2 : Int) = ((2 : Nat) : Int) from rfl, u64_or_nat n 2 h (by omega), or2]
theorem b_and5 (n : Nat) (h : n < 18446744073709551616) : bits .and .u64 (n : Int) 5 = ((n % 2 + n / 4 % 2 * 4 : Nat) : Int) := by
  rw [show (5 : Int) = ((5 : Nat) : Int) from rfl, u64_and_nat n 5 h (by omega), and5]
theorem b_readers (n : Nat) (h : n < 18446744073709551616) : bits .and .u64 (n : Int) 18446744065119617024 = ((n / 8589934592 * 8589934592 : Nat) : Int) := by
  rw [show (18446744065119617024 : Int) = ((18446744065119617024 : Nat) : Int) from rfl, u64_and_nat n _ h (by omega)]
  exact congrArg Int.ofNat (and_hi 33 31 n h)
theorem b_keep (n : Nat) (h : n < 18446744073709551616) : bits .and .u64 (n : Int) 18446744073709551608 = ((n / 8 * 8 : Nat) : Int) := by
  rw [show (18446744073709551608 : Int) = ((18446744073709551608 : Nat) : Int) from rfl, u64_and_nat n _ h (by omega)]
  exact congrArg Int.ofNat (and_hi 3 61 n h)

/-- What claimed answers. -/
def clN (n : Nat) : Nat := if n < 8589934592 then n / 8 * 8 + 5 + n / 2 % 2 * 2 else n / 8 * 8 + 7

theorem claimed_any (n : Nat) (h : n < 18446744073709551616) (w : World) :
    Calls Try.prog 5 #[.int .u64 n] w fun e w' => e = .returned (.int .u64 (clN n)) ∧ w' = w := by
  obtain ⟨m1, b1, d1⟩ : ∃ m : Nat, bits .or .u64 (n : Int) 1 = (m : Int) ∧ Hid (m = n - n % 2 + 1) := ⟨_, b_or1 n h, rfl⟩
  obtain ⟨m2, b2, d2⟩ : ∃ m : Nat, bits .or .u64 (m1 : Int) 4 = (m : Int) ∧ Hid (m = m1 - m1 / 4 % 2 * 4 + 4) := ⟨_, b_or4 m1 (by have := d1.out; omega), rfl⟩
  obtain ⟨m3, b3, d3⟩ : ∃ m : Nat, bits .or .u64 (m2 : Int) 2 = (m : Int) ∧ Hid (m = m2 - m2 / 2 % 2 * 2 + 2) := ⟨_, b_or2 m2 (by have := d1.out; have := d2.out; omega), rfl⟩
  have b4 := b_readers n h
  by_cases c : n < 8589934592
  · have e : n / 8589934592 * 8589934592 = 0 := by omega
    rw [e] at b4
    have r : m2 = clN n := by have := d1.out; have := d2.out; rw [clN, if_pos c]; omega
    clear d1 d2 d3 e c
    have R : Hid (m2 = clN n) := r
    clear r
    go_enter Try.func5, Try.ntmps5
    go_wp2
    go_ret
    exact ⟨by rw [← R.out]; rfl, rfl⟩
  · have e : ¬ ((n / 8589934592 * 8589934592 : Nat) : Int) = 0 := by omega
    rw [← b4] at e
    have r : m3 = clN n := by have := d1.out; have := d2.out; have := d3.out; rw [clN, if_neg c]; omega
    clear d1 d2 d3 c b4
    have R : Hid (m3 = clN n) := r
    clear r
    go_enter Try.func5, Try.ntmps5
    go_wp2
    go_ret
    exact ⟨by rw [← R.out]; rfl, rfl⟩

theorem zzclaimed_any (n : Nat) (h : n < 18446744073709551616) (w : World) :
    Calls Try.prog 4 #[.int .u64 n] w fun e w' => e = .returned (.int .u64 (clN n)) ∧ w' = w := by
  go_enter Try.func4, Try.ntmps4
  go_wp2_with fail
  refine (claimed_any n h _).mono ?_
  rintro e w1 ⟨rfl, rfl⟩
  go_wp2
  go_ret
  exact ⟨rfl, rfl⟩

end Go.Proofs.Qxb6619302a
