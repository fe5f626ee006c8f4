/-
  The contracts of zzPasses, rangeTest, ZZrangeTest, zzWordRank over the given translation.
-/
import Derived.Test.Qxb6619299aRows
import Derived.WalkKit
import Derived.ProofKit
import Derived.WalkSpells
import Derived.WalkLawsBesides
namespace Go.Proofs.Qxb6619299a
open Go.ChangeShapes Go.WideShapes Go.ChangeAt Go.RowKit

/-- What zzPasses answers, at the five words that rangeTest uses. -/
def passB (op port high p : Int) : Bool :=
  if op = 0 then true else if op = 1 then p == port else if op = 3 then decide (p < port) else if op = 4 then decide (port < p) else decide (port ≤ p) && decide (p ≤ high)

/-- The five words. -/
def Word (op : Int) : Prop := op = 0 ∨ op = 1 ∨ op = 3 ∨ op = 4 ∨ op = 7

set_option maxHeartbeats 400000 in
theorem passes_any (op port high p : Int) (hop : Word op) (w : World) :
    Calls Try.prog 8 #[.agg #[.int .u8 op, .int .u16 port, .int .u16 high], .int .u16 p] w fun e w' => e = .returned (.bool (passB op port high p)) ∧ Below w.heap.size w w' := by
  rcases hop with rfl | rfl | rfl | rfl | rfl
  · go_enter Try.func8, Try.ntmps8
    go_wp2
    go_ret
    exact ⟨rfl, (Below.refl _ _).alloc (Nat.le_refl _) _⟩
  · go_enter Try.func8, Try.ntmps8
    go_wp2
    go_ret
    exact ⟨rfl, (Below.refl _ _).alloc (Nat.le_refl _) _⟩
  · go_enter Try.func8, Try.ntmps8
    go_wp2
    go_ret
    exact ⟨rfl, (Below.refl _ _).alloc (Nat.le_refl _) _⟩
  · go_enter Try.func8, Try.ntmps8
    go_wp2
    go_ret
    exact ⟨rfl, (Below.refl _ _).alloc (Nat.le_refl _) _⟩
  · by_cases h1 : port ≤ p
    · go_enter Try.func8, Try.ntmps8
      go_wp2
      go_ret
      exact ⟨by simp [passB, h1], (Below.refl _ _).alloc (Nat.le_refl _) _⟩
    · go_enter Try.func8, Try.ntmps8
      go_wp2
      go_ret
      exact ⟨by simp [passB]; omega, (Below.refl _ _).alloc (Nat.le_refl _) _⟩

/-- What rangeTest gives: one of the five words, and the numbers behind it. -/
def RT (lo hi op port high : Int) : Prop :=
  (lo = 0 ∧ hi = 65535 ∧ op = 0 ∧ port = 0 ∧ high = 0) ∨
  (¬ (lo = 0 ∧ hi = 65535) ∧ lo = hi ∧ op = 1 ∧ port = lo ∧ high = 0) ∨
  (hi < 65535 ∧ lo = 0 ∧ lo < hi ∧ op = 3 ∧ port = hi + 1 ∧ high = 0) ∨
  (hi = 65535 ∧ 0 < lo ∧ lo < hi ∧ op = 4 ∧ port = lo - 1 ∧ high = 0) ∨
  (hi < 65535 ∧ 0 < lo ∧ lo < hi ∧ op = 7 ∧ port = lo ∧ high = hi)

set_option maxHeartbeats 400000 in
theorem range_any (lo hi : Int) (h0 : 0 ≤ lo) (h1 : lo ≤ hi) (h2 : hi ≤ 65535) (w : World) :
    Calls Try.prog 9 #[.int .u64 lo, .int .u64 hi] w fun e w' => ∃ op port high : Int, RT lo hi op port high ∧ e = .returned (.agg #[.int .u8 op, .int .u16 port, .int .u16 high]) ∧ Below w.heap.size w w' := by
  by_cases a : lo = 0
  · subst a
    by_cases b : hi = 65535
    · subst b
      go_enter Try.func9, Try.ntmps9
      go_wp2
      exact bodyPost_ret (v := .agg #[.int .u8 0, .int .u16 0, .int .u16 0]) (by simp [results, Try.results9, go_sem]) rfl ⟨_, _, _, Or.inl ⟨rfl, rfl, rfl, rfl, rfl⟩, rfl, (Below.refl _ _).alloc (Nat.le_refl _) _⟩
    · by_cases c : hi = 0
      · subst c
        go_enter Try.func9, Try.ntmps9
        go_wp2
        exact bodyPost_ret (v := .agg #[.int .u8 1, .int .u16 0, .int .u16 0]) (by simp [results, Try.results9, go_sem]) rfl ⟨_, _, _, Or.inr (Or.inl ⟨by omega, rfl, rfl, rfl, rfl⟩), rfl, (Below.refl _ _).alloc (Nat.le_refl _) _⟩
      · have c' : 0 < hi := by omega
        have d' : hi < 65535 := by omega
        clear b c
        go_enter Try.func9, Try.ntmps9
        go_wp2
        exact bodyPost_ret (v := .agg #[.int .u8 3, .int .u16 (hi + 1), .int .u16 0]) (by simp [results, Try.results9, go_sem]) rfl ⟨_, _, _, Or.inr (Or.inr (Or.inl ⟨d', rfl, c', rfl, rfl, rfl⟩)), rfl, (Below.refl _ _).alloc (Nat.le_refl _) _⟩
  · have a' : 0 < lo := by omega
    clear a
    by_cases b : lo = hi
    · subst b
      go_enter Try.func9, Try.ntmps9
      go_wp2
      exact bodyPost_ret (v := .agg #[.int .u8 1, .int .u16 lo, .int .u16 0]) (by simp [results, Try.results9, go_sem]) rfl ⟨_, _, _, Or.inr (Or.inl ⟨by omega, rfl, rfl, rfl, rfl⟩), rfl, (Below.refl _ _).alloc (Nat.le_refl _) _⟩
    · have b' : lo < hi := by omega
      clear b
      by_cases c : hi = 65535
      · subst c
        go_enter Try.func9, Try.ntmps9
        go_wp2
        exact bodyPost_ret (v := .agg #[.int .u8 4, .int .u16 (lo - 1), .int .u16 0]) (by simp [results, Try.results9, go_sem]) rfl ⟨_, _, _, Or.inr (Or.inr (Or.inr (Or.inl ⟨rfl, a', b', rfl, rfl, rfl⟩))), rfl, (Below.refl _ _).alloc (Nat.le_refl _) _⟩
      · have c' : hi < 65535 := by omega
        clear c
        go_enter Try.func9, Try.ntmps9
        go_wp2
        exact bodyPost_ret (v := .agg #[.int .u8 7, .int .u16 lo, .int .u16 hi]) (by simp [results, Try.results9, go_sem]) rfl ⟨_, _, _, Or.inr (Or.inr (Or.inr (Or.inr ⟨c', a', b', rfl, rfl, rfl⟩))), rfl, (Below.refl _ _).alloc (Nat.le_refl _) _⟩

theorem bcell {W w1 : World} (hb : Below W.heap.size W w1) : (∀ b o, b < W.heap.size → w1.cell? ⟨b, o, none⟩ = W.cell? ⟨b, o, none⟩) ∧ (∀ b o, b < W.heap.size → w1.frozen? ⟨b, o, none⟩ = W.frozen? ⟨b, o, none⟩) :=
  ⟨fun b o h => hb.cell (p := ⟨b, o, none⟩) h, fun b o h => hb.frozen (p := ⟨b, o, none⟩) h⟩

/-- ZZrangeTest hands it on. -/
theorem zzrange_any (lo hi : Int) (h0 : 0 ≤ lo) (h1 : lo ≤ hi) (h2 : hi ≤ 65535) (w : World) :
    Calls Try.prog 5 #[.int .u64 lo, .int .u64 hi] w fun e w' => ∃ op port high : Int, RT lo hi op port high ∧ e = .returned (.agg #[.int .u8 op, .int .u16 port, .int .u16 high]) ∧ Below w.heap.size w w' := by
  go_enter Try.func5, Try.ntmps5
  go_wp2_with fail
  refine (range_any lo hi h0 h1 h2 _).mono ?_
  rintro e w1 ⟨op, port, high, hrt, rfl, hb⟩
  obtain ⟨hc, hf⟩ := bcell hb
  go_wp2
  exact bodyPost_ret (v := .agg #[.int .u8 op, .int .u16 port, .int .u16 high]) (by simp [results, Try.results5, go_sem, hc]) rfl ⟨_, _, _, hrt, rfl, ((((((Below.refl _ _).alloc (Nat.le_refl _) _).trans (hb.mono (by simp))).setCell (by simp) _).setCell (by simp) _).setCell (by simp) _)⟩

end Go.Proofs.Qxb6619299a
