/-
  The plain law of rangeTest's answer; the contracts of zzWordRank and zzPassesExactly.
-/
import Derived.Test.Qxb6619299aCon
namespace Go.Proofs.Qxb6619299a
open Go.ChangeShapes Go.WideShapes Go.ChangeAt Go.RowKit

theorem rt_word {lo hi op port high : Int} (h : RT lo hi op port high) : Word op := by
  unfold RT at h; unfold Word; omega

theorem rt_pass {lo hi op port high : Int} (h : RT lo hi op port high) (_h1 : lo ≤ hi) (p : Int) (p0 : 0 ≤ p) (p1 : p ≤ 65535) :
    passB op port high p = decide (lo ≤ p ∧ p ≤ hi) := by
  unfold RT at h
  rcases h with ⟨a, b, rfl, c, d⟩ | ⟨_, a, rfl, c, d⟩ | ⟨a, b, _, rfl, c, d⟩ | ⟨a, b, _, rfl, c, d⟩ | ⟨a, b, _, rfl, c, d⟩
  · simp [passB]; omega
  · rw [Bool.eq_iff_iff]; simp [passB]; omega
  · rw [Bool.eq_iff_iff]; simp [passB]; omega
  · rw [Bool.eq_iff_iff]; simp [passB]; omega
  · rw [Bool.eq_iff_iff]; simp [passB]; omega

/-- The contract of zzPasses with its answer named. -/
theorem passes_lit (v : Bool) (op port high p : Int) (hop : Word op) (h : passB op port high p = v) (w : World) :
    Calls Try.prog 8 #[.agg #[.int .u8 op, .int .u16 port, .int .u16 high], .int .u16 p] w fun e w' => e = .returned (.bool v) ∧ Below w.heap.size w w' := by
  subst h; exact passes_any op port high p hop w

theorem ne_not (b : Bool) : ¬ b = !b := by cases b <;> decide

/-- The rank of each of the five words. -/
def rankOf (op : Int) : Int := if op = 0 then 0 else if op = 1 then 1 else if op = 3 then 2 else if op = 4 then 3 else 4

theorem rank_any (op : Int) (hop : Word op) (w : World) :
    Calls Try.prog 7 #[.int .u8 op] w fun e w' => e = .returned (.int .i64 (rankOf op)) ∧ w' = w := by
  rcases hop with rfl | rfl | rfl | rfl | rfl
  all_goals
    go_enter Try.func7, Try.ntmps7
    go_wp2
    go_ret
    exact ⟨rfl, rfl⟩

set_option maxHeartbeats 400000 in
/-- zzPassesExactly, where the test passes just the ports lo..hi. -/
theorem exact_true (op port high lo hi : Int) (hop : Word op) (h : ∀ p : Int, 0 ≤ p → p ≤ 65535 → passB op port high p = decide (lo ≤ p ∧ p ≤ hi)) (w : World) :
    Calls Try.prog 6 #[.agg #[.int .u8 op, .int .u16 port, .int .u16 high], .int .u64 lo, .int .u64 hi] w fun e w' => e = .returned (.bool true) ∧ Below w.heap.size w w' := by
  have H : Hid (∀ p : Int, 0 ≤ p → p ≤ 65535 → passB op port high p = decide (lo ≤ p ∧ p ≤ hi)) := h
  clear h
  go_enter Try.func6, Try.ntmps6
  go_wp2
  go_loopw [7] (fun i wr => ∃ k : Nat, k ≤ 65536 ∧ i = .int .u64 k ∧ Below (w.alloc (.cells #[.int .u8 op, .int .u16 port, .int .u16 high] 26)).heap.size (w.alloc (.cells #[.int .u8 op, .int .u16 port, .int .u16 high] 26)) wr) (fun i _ => 65536 - (intOf i).toNat)
  case atStart => exact ⟨0, by omega, rfl, Below.refl _ _⟩
  case round =>
    obtain ⟨k, hk, rfl, hb⟩ := hrel
    obtain ⟨hc, hf⟩ := bcell hb
    by_cases hlt : k ≤ 65535
    · by_cases h1 : lo ≤ (k : Int)
      · by_cases h2 : (k : Int) ≤ hi
        · go_wp2_with fail
          refine (passes_lit true op port high k hop (by rw [H.out _ (by omega) (by omega)]; simp; omega) _).mono ?_
          rintro e w1 ⟨rfl, hb1⟩
          go_wp2
          go_roundw
          case rel => exact ⟨k + 1, by omega, by go_num, hb.trans (hb1.mono hb.size)⟩
          case measure => simp [intOf]; omega
        · go_wp2_with fail
          refine (passes_lit false op port high k hop (by rw [H.out _ (by omega) (by omega)]; simp; omega) _).mono ?_
          rintro e w1 ⟨rfl, hb1⟩
          go_wp2
          go_roundw
          case rel => exact ⟨k + 1, by omega, by go_num, hb.trans (hb1.mono hb.size)⟩
          case measure => simp [intOf]; omega
      · go_wp2_with fail
        refine (passes_lit false op port high k hop (by rw [H.out _ (by omega) (by omega)]; simp; omega) _).mono ?_
        rintro e w1 ⟨rfl, hb1⟩
        go_wp2
        go_roundw
        case rel => exact ⟨k + 1, by omega, by go_num, hb.trans (hb1.mono hb.size)⟩
        case measure => simp [intOf]; omega
    · go_wp2
      go_ret
      exact ⟨rfl, ((Below.refl _ _).alloc (Nat.le_refl _) _).trans (hb.mono (by simp))⟩

set_option maxHeartbeats 400000 in
/-- zzPassesExactly, where at port q the test says otherwise than 'lo ≤ q ∧ q ≤ hi'. -/
theorem exact_false (op port high lo hi : Int) (hop : Word op) (q : Nat) (hq : q ≤ 65535) (h : passB op port high q = !decide (lo ≤ (q : Int) ∧ (q : Int) ≤ hi)) (w : World) :
    Calls Try.prog 6 #[.agg #[.int .u8 op, .int .u16 port, .int .u16 high], .int .u64 lo, .int .u64 hi] w fun e w' => e = .returned (.bool false) ∧ Below w.heap.size w w' := by
  have H : Hid (passB op port high q = !decide (lo ≤ (q : Int) ∧ (q : Int) ≤ hi)) := h
  clear h
  go_enter Try.func6, Try.ntmps6
  go_wp2
  go_loopw [7] (fun i wr => ∃ k : Nat, k ≤ q ∧ i = .int .u64 k ∧ Below (w.alloc (.cells #[.int .u8 op, .int .u16 port, .int .u16 high] 26)).heap.size (w.alloc (.cells #[.int .u8 op, .int .u16 port, .int .u16 high] 26)) wr) (fun i _ => 65536 - (intOf i).toNat)
  case atStart => exact ⟨0, by omega, rfl, Below.refl _ _⟩
  case round =>
    obtain ⟨k, hk, rfl, hb⟩ := hrel
    obtain ⟨hc, hf⟩ := bcell hb
    by_cases hm : passB op port high k = decide (lo ≤ (k : Int) ∧ (k : Int) ≤ hi)
    · have hkq : k < q := by
        by_cases e : k = q
        · subst e
          exact absurd (hm.symm.trans H.out) (ne_not _)
        · omega
      have HM : Hid (passB op port high k = decide (lo ≤ (k : Int) ∧ (k : Int) ≤ hi)) := hm
      clear hm
      by_cases h1 : lo ≤ (k : Int)
      · by_cases h2 : (k : Int) ≤ hi
        · go_wp2_with fail
          refine (passes_lit true op port high k hop (by rw [HM.out]; simp; omega) _).mono ?_
          rintro e w1 ⟨rfl, hb1⟩
          go_wp2
          go_roundw
          case rel => exact ⟨k + 1, by omega, by go_num, hb.trans (hb1.mono hb.size)⟩
          case measure => simp [intOf]; omega
        · go_wp2_with fail
          refine (passes_lit false op port high k hop (by rw [HM.out]; simp; omega) _).mono ?_
          rintro e w1 ⟨rfl, hb1⟩
          go_wp2
          go_roundw
          case rel => exact ⟨k + 1, by omega, by go_num, hb.trans (hb1.mono hb.size)⟩
          case measure => simp [intOf]; omega
      · go_wp2_with fail
        refine (passes_lit false op port high k hop (by rw [HM.out]; simp; omega) _).mono ?_
        rintro e w1 ⟨rfl, hb1⟩
        go_wp2
        go_roundw
        case rel => exact ⟨k + 1, by omega, by go_num, hb.trans (hb1.mono hb.size)⟩
        case measure => simp [intOf]; omega
    · have HM : Hid (passB op port high k = !decide (lo ≤ (k : Int) ∧ (k : Int) ≤ hi)) := by
        show _ = _
        revert hm
        cases passB op port high k <;> cases decide (lo ≤ (k : Int) ∧ (k : Int) ≤ hi) <;> simp
      clear hm
      by_cases h1 : lo ≤ (k : Int)
      · by_cases h2 : (k : Int) ≤ hi
        · go_wp2_with fail
          refine (passes_lit false op port high k hop (by rw [HM.out]; simp; omega) _).mono ?_
          rintro e w1 ⟨rfl, hb1⟩
          go_wp2
          go_ret
          exact ⟨rfl, (((Below.refl _ _).alloc (Nat.le_refl _) _).trans (hb.mono (by simp))).trans (hb1.mono (by have := hb.size; simp at this; omega))⟩
        · go_wp2_with fail
          refine (passes_lit true op port high k hop (by rw [HM.out]; simp; omega) _).mono ?_
          rintro e w1 ⟨rfl, hb1⟩
          go_wp2
          go_ret
          exact ⟨rfl, (((Below.refl _ _).alloc (Nat.le_refl _) _).trans (hb.mono (by simp))).trans (hb1.mono (by have := hb.size; simp at this; omega))⟩
      · go_wp2_with fail
        refine (passes_lit true op port high k hop (by rw [HM.out]; simp; omega) _).mono ?_
        rintro e w1 ⟨rfl, hb1⟩
        go_wp2
        go_ret
        exact ⟨rfl, (((Below.refl _ _).alloc (Nat.le_refl _) _).trans (hb.mono (by simp))).trans (hb1.mono (by have := hb.size; simp at this; omega))⟩

end Go.Proofs.Qxb6619299a
