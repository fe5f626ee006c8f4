/-
  A PROOF OF 'Rows.FnRangeTestIsPlainestExactTestSaid'.
-/
import Derived.Test.Qxb6619299aExact
import Derived.OpenShut
import Derived.ShutString
namespace Go.Proofs.Qxb6619299a.fnRangeTestIsPlainestExactTest
open Go.ChangeShapes Go.WideShapes Go.ChangeAt Go.RowKit
open Go.ChangeMaps (open_string shut_string)
set_option linter.unusedVariables false

theorem own : ownKnob Try.prog.godebug = none := by kernel_rfl

/-- The three cells of a struct in a block of the call's own, behind whatever has come since. -/
theorem cells3 {W wr : World} {o p q : Int} (h : Below (W.alloc (.cells #[.int .u8 o, .int .u16 p, .int .u16 q] 26)).heap.size (W.alloc (.cells #[.int .u8 o, .int .u16 p, .int .u16 q] 26)) wr) :
    wr.cell? ⟨W.heap.size, 0, none⟩ = some (.int .u8 o) ∧ wr.cell? ⟨W.heap.size, 1, none⟩ = some (.int .u16 p) ∧ wr.cell? ⟨W.heap.size, 2, none⟩ = some (.int .u16 q) := by
  refine ⟨?_, ?_, ?_⟩
  all_goals (rw [h.cell (by simp)]; simp)

/-- zzPassesExactly says no: the port at which it does, as an Int. -/
theorem exact_falseZ (op port high lo hi q : Int) (hop : Word op) (q0 : 0 ≤ q) (hq : q ≤ 65535) (h : passB op port high q = !decide (lo ≤ q ∧ q ≤ hi)) (w : World) :
    Calls Try.prog 6 #[.agg #[.int .u8 op, .int .u16 port, .int .u16 high], .int .u64 lo, .int .u64 hi] w fun e w' => e = .returned (.bool false) ∧ Below w.heap.size w w' := by
  obtain ⟨n, rfl⟩ := Int.eq_ofNat_of_zero_le q0
  exact exact_false op port high lo hi hop n (by omega) h w

set_option maxHeartbeats 4000000 in
/-- The ways on which the law has something to say. -/
theorem walk_in (lo hi : Int) (a0 : 0 ≤ lo) (a1 : lo ≤ hi) (a3 : hi ≤ 65535) (w : World) :
    Calls Try.prog 3 #[.int .u64 lo, .int .u64 hi] w fun e w' => e = .returned (.bool true) ∧ Below w.heap.size w w' := by
  go_enter Try.func3, Try.ntmps3
  go_wp2_with fail
  refine (zzrange_any lo hi a0 a1 a3 _).mono ?_
  rintro e w1 ⟨op, port, high, rt, rfl, hb1⟩
  go_wp2_with fail
  refine (exact_true op port high lo hi (rt_word rt) (rt_pass rt a1) _).mono ?_
  rintro e w2 ⟨rfl, g2⟩
  obtain ⟨x0, x1, x2⟩ := cells3 g2
  have g0 : Below w.heap.size w w2 := (hb1.alloc hb1.size _).trans (g2.mono (by have := hb1.size; simp; omega))
  unfold RT at rt
  rcases rt with ⟨a, b, rfl, c, d⟩ | ⟨a, b, rfl, c, d⟩ | ⟨a, b, b2, rfl, c, d⟩ | ⟨a, b, b2, rfl, c, d⟩ | ⟨a, b, b2, rfl, c, d⟩
  · subst lo hi port high
    go_wp2_with fail
    refine (rank_any 0 (by unfold Word; omega) _).mono ?_
    rintro e w3 ⟨rfl, rfl⟩
    go_wp2
    go_ret
    exact ⟨rfl, g0⟩
  · subst hi port high
    by_cases z : lo = 0
    · subst lo
      go_wp2_with fail
      refine (rank_any 1 (by unfold Word; omega) _).mono ?_
      rintro e w3 ⟨rfl, rfl⟩
      go_wp2_with fail
      refine (exact_falseZ 0 0 0 0 0 65535 (by unfold Word; omega) (by omega) (by omega) (by first | decide | (rw [Bool.eq_iff_iff]; simp [passB]; omega) | (simp [passB]; omega)) _).mono ?_
      rintro e w4 ⟨rfl, hb4⟩
      clear x0 x1 x2
      obtain ⟨x0, x1, x2⟩ := cells3 (g2.trans (hb4.mono g2.size))
      have g4 := g2.trans (hb4.mono g2.size)
      have k4 := g0.trans (hb4.mono g0.size)
      go_wp2
      go_ret
      exact ⟨rfl, k4⟩
    · have z2 : 0 < lo := by omega
      clear z
      go_wp2_with fail
      refine (rank_any 1 (by unfold Word; omega) _).mono ?_
      rintro e w3 ⟨rfl, rfl⟩
      go_wp2_with fail
      refine (exact_falseZ 0 0 0 lo lo 0 (by unfold Word; omega) (by omega) (by omega) (by first | decide | (rw [Bool.eq_iff_iff]; simp [passB]; omega) | (simp [passB]; omega)) _).mono ?_
      rintro e w4 ⟨rfl, hb4⟩
      clear x0 x1 x2
      obtain ⟨x0, x1, x2⟩ := cells3 (g2.trans (hb4.mono g2.size))
      have g4 := g2.trans (hb4.mono g2.size)
      have k4 := g0.trans (hb4.mono g0.size)
      go_wp2
      go_ret
      exact ⟨rfl, k4⟩
  · subst lo port high
    go_wp2_with fail
    refine (rank_any 3 (by unfold Word; omega) _).mono ?_
    rintro e w3 ⟨rfl, rfl⟩
    go_wp2_with fail
    refine (exact_falseZ 0 0 0 0 hi 65535 (by unfold Word; omega) (by omega) (by omega) (by first | decide | (rw [Bool.eq_iff_iff]; simp [passB]; omega) | (simp [passB]; omega)) _).mono ?_
    rintro e w4 ⟨rfl, hb4⟩
    clear x0 x1 x2
    obtain ⟨x0, x1, x2⟩ := cells3 (g2.trans (hb4.mono g2.size))
    have g4 := g2.trans (hb4.mono g2.size)
    have k4 := g0.trans (hb4.mono g0.size)
    go_wp2_with fail
    refine (exact_falseZ 1 0 0 0 hi hi (by unfold Word; omega) (by omega) (by omega) (by first | decide | (rw [Bool.eq_iff_iff]; simp [passB]; omega) | (simp [passB]; omega)) _).mono ?_
    rintro e w5 ⟨rfl, hb5⟩
    clear x0 x1 x2
    obtain ⟨x0, x1, x2⟩ := cells3 (g4.trans (hb5.mono g4.size))
    have g5 := g4.trans (hb5.mono g4.size)
    have k5 := k4.trans (hb5.mono k4.size)
    go_wp2
    go_ret
    exact ⟨rfl, k5⟩
  · subst hi port high
    go_wp2_with fail
    refine (rank_any 4 (by unfold Word; omega) _).mono ?_
    rintro e w3 ⟨rfl, rfl⟩
    go_wp2_with fail
    refine (exact_falseZ 0 0 0 lo 65535 0 (by unfold Word; omega) (by omega) (by omega) (by first | decide | (rw [Bool.eq_iff_iff]; simp [passB]; omega) | (simp [passB]; omega)) _).mono ?_
    rintro e w4 ⟨rfl, hb4⟩
    clear x0 x1 x2
    obtain ⟨x0, x1, x2⟩ := cells3 (g2.trans (hb4.mono g2.size))
    have g4 := g2.trans (hb4.mono g2.size)
    have k4 := g0.trans (hb4.mono g0.size)
    go_wp2_with fail
    refine (exact_falseZ 1 lo 0 lo 65535 65535 (by unfold Word; omega) (by omega) (by omega) (by first | decide | (rw [Bool.eq_iff_iff]; simp [passB]; omega) | (simp [passB]; omega)) _).mono ?_
    rintro e w5 ⟨rfl, hb5⟩
    clear x0 x1 x2
    obtain ⟨x0, x1, x2⟩ := cells3 (g4.trans (hb5.mono g4.size))
    have g5 := g4.trans (hb5.mono g4.size)
    have k5 := k4.trans (hb5.mono k4.size)
    go_wp2
    go_ret
    exact ⟨rfl, k5⟩
  · subst port high
    go_wp2_with fail
    refine (rank_any 7 (by unfold Word; omega) _).mono ?_
    rintro e w3 ⟨rfl, rfl⟩
    go_wp2_with fail
    refine (exact_falseZ 0 0 0 lo hi 0 (by unfold Word; omega) (by omega) (by omega) (by first | decide | (rw [Bool.eq_iff_iff]; simp [passB]; omega) | (simp [passB]; omega)) _).mono ?_
    rintro e w4 ⟨rfl, hb4⟩
    clear x0 x1 x2
    obtain ⟨x0, x1, x2⟩ := cells3 (g2.trans (hb4.mono g2.size))
    have g4 := g2.trans (hb4.mono g2.size)
    have k4 := g0.trans (hb4.mono g0.size)
    go_wp2_with fail
    refine (exact_falseZ 1 lo 0 lo hi hi (by unfold Word; omega) (by omega) (by omega) (by first | decide | (rw [Bool.eq_iff_iff]; simp [passB]; omega) | (simp [passB]; omega)) _).mono ?_
    rintro e w5 ⟨rfl, hb5⟩
    clear x0 x1 x2
    obtain ⟨x0, x1, x2⟩ := cells3 (g4.trans (hb5.mono g4.size))
    have g5 := g4.trans (hb5.mono g4.size)
    have k5 := k4.trans (hb5.mono k4.size)
    go_wp2_with fail
    refine (exact_falseZ 3 (hi + 1) 0 lo hi 0 (by unfold Word; omega) (by omega) (by omega) (by first | decide | (rw [Bool.eq_iff_iff]; simp [passB]; omega) | (simp [passB]; omega)) _).mono ?_
    rintro e w6 ⟨rfl, hb6⟩
    clear x0 x1 x2
    obtain ⟨x0, x1, x2⟩ := cells3 (g5.trans (hb6.mono g5.size))
    have g6 := g5.trans (hb6.mono g5.size)
    have k6 := k5.trans (hb6.mono k5.size)
    go_wp2_with fail
    refine (exact_falseZ 4 (lo - 1) 0 lo hi 65535 (by unfold Word; omega) (by omega) (by omega) (by first | decide | (rw [Bool.eq_iff_iff]; simp [passB]; omega) | (simp [passB]; omega)) _).mono ?_
    rintro e w7 ⟨rfl, hb7⟩
    clear x0 x1 x2
    obtain ⟨x0, x1, x2⟩ := cells3 (g6.trans (hb7.mono g6.size))
    have g7 := g6.trans (hb7.mono g6.size)
    have k7 := k6.trans (hb7.mono k6.size)
    go_wp2
    go_ret
    exact ⟨rfl, k7⟩

theorem walk (a0 : Int) (a1 : Int) (w0 : (Lit.int .u64 a0).wf = true) (w1 : (Lit.int .u64 a1).wf = true) (w : World) :
    Calls Try.prog 3 #[.int .u64 a0, .int .u64 a1] w fun e w' => e = .returned (.bool true) ∧ Below w.heap.size w w' := by
  have b0 : 0 ≤ a0 := (bounds_u64 w0).1
  by_cases h1 : 65535 < a1
  · go_enter Try.func3, Try.ntmps3
    go_wp2
    go_ret
    exact ⟨rfl, Below.refl _ _⟩
  · by_cases h2 : a1 < a0
    · go_enter Try.func3, Try.ntmps3
      go_wp2
      go_ret
      exact ⟨rfl, Below.refl _ _⟩
    · exact walk_in a0 a1 b0 (by omega) (by omega) w

/-! ### THE ROW's STEP: WRITTEN OUT: LEAVE IT -/
set_option maxRecDepth 100000 in
theorem lifted (os : Os) (started : os.Started) (H : Type) (enc : TypeId × Value → H) :
    ReturnsInHanded {} Try.checked os 3 .any (Rows.fnRangeTestIsPlainestExactTestSpec.pre6 enc Try.prog Try.f3 Rows.fnRangeTestIsPlainestExactTestRow.domain false) (Rows.fnRangeTestIsPlainestExactTestSpec.post enc Try.prog Try.f3 false true false false) := by
  refine returnsInHanded_of_change (C := Try.checked) own started (by kernel_rfl) Try.func3
    (ChangeSpec.witness6 (enc := enc) (C := Try.checked) false ⟨#[], #[.int .u64 0, .int .u64 0], []⟩ 8 (by kernel_rfl) (by kernel_rfl) (by kernel_rfl) (by kernel_rfl)) ?_
  intro W base args ds gs before hval0 hW hcnd _
  have hval : ∀ (j : Nat) t v, Try.f3.params[j]? = some t → args[j]? = some v → Value.okWide Try.prog W .any base t v := hval0
  have hW' := hW
  obtain ⟨p, q, hA0, hV, rfl, hfz, hnd⟩ := hW
  have hA : DataW.TrodAll enc Try.prog W 0 (fun _ => true) true Try.f3.params.toList args.toList ds p := hA0
  rw [Try.params3] at hA hval
  obtain ⟨v0, vs0, d0, ds0, p0, q0, hargs, rfl, rfl, h0, r0⟩ := trodAll_cons hA
  obtain ⟨v1, vs1, d1, ds1, p1, q1, rfl, rfl, rfl, h1, r1⟩ := trodAll_cons r0
  obtain ⟨rfl, rfl, rfl⟩ := trodAll_nil r1
  obtain rfl : args = #[v0, v1] := by cases args; simp_all
  obtain ⟨rfl, rfl⟩ := trodVars_none hV
  obtain ⟨a0, rfl, rfl, rfl, w0⟩ := open_int Try.underlying22 (hval 0 22 v0 rfl rfl) h0
  obtain ⟨a1, rfl, rfl, rfl, w1⟩ := open_int Try.underlying22 (hval 1 22 v1 rfl rfl) h1
  clear hA0 hval0
  simp only [List.append_nil] at hW'
  refine (walk a0 a1 w0 w1 W).mono fun e W' ⟨he, hg⟩ => ?_
  subst he
  exact ⟨_, rfl, _, _, _, [], [], [], hW', (trodAll_cons_mk (shut_bool Try.underlying4 _) trodAll_mk0), (trodAll_cons_mk (shut_int Try.underlying22 w0) (trodAll_cons_mk (shut_int Try.underlying22 w1) trodAll_mk0)), rfl, hg.frame _, fun h => by cases h⟩

theorem over : Rows.fnRangeTestIsPlainestExactTestRow.holds Try.pinned (OpenSpec.ofChange Rows.fnRangeTestIsPlainestExactTestSpec) :=
  OpenClaim.holds_of_wide 3 Try.f3 rfl rfl rfl rfl rfl rfl rfl ⟨rfl, rfl, rfl, rfl, rfl⟩ rfl rfl rfl rfl rfl (by kernel_rfl) Try.func3 (by kernel_rfl)
    (of_decide_eq_true (by kernel_rfl)) (by unfold Func.isWrapper; first | (rw [if_pos (by decide +kernel)]; kernel_rfl) | (rw [if_neg (by decide +kernel)]; exact ⟨rfl, rfl⟩))
    (fun os started H enc _ => lifted os started H enc)

/-- ████ THE STATEMENT ████ -/
theorem proved : Rows.FnRangeTestIsPlainestExactTestSaid :=
  over
end Go.Proofs.Qxb6619299a.fnRangeTestIsPlainestExactTest
