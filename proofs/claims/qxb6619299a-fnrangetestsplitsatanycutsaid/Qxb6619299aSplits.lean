/-
  A PROOF OF 'Rows.FnRangeTestSplitsAtAnyCutSaid'.
-/
import Derived.Test.Qxb6619299aExact
import Derived.OpenShut
import Derived.ShutString
namespace Go.Proofs.Qxb6619299a.fnRangeTestSplitsAtAnyCut
open Go.ChangeShapes Go.WideShapes Go.ChangeAt Go.RowKit
open Go.ChangeMaps (open_string shut_string)
set_option linter.unusedVariables false

theorem own : ownKnob Try.prog.godebug = none := by kernel_rfl

/-- The three cells of a struct in a block of the call's own, behind whatever has come since. -/
theorem cells3 {W wr : World} {o p q : Int} (h : Below (W.alloc (.cells #[.int .u8 o, .int .u16 p, .int .u16 q] 26)).heap.size (W.alloc (.cells #[.int .u8 o, .int .u16 p, .int .u16 q] 26)) wr) :
    wr.cell? ⟨W.heap.size, 0, none⟩ = some (.int .u8 o) ∧ wr.cell? ⟨W.heap.size, 1, none⟩ = some (.int .u16 p) ∧ wr.cell? ⟨W.heap.size, 2, none⟩ = some (.int .u16 q) := by
  refine ⟨?_, ?_, ?_⟩
  all_goals (rw [h.cell (by simp)]; simp)

set_option maxHeartbeats 1000000 in
/-- The ways on which the law has something to say. -/
theorem walk_in (lo m hi : Int) (a0 : 0 ≤ lo) (a1 : lo ≤ m) (a2 : m < hi) (a3 : hi ≤ 65535) (w : World) :
    Calls Try.prog 4 #[.int .u64 lo, .int .u64 m, .int .u64 hi] w fun e w' => e = .returned (.bool true) ∧ Below w.heap.size w w' := by
  go_enter Try.func4, Try.ntmps4
  go_wp2_with fail
  refine (zzrange_any lo m a0 a1 (by omega) _).mono ?_
  rintro e w1 ⟨o1, p1, q1, r1', rfl, hb1⟩
  go_wp2_with fail
  refine (zzrange_any (m + 1) hi (by omega) (by omega) a3 _).mono ?_
  rintro e w2 ⟨o2, p2, q2, r2', rfl, hb2⟩
  go_wp2_with fail
  refine (zzrange_any lo hi a0 (by omega) a3 _).mono ?_
  rintro e w3 ⟨o3, p3, q3, r3', rfl, hb3⟩
  have r1 : Hid (RT lo m o1 p1 q1) := r1'
  have r2 : Hid (RT (m + 1) hi o2 p2 q2) := r2'
  have r3 : Hid (RT lo hi o3 p3 q3) := r3'
  clear r1' r2' r3'
  have g2 : Below (w2.alloc (.cells #[.int .u8 o2, .int .u16 p2, .int .u16 q2] 26)).heap.size (w2.alloc (.cells #[.int .u8 o2, .int .u16 p2, .int .u16 q2] 26)) (w3.alloc (.cells #[.int .u8 o3, .int .u16 p3, .int .u16 q3] 26)) := hb3.alloc hb3.size _
  have g1 : Below (w1.alloc (.cells #[.int .u8 o1, .int .u16 p1, .int .u16 q1] 26)).heap.size (w1.alloc (.cells #[.int .u8 o1, .int .u16 p1, .int .u16 q1] 26)) (w3.alloc (.cells #[.int .u8 o3, .int .u16 p3, .int .u16 q3] 26)) := (hb2.alloc hb2.size _).trans (g2.mono (by have := hb2.size; simp at this ⊢; omega))
  have g0 : Below w.heap.size w (w3.alloc (.cells #[.int .u8 o3, .int .u16 p3, .int .u16 q3] 26)) := (hb1.alloc hb1.size _).trans (g1.mono (by have := hb1.size; simp; omega))
  have s2 := g2.size
  have s1 := g1.size
  go_wp2
  go_loopw [10] (fun i wr => ∃ k : Nat, k ≤ 65536 ∧ i = .int .u64 k ∧ Below (w3.alloc (.cells #[.int .u8 o3, .int .u16 p3, .int .u16 q3] 26)).heap.size (w3.alloc (.cells #[.int .u8 o3, .int .u16 p3, .int .u16 q3] 26)) wr) (fun i _ => 65536 - (intOf i).toNat)
  case atStart => exact ⟨0, by omega, rfl, Below.refl _ _⟩
  case round =>
    obtain ⟨k, hk, rfl, hb⟩ := hrel
    by_cases hlt : k ≤ 65535
    · by_cases h1 : (k : Int) < lo
      · obtain ⟨x0, x1, x2⟩ := cells3 (g1.trans (hb.mono s1))
        go_wp2_with fail
        refine (passes_lit false o1 p1 q1 k (rt_word r1.out) (by rw [rt_pass r1.out (by omega) _ (by omega) (by omega)]; simp; omega) _).mono ?_
        rintro e w4 ⟨rfl, hb4⟩
        clear x0 x1 x2
        obtain ⟨x0, x1, x2⟩ := cells3 ((g2.trans (hb.mono s2)).trans (hb4.mono (Nat.le_trans s2 hb.size)))
        go_wp2_with fail
        refine (passes_lit false o2 p2 q2 k (rt_word r2.out) (by rw [rt_pass r2.out (by omega) _ (by omega) (by omega)]; simp; omega) _).mono ?_
        rintro e w5 ⟨rfl, hb5⟩
        clear x0 x1 x2
        obtain ⟨x0, x1, x2⟩ := cells3 ((hb.trans (hb4.mono hb.size)).trans (hb5.mono (Nat.le_trans hb.size hb4.size)))
        go_wp2_with fail
        refine (passes_lit false o3 p3 q3 k (rt_word r3.out) (by rw [rt_pass r3.out (by omega) _ (by omega) (by omega)]; simp; omega) _).mono ?_
        rintro e w6 ⟨rfl, hb6⟩
        clear x0 x1 x2
        go_wp2
        go_roundw
        case rel => exact ⟨k + 1, by omega, by go_num, ((hb.trans (hb4.mono hb.size)).trans (hb5.mono (Nat.le_trans hb.size hb4.size))).trans (hb6.mono (Nat.le_trans (Nat.le_trans hb.size hb4.size) hb5.size))⟩
        case measure => simp [intOf]; omega
      · by_cases h2 : (k : Int) ≤ m
        · have h3 : (k : Int) ≤ hi := by omega
          obtain ⟨x0, x1, x2⟩ := cells3 (g1.trans (hb.mono s1))
          go_wp2_with fail
          refine (passes_lit true o1 p1 q1 k (rt_word r1.out) (by rw [rt_pass r1.out (by omega) _ (by omega) (by omega)]; simp; omega) _).mono ?_
          rintro e w4 ⟨rfl, hb4⟩
          clear x0 x1 x2
          obtain ⟨x0, x1, x2⟩ := cells3 ((g2.trans (hb.mono s2)).trans (hb4.mono (Nat.le_trans s2 hb.size)))
          go_wp2_with fail
          refine (passes_lit false o2 p2 q2 k (rt_word r2.out) (by rw [rt_pass r2.out (by omega) _ (by omega) (by omega)]; simp; omega) _).mono ?_
          rintro e w5 ⟨rfl, hb5⟩
          clear x0 x1 x2
          obtain ⟨x0, x1, x2⟩ := cells3 ((hb.trans (hb4.mono hb.size)).trans (hb5.mono (Nat.le_trans hb.size hb4.size)))
          go_wp2_with fail
          refine (passes_lit true o3 p3 q3 k (rt_word r3.out) (by rw [rt_pass r3.out (by omega) _ (by omega) (by omega)]; simp; omega) _).mono ?_
          rintro e w6 ⟨rfl, hb6⟩
          clear x0 x1 x2
          go_wp2
          go_roundw
          case rel => exact ⟨k + 1, by omega, by go_num, ((hb.trans (hb4.mono hb.size)).trans (hb5.mono (Nat.le_trans hb.size hb4.size))).trans (hb6.mono (Nat.le_trans (Nat.le_trans hb.size hb4.size) hb5.size))⟩
          case measure => simp [intOf]; omega
        · by_cases h3 : (k : Int) ≤ hi
          · obtain ⟨x0, x1, x2⟩ := cells3 (g1.trans (hb.mono s1))
            go_wp2_with fail
            refine (passes_lit false o1 p1 q1 k (rt_word r1.out) (by rw [rt_pass r1.out (by omega) _ (by omega) (by omega)]; simp; omega) _).mono ?_
            rintro e w4 ⟨rfl, hb4⟩
            clear x0 x1 x2
            obtain ⟨x0, x1, x2⟩ := cells3 ((g2.trans (hb.mono s2)).trans (hb4.mono (Nat.le_trans s2 hb.size)))
            go_wp2_with fail
            refine (passes_lit true o2 p2 q2 k (rt_word r2.out) (by rw [rt_pass r2.out (by omega) _ (by omega) (by omega)]; simp; omega) _).mono ?_
            rintro e w5 ⟨rfl, hb5⟩
            clear x0 x1 x2
            obtain ⟨x0, x1, x2⟩ := cells3 ((hb.trans (hb4.mono hb.size)).trans (hb5.mono (Nat.le_trans hb.size hb4.size)))
            go_wp2_with fail
            refine (passes_lit true o3 p3 q3 k (rt_word r3.out) (by rw [rt_pass r3.out (by omega) _ (by omega) (by omega)]; simp; omega) _).mono ?_
            rintro e w6 ⟨rfl, hb6⟩
            clear x0 x1 x2
            go_wp2
            go_roundw
            case rel => exact ⟨k + 1, by omega, by go_num, ((hb.trans (hb4.mono hb.size)).trans (hb5.mono (Nat.le_trans hb.size hb4.size))).trans (hb6.mono (Nat.le_trans (Nat.le_trans hb.size hb4.size) hb5.size))⟩
            case measure => simp [intOf]; omega
          · obtain ⟨x0, x1, x2⟩ := cells3 (g1.trans (hb.mono s1))
            go_wp2_with fail
            refine (passes_lit false o1 p1 q1 k (rt_word r1.out) (by rw [rt_pass r1.out (by omega) _ (by omega) (by omega)]; simp; omega) _).mono ?_
            rintro e w4 ⟨rfl, hb4⟩
            clear x0 x1 x2
            obtain ⟨x0, x1, x2⟩ := cells3 ((g2.trans (hb.mono s2)).trans (hb4.mono (Nat.le_trans s2 hb.size)))
            go_wp2_with fail
            refine (passes_lit false o2 p2 q2 k (rt_word r2.out) (by rw [rt_pass r2.out (by omega) _ (by omega) (by omega)]; simp; omega) _).mono ?_
            rintro e w5 ⟨rfl, hb5⟩
            clear x0 x1 x2
            obtain ⟨x0, x1, x2⟩ := cells3 ((hb.trans (hb4.mono hb.size)).trans (hb5.mono (Nat.le_trans hb.size hb4.size)))
            go_wp2_with fail
            refine (passes_lit false o3 p3 q3 k (rt_word r3.out) (by rw [rt_pass r3.out (by omega) _ (by omega) (by omega)]; simp; omega) _).mono ?_
            rintro e w6 ⟨rfl, hb6⟩
            clear x0 x1 x2
            go_wp2
            go_roundw
            case rel => exact ⟨k + 1, by omega, by go_num, ((hb.trans (hb4.mono hb.size)).trans (hb5.mono (Nat.le_trans hb.size hb4.size))).trans (hb6.mono (Nat.le_trans (Nat.le_trans hb.size hb4.size) hb5.size))⟩
            case measure => simp [intOf]; omega
    · go_wp2
      go_ret
      exact ⟨rfl, g0.trans (hb.mono g0.size)⟩

theorem walk (a0 : Int) (a1 : Int) (a2 : Int) (w0 : (Lit.int .u64 a0).wf = true) (w1 : (Lit.int .u64 a1).wf = true) (w2 : (Lit.int .u64 a2).wf = true) (w : World) :
    Calls Try.prog 4 #[.int .u64 a0, .int .u64 a1, .int .u64 a2] w fun e w' => e = .returned (.bool true) ∧ Below w.heap.size w w' := by
  have b0 : 0 ≤ a0 := (bounds_u64 w0).1
  by_cases h1 : 65535 < a2
  · go_enter Try.func4, Try.ntmps4
    go_wp2
    go_ret
    exact ⟨rfl, Below.refl _ _⟩
  · by_cases h2 : a1 < a0
    · go_enter Try.func4, Try.ntmps4
      go_wp2
      go_ret
      exact ⟨rfl, Below.refl _ _⟩
    · by_cases h3 : a2 ≤ a1
      · go_enter Try.func4, Try.ntmps4
        go_wp2
        go_ret
        exact ⟨rfl, Below.refl _ _⟩
      · exact walk_in a0 a1 a2 b0 (by omega) (by omega) (by omega) w

/-! ### THE ROW's STEP: WRITTEN OUT: LEAVE IT -/
set_option maxRecDepth 100000 in
theorem lifted (os : Os) (started : os.Started) (H : Type) (enc : TypeId × Value → H) :
    ReturnsInHanded {} Try.checked os 4 .any (Rows.fnRangeTestSplitsAtAnyCutSpec.pre6 enc Try.prog Try.f4 Rows.fnRangeTestSplitsAtAnyCutRow.domain false) (Rows.fnRangeTestSplitsAtAnyCutSpec.post enc Try.prog Try.f4 false true false false) := by
  refine returnsInHanded_of_change (C := Try.checked) own started (by kernel_rfl) Try.func4
    (ChangeSpec.witness6 (enc := enc) (C := Try.checked) false ⟨#[], #[.int .u64 0, .int .u64 0, .int .u64 0], []⟩ 8 (by kernel_rfl) (by kernel_rfl) (by kernel_rfl) (by kernel_rfl)) ?_
  intro W base args ds gs before hval0 hW hcnd _
  have hval : ∀ (j : Nat) t v, Try.f4.params[j]? = some t → args[j]? = some v → Value.okWide Try.prog W .any base t v := hval0
  have hW' := hW
  obtain ⟨p, q, hA0, hV, rfl, hfz, hnd⟩ := hW
  have hA : DataW.TrodAll enc Try.prog W 0 (fun _ => true) true Try.f4.params.toList args.toList ds p := hA0
  rw [Try.params4] at hA hval
  obtain ⟨v0, vs0, d0, ds0, p0, q0, hargs, rfl, rfl, h0, r0⟩ := trodAll_cons hA
  obtain ⟨v1, vs1, d1, ds1, p1, q1, rfl, rfl, rfl, h1, r1⟩ := trodAll_cons r0
  obtain ⟨v2, vs2, d2, ds2, p2, q2, rfl, rfl, rfl, h2, r2⟩ := trodAll_cons r1
  obtain ⟨rfl, rfl, rfl⟩ := trodAll_nil r2
  obtain rfl : args = #[v0, v1, v2] := by cases args; simp_all
  obtain ⟨rfl, rfl⟩ := trodVars_none hV
  obtain ⟨a0, rfl, rfl, rfl, w0⟩ := open_int Try.underlying22 (hval 0 22 v0 rfl rfl) h0
  obtain ⟨a1, rfl, rfl, rfl, w1⟩ := open_int Try.underlying22 (hval 1 22 v1 rfl rfl) h1
  obtain ⟨a2, rfl, rfl, rfl, w2⟩ := open_int Try.underlying22 (hval 2 22 v2 rfl rfl) h2
  clear hA0 hval0
  simp only [List.append_nil] at hW'
  refine (walk a0 a1 a2 w0 w1 w2 W).mono fun e W' ⟨he, hg⟩ => ?_
  subst he
  exact ⟨_, rfl, _, _, _, [], [], [], hW', (trodAll_cons_mk (shut_bool Try.underlying4 _) trodAll_mk0), (trodAll_cons_mk (shut_int Try.underlying22 w0) (trodAll_cons_mk (shut_int Try.underlying22 w1) (trodAll_cons_mk (shut_int Try.underlying22 w2) trodAll_mk0))), rfl, hg.frame _, fun h => by cases h⟩

theorem over : Rows.fnRangeTestSplitsAtAnyCutRow.holds Try.pinned (OpenSpec.ofChange Rows.fnRangeTestSplitsAtAnyCutSpec) :=
  OpenClaim.holds_of_wide 4 Try.f4 rfl rfl rfl rfl rfl rfl rfl ⟨rfl, rfl, rfl, rfl, rfl⟩ rfl rfl rfl rfl rfl (by kernel_rfl) Try.func4 (by kernel_rfl)
    (of_decide_eq_true (by kernel_rfl)) (by unfold Func.isWrapper; first | (rw [if_pos (by decide +kernel)]; kernel_rfl) | (rw [if_neg (by decide +kernel)]; exact ⟨rfl, rfl⟩))
    (fun os started H enc _ => lifted os started H enc)

/-- ████ THE STATEMENT ████ -/
theorem proved : Rows.FnRangeTestSplitsAtAnyCutSaid :=
  over
end Go.Proofs.Qxb6619299a.fnRangeTestSplitsAtAnyCut
