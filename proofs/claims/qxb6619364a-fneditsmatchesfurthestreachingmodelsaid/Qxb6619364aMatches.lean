/-
  A PROOF OF 'Rows.FnEditsMatchesFurthestReachingModelSaid'.
-/
import Derived.Test.Qxb6619364aFar
import Derived.OpenShut
import Derived.ShutString
namespace Go.Proofs.Qxb6619364a.fnEditsMatchesFurthestReachingModel
open Go.ChangeShapes Go.WideShapes Go.ChangeAt Go.RowKit
open Go.ChangeMaps (open_string shut_string)
open Lev Far
set_option linter.unusedVariables false

theorem own : ownKnob Try.prog.godebug = none := by kernel_rfl

theorem since_mono {B B' : Nat} {w w' : World} (h : w.Since B' w') (hb : B ≤ B') : w.Since B w' :=
  ⟨h.os, h.tape, h.output, h.size, fun k hk => h.block k (Nat.lt_of_lt_of_le hk hb)⟩
theorem src_row {w : World} {b k : Nat} {l : List Int} (h : w.rowIs b 21 k (fun i => .int .i32 (fn l i))) (hk : l.length ≤ k) : Src w l (some ⟨b, 0, none⟩) :=
  fun i hi => ⟨b, rfl, h.lt, h.cell (by omega)⟩

/-- zzBytes answers, and leaves the world as it was. -/
theorem bytes_any (a b : ByteArray) (w : World) :
    Calls Try.prog 6 #[.string a, .string b] w fun e w' => ∃ v, e = .returned (.bool v) ∧ w' = w ∧ (a.size ≤ 4096 → b.size ≤ 4096 → v = true) := by
  by_cases h1 : 1048576 < a.size
  · go_enter Try.func6, Try.ntmps6
    go_wp2
    go_ret
    exact ⟨_, rfl, rfl, fun _ _ => by omega⟩
  · by_cases h2 : 1048576 < b.size
    · go_enter Try.func6, Try.ntmps6
      go_wp2
      go_ret
      exact ⟨_, rfl, rfl, fun _ _ => by omega⟩
    · by_cases h3 : 1048576 < a.size + b.size
      · go_enter Try.func6, Try.ntmps6
        go_wp2
        go_ret
        exact ⟨_, rfl, rfl, fun _ _ => by omega⟩
      · go_enter Try.func6, Try.ntmps6
        go_wp2
        go_ret
        exact ⟨_, rfl, rfl, fun _ _ => rfl⟩

/-- The two rows of runes that the function makes. -/
theorem pair (w V : World) (a b : ByteArray) :
    w.Since w.heap.size ((w.alloc (runeObj w a)).alloc (runeObj V b)).drew.drew ∧ Src ((w.alloc (runeObj w a)).alloc (runeObj V b)).drew.drew (runes a) (some ⟨w.heap.size, 0, none⟩) ∧
      Src ((w.alloc (runeObj w a)).alloc (runeObj V b)).drew.drew (runes b) (some ⟨w.heap.size + 1, 0, none⟩) := by
  have r1 := rune_row w w a
  have r2 := rune_row V (w.alloc (runeObj w a)) b
  simp at r1 r2
  exact ⟨(((World.Since.refl _ _).alloc (by simp) _).alloc (by simp) _).drew.drew, src_row (r1.alloc _).drew.drew (cap_ge _ _), src_row r2.drew.drew (cap_ge _ _)⟩

set_option maxHeartbeats 2000000 in
theorem walk_in (a b : ByteArray) (ha : a.size ≤ 4096) (hb : b.size ≤ 4096) (w : World) :
    Calls Try.prog 3 #[.string a, .string b] w fun e w' => e = .returned (.bool true) ∧ w.Since w.heap.size w' := by
  have hc1 := conv_law a (by omega)
  have hc2 := conv_law b (by omega)
  have la := runes_length a
  have lb := runes_length b
  go_enter Try.func3, Try.ntmps3
  go_wp2_with fail
  refine (bytes_any a b _).mono ?_
  rintro e w1 ⟨v, rfl, rfl, hv⟩
  obtain rfl := hv ha hb
  clear hv
  go_wp2_with fail
  refine (zzedits_any a b (by omega) (by omega) _).mono ?_
  rintro e w2 ⟨rfl, h2⟩
  go_wp2_with fail
  refine (far_any (runes a) (runes b) _ _ _ _ _ (by omega) (by omega) (pair w2 _ a b).2.1 (pair w2 _ a b).2.2).mono ?_
  rintro e w3 ⟨rfl, h3⟩
  have p := (pair w2 (w2.alloc (runeObj w2 a)).drew a b).1
  have k2 := h2.trans (since_mono p h2.size)
  have k3 := k2.trans (since_mono h3 k2.size)
  clear h2 h3 p k2 hc1 hc2
  go_wp2
  go_ret
  exact ⟨rfl, k3⟩

theorem walk (a b : ByteArray) (w : World) :
    Calls Try.prog 3 #[.string a, .string b] w fun e w' => e = .returned (.bool true) ∧ w.Since w.heap.size w' := by
  by_cases h1 : 4096 < a.size
  · go_enter Try.func3, Try.ntmps3
    go_wp2_with fail
    refine (bytes_any a b _).mono ?_
    rintro e w1 ⟨v, rfl, rfl, hv⟩
    clear hv
    cases v
    all_goals
      go_wp2
      go_ret
      exact ⟨rfl, World.Since.refl _ _⟩
  · by_cases h2 : 4096 < b.size
    · go_enter Try.func3, Try.ntmps3
      go_wp2_with fail
      refine (bytes_any a b _).mono ?_
      rintro e w1 ⟨v, rfl, rfl, hv⟩
      clear hv
      cases v
      all_goals
        go_wp2
        go_ret
        exact ⟨rfl, World.Since.refl _ _⟩
    · exact walk_in a b (by omega) (by omega) w

/-! ### THE ROW's STEP: WRITTEN OUT: LEAVE IT -/
set_option maxRecDepth 100000 in
theorem lifted (os : Os) (started : os.Started) (H : Type) (enc : TypeId × Value → H) :
    ReturnsInHanded {} Try.checked os 3 .any (Rows.fnEditsMatchesFurthestReachingModelSpec.pre6 enc Try.prog Try.f3 Rows.fnEditsMatchesFurthestReachingModelRow.domain false) (Rows.fnEditsMatchesFurthestReachingModelSpec.post enc Try.prog Try.f3 false true false false) := by
  refine returnsInHanded_of_change (C := Try.checked) own started (by kernel_rfl) Try.func3
    (ChangeSpec.witness6 (enc := enc) (C := Try.checked) false ⟨#[], #[.string ByteArray.empty, .string ByteArray.empty], []⟩ 8 (by kernel_rfl) (by kernel_rfl) (by kernel_rfl) (by kernel_rfl)) ?_
  intro W base args ds gs before hval0 hW hcnd _
  have hval : ∀ (j : Nat) t v, Try.f3.params[j]? = some t → args[j]? = some v → Value.okWide Try.prog W .any base t v := hval0
  have hW' := hW
  obtain ⟨p, q, hA0, hV, rfl, hfz, hnd⟩ := hW
  have hA : DataW.TrodAll enc Try.prog W 0 (fun _ => true) true Try.f3.params.toList args.toList ds p := hA0
  rw [Try.params3] at hA hval
  obtain ⟨v0, vs0, d0, ds0, p0, q0, hargs, rfl, rfl, h0, r0⟩ := trodAll_cons hA
  obtain ⟨v1, vs1, d1, ds1, p1, q1, rfl, rfl, rfl, h1, r1⟩ := trodAll_cons r0
  obtain ⟨rfl, rfl, rfl⟩ := trodAll_nil r1
  obtain rfl : args = #[v0, v1] := by cases args; simp_all
  obtain ⟨rfl, rfl⟩ := trodVars_none hV
  obtain ⟨a0, rfl, rfl, rfl, w0⟩ := open_string Try.underlying9 (hval 0 9 v0 rfl rfl) h0
  obtain ⟨a1, rfl, rfl, rfl, w1⟩ := open_string Try.underlying9 (hval 1 9 v1 rfl rfl) h1
  clear hA0 hval0
  simp only [List.append_nil] at hW'
  refine (walk a0 a1 W).mono fun e W' ⟨he, hg⟩ => ?_
  subst he
  exact ⟨_, rfl, _, _, _, [], [], [], hW', (trodAll_cons_mk (shut_bool Try.underlying4 _) trodAll_mk0), (trodAll_cons_mk (shut_string Try.underlying9 w0) (trodAll_cons_mk (shut_string Try.underlying9 w1) trodAll_mk0)), rfl, hg.frame _, fun h => by cases h⟩

theorem over : Rows.fnEditsMatchesFurthestReachingModelRow.holds Try.pinned (OpenSpec.ofChange Rows.fnEditsMatchesFurthestReachingModelSpec) :=
  OpenClaim.holds_of_wide 3 Try.f3 rfl rfl rfl rfl rfl rfl rfl ⟨rfl, rfl, rfl, rfl, rfl⟩ rfl rfl rfl rfl rfl (by kernel_rfl) Try.func3 (by kernel_rfl)
    (of_decide_eq_true (by kernel_rfl)) (by unfold Func.isWrapper; first | (rw [if_pos (by decide +kernel)]; kernel_rfl) | (rw [if_neg (by decide +kernel)]; exact ⟨rfl, rfl⟩))
    (fun os started H enc _ => lifted os started H enc)

/-- ████ THE STATEMENT ████ -/
theorem proved : Rows.FnEditsMatchesFurthestReachingModelSaid :=
  over
end Go.Proofs.Qxb6619364a.fnEditsMatchesFurthestReachingModel
