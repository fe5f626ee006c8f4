/-
  A PROOF OF 'Rows.FnMarkdownTextSpaceJoinSaid'.
-/
import Derived.Test.Qxb6619422aCount
import Derived.OpenShut
import Derived.ShutString
namespace Go.Proofs.Qxb6619422a.fnMarkdownTextSpaceJoin
open Go.ChangeShapes Go.WideShapes Go.ChangeAt Go.RowKit
open Go.ChangeMaps (open_string shut_string)
set_option linter.unusedVariables false

theorem own : ownKnob Try.prog.godebug = none := by kernel_rfl

theorem text_lit (r s : ByteArray) (hr : outS s = r) (hs : s.size ≤ 200000) (w : World) :
    Calls Try.prog 6 #[.string s] w fun e w' => e = .returned (.string r) ∧ Below w.heap.size w w' := by
  subst hr; exact zztext_any s hs w
theorem count_lit (v : Nat) (s : ByteArray) (hv : cnt (by' s) s.size = v) (hs : s.size ≤ 1000000) (w : World) :
    Calls Try.prog 9 #[.string s] w fun e w' => e = .returned (.int .i64 v) ∧ w' = w := by
  subst hv; exact count_any s hs w

theorem by_append (s t : ByteArray) : by' (s ++ t) = by' s ++ by' t := by simp [by']
/-- The plain law over strings. -/
theorem join_law (a b : ByteArray) : outS (a ++ ⟨#[32]⟩ ++ b) = outS a ++ ⟨#[32]⟩ ++ outS b := by
  apply by_inj
  have e : by' (⟨#[32]⟩ : ByteArray) = [32] := rfl
  rw [by_out, by_append, by_append, by_append, by_append, by_out, by_out, e, List.append_assoc, List.append_assoc]
  exact esc_join (by' a) (by' b)
theorem out_size (a : ByteArray) : (outS a).size = a.size + cnt (by' a) a.size := by
  rw [size_by, by_out, esc, escTo_length, by_length]

/-- zzBytes answers, and leaves the world as it was. -/
theorem bytes_any (a b : ByteArray) (w : World) :
    Calls Try.prog 8 #[.string a, .string b] w fun e w' => ∃ v, e = .returned (.bool v) ∧ w' = w := by
  by_cases h1 : 1048576 < a.size
  · go_enter Try.func8, Try.ntmps8
    go_wp2
    go_ret
    exact ⟨_, rfl, rfl⟩
  · by_cases h2 : 1048576 < b.size
    · go_enter Try.func8, Try.ntmps8
      go_wp2
      go_ret
      exact ⟨_, rfl, rfl⟩
    · by_cases h3 : 1048576 < a.size + b.size
      · go_enter Try.func8, Try.ntmps8
        go_wp2
        go_ret
        exact ⟨_, rfl, rfl⟩
      · go_enter Try.func8, Try.ntmps8
        go_wp2
        go_ret
        exact ⟨_, rfl, rfl⟩

set_option maxHeartbeats 1000000 in
theorem walk (a b : ByteArray) (w : World) :
    Calls Try.prog 4 #[.string a, .string b] w fun e w' => e = .returned (.bool true) ∧ Below w.heap.size w w' := by
  go_enter Try.func4, Try.ntmps4
  go_wp2_with fail
  refine (bytes_any a b _).mono ?_
  rintro e w1 ⟨v, rfl, rfl⟩
  cases v
  · go_wp2
    go_ret
    exact ⟨rfl, Below.refl _ _⟩
  · by_cases h1 : 65536 < a.size
    · go_wp2
      go_ret
      exact ⟨rfl, Below.refl _ _⟩
    · by_cases h2 : 65536 < b.size
      · go_wp2
        go_ret
        exact ⟨rfl, Below.refl _ _⟩
      · obtain ⟨n, hn⟩ : ∃ n, cnt (by' a) a.size = n := ⟨_, rfl⟩
        have oa := out_size a
        rw [hn] at oa
        have na : n ≤ a.size := by rw [← hn]; exact cnt_le _ _
        have ob : (outS b).size ≤ 131072 := by rw [out_size b]; have := cnt_le (by' b) b.size; omega
        have HN : Hid (cnt (by' a) a.size = n) := hn
        clear hn
        go_wp2_with fail
        refine (text_lit (outS a ++ ⟨#[32]⟩ ++ outS b) _ (join_law a b) (by simp [ByteArray.size_append]; have : (⟨#[32]⟩ : ByteArray).size = 1 := rfl; omega) _).mono ?_
        rintro e w2 ⟨rfl, h2⟩
        go_wp2_with fail
        refine (text_lit (outS a) a rfl (by omega) _).mono ?_
        rintro e w3 ⟨rfl, h3⟩
        go_wp2_with fail
        refine (text_lit (outS b) b rfl (by omega) _).mono ?_
        rintro e w4 ⟨rfl, h4⟩
        have k3 := h2.trans (h3.mono h2.size)
        have k4 := k3.trans (h4.mono k3.size)
        clear h2 h3 h4 k3
        go_wp2_with fail
        refine (count_lit n a HN.out (by omega) _).mono ?_
        rintro e w5 ⟨rfl, rfl⟩
        go_wp2
        go_ret
        exact ⟨rfl, k4⟩

/-! ### THE ROW's STEP: WRITTEN OUT: LEAVE IT -/
set_option maxRecDepth 100000 in
theorem lifted (os : Os) (started : os.Started) (H : Type) (enc : TypeId × Value → H) :
    ReturnsInHanded {} Try.checked os 4 .any (Rows.fnMarkdownTextSpaceJoinSpec.pre6 enc Try.prog Try.f4 Rows.fnMarkdownTextSpaceJoinRow.domain false) (Rows.fnMarkdownTextSpaceJoinSpec.post enc Try.prog Try.f4 false true false false) := by
  refine returnsInHanded_of_change (C := Try.checked) own started (by kernel_rfl) Try.func4
    (ChangeSpec.witness6 (enc := enc) (C := Try.checked) false ⟨#[], #[.string ByteArray.empty, .string ByteArray.empty], []⟩ 8 (by kernel_rfl) (by kernel_rfl) (by kernel_rfl) (by kernel_rfl)) ?_
  intro W base args ds gs before hval0 hW hcnd _
  have hval : ∀ (j : Nat) t v, Try.f4.params[j]? = some t → args[j]? = some v → Value.okWide Try.prog W .any base t v := hval0
  have hW' := hW
  obtain ⟨p, q, hA0, hV, rfl, hfz, hnd⟩ := hW
  have hA : DataW.TrodAll enc Try.prog W 0 (fun _ => true) true Try.f4.params.toList args.toList ds p := hA0
  rw [Try.params4] at hA hval
  obtain ⟨v0, vs0, d0, ds0, p0, q0, hargs, rfl, rfl, h0, r0⟩ := trodAll_cons hA
  obtain ⟨v1, vs1, d1, ds1, p1, q1, rfl, rfl, rfl, h1, r1⟩ := trodAll_cons r0
  obtain ⟨rfl, rfl, rfl⟩ := trodAll_nil r1
  obtain rfl : args = #[v0, v1] := by cases args; simp_all
  obtain ⟨rfl, rfl⟩ := trodVars_none hV
  obtain ⟨a0, rfl, rfl, rfl, w0⟩ := open_string Try.underlying9 (hval 0 9 v0 rfl rfl) h0
  obtain ⟨a1, rfl, rfl, rfl, w1⟩ := open_string Try.underlying9 (hval 1 9 v1 rfl rfl) h1
  clear hA0 hval0
  simp only [List.append_nil] at hW'
  refine (walk a0 a1 W).mono fun e W' ⟨he, hg⟩ => ?_
  subst he
  exact ⟨_, rfl, _, _, _, [], [], [], hW', (trodAll_cons_mk (shut_bool Try.underlying4 _) trodAll_mk0), (trodAll_cons_mk (shut_string Try.underlying9 w0) (trodAll_cons_mk (shut_string Try.underlying9 w1) trodAll_mk0)), rfl, hg.frame _, fun h => by cases h⟩

theorem over : Rows.fnMarkdownTextSpaceJoinRow.holds Try.pinned (OpenSpec.ofChange Rows.fnMarkdownTextSpaceJoinSpec) :=
  OpenClaim.holds_of_wide 4 Try.f4 rfl rfl rfl rfl rfl rfl rfl ⟨rfl, rfl, rfl, rfl, rfl⟩ rfl rfl rfl rfl rfl (by kernel_rfl) Try.func4 (by kernel_rfl)
    (of_decide_eq_true (by kernel_rfl)) (by unfold Func.isWrapper; first | (rw [if_pos (by decide +kernel)]; kernel_rfl) | (rw [if_neg (by decide +kernel)]; exact ⟨rfl, rfl⟩))
    (fun os started H enc _ => lifted os started H enc)

/-- ████ THE STATEMENT ████ -/
theorem proved : Rows.FnMarkdownTextSpaceJoinSaid :=
  over
end Go.Proofs.Qxb6619422a.fnMarkdownTextSpaceJoin
