/-
  A PROOF OF 'Rows.FnClaimedReaderArrivalCommutesSaid'.
-/
import Derived.Test.Qxb6619302aCon
import Derived.OpenShut
import Derived.ShutString
namespace Go.Proofs.Qxb6619302a.fnClaimedReaderArrivalCommutes
open Go.ChangeShapes Go.WideShapes Go.ChangeAt Go.RowKit
open Go.ChangeMaps (open_string shut_string)
set_option linter.unusedVariables false

theorem own : ownKnob Try.prog.godebug = none := by kernel_rfl

theorem lit (x : Int) (n v : Nat) (hx : x = n) (hn : n < 18446744073709551616) (hv : v = clN n) (w : World) :
    Calls Try.prog 4 #[.int .u64 x] w fun e w' => e = .returned (.int .u64 v) ∧ w' = w := by
  subst hx hv; exact zzclaimed_any n hn w

theorem spec (n : Nat) : (n < 8589934592 ∧ clN n = n / 8 * 8 + 5 + n / 2 % 2 * 2) ∨ (8589934592 ≤ n ∧ clN n = n / 8 * 8 + 7) := by
  unfold clN; split
  · exact Or.inl ⟨by assumption, rfl⟩
  · exact Or.inr ⟨by omega, rfl⟩

theorem kept : bits .xor .u64 IntKind.u64.max 7 = 18446744073709551608 := by decide

theorem plain (n : Nat) (hn : n < 18446744073709551616) (h : ¬ n / 8589934592 = 2147483647) :
    ∃ c c2 k : Nat, c = clN n ∧ c2 = clN (n + 8589934592) ∧ c = clN c ∧ c + 8589934592 < 18446744073709551616 ∧
      bits .or .u64 ((c : Int) + 8589934592) 2 = (c2 : Int) ∧ bits .and .u64 (c : Int) (bits .xor .u64 IntKind.u64.max 7) = (k : Int) ∧
      bits .and .u64 (n : Int) (bits .xor .u64 IntKind.u64.max 7) = (k : Int) ∧ bits .and .u64 (c : Int) 5 = 5 := by
  rw [kept]
  have s1 := spec n
  have s2 := spec (n + 8589934592)
  have s3 := spec (clN n)
  generalize clN (clN n) = c3 at s3
  refine ⟨clN n, clN (n + 8589934592), n / 8 * 8, rfl, rfl, ?_, by omega, ?_, ?_, b_keep n hn, ?_⟩
  · have s4 := spec (clN n)
    omega
  · have e : (clN n : Int) + 8589934592 = ((clN n + 8589934592 : Nat) : Int) := by omega
    rw [e, b_or2 (clN n + 8589934592) (by omega)]
    omega
  · rw [b_keep _ (by omega)]
    omega
  · rw [b_and5 _ (by omega), show (5 : Int) = ((5 : Nat) : Int) from rfl]
    omega

theorem walk_nat (n : Nat) (hn : n < 18446744073709551616) (w : World) :
    Calls Try.prog 3 #[.int .u64 n] w fun e w' => e = .returned (.bool true) ∧ w' = w := by
  by_cases h : n / 8589934592 = 2147483647
  · have e : (n : Int) / 8589934592 = 2147483647 := by omega
    go_enter Try.func3, Try.ntmps3
    go_wp2
    go_ret
    exact ⟨rfl, rfl⟩
  · have e : ¬ (n : Int) / 8589934592 = 2147483647 := by omega
    obtain ⟨c, c2, k, d1, d2, d3, d4, f1, f2, f3, f4⟩ := plain n hn h
    have d0 : n + 8589934592 < 18446744073709551616 := by omega
    have D1 : Hid (c = clN n) := d1
    have D2 : Hid (c2 = clN (n + 8589934592)) := d2
    have D3 : Hid (c = clN c) := d3
    clear d1 d2 d3 h
    go_enter Try.func3, Try.ntmps3
    go_wp2_with fail
    refine (lit _ n c rfl hn D1.out _).mono ?_
    rintro e w1 ⟨rfl, rfl⟩
    go_wp2_with fail
    refine (lit _ (n + 8589934592) c2 (by simp) d0 D2.out _).mono ?_
    rintro e w1 ⟨rfl, rfl⟩
    go_wp2_with fail
    refine (lit _ c c rfl (by omega) D3.out _).mono ?_
    rintro e w1 ⟨rfl, rfl⟩
    go_wp2
    go_ret
    exact ⟨rfl, rfl⟩

theorem walk (a0 : Int) (w0 : (Lit.int .u64 a0).wf = true) (w : World) :
    Calls Try.prog 3 #[.int .u64 a0] w fun e w' => e = .returned (.bool true) ∧ Grown w w' := by
  have b := bounds_u64 w0
  obtain ⟨n, rfl⟩ := Int.eq_ofNat_of_zero_le b.1
  refine (walk_nat n (by omega) w).mono ?_
  rintro e w1 ⟨rfl, rfl⟩
  exact ⟨rfl, Grown.refl _⟩

/-! ### THE ROW's STEP: WRITTEN OUT: LEAVE IT -/
set_option maxRecDepth 100000 in
theorem lifted (os : Os) (started : os.Started) (H : Type) (enc : TypeId × Value → H) :
    ReturnsInHanded {} Try.checked os 3 .any (Rows.fnClaimedReaderArrivalCommutesSpec.pre6 enc Try.prog Try.f3 Rows.fnClaimedReaderArrivalCommutesRow.domain false) (Rows.fnClaimedReaderArrivalCommutesSpec.post enc Try.prog Try.f3 false true false false) := by
  refine returnsInHanded_of_change (C := Try.checked) own started (by kernel_rfl) Try.func3
    (ChangeSpec.witness6 (enc := enc) (C := Try.checked) false ⟨#[], #[.int .u64 0], []⟩ 8 (by kernel_rfl) (by kernel_rfl) (by kernel_rfl) (by kernel_rfl)) ?_
  intro W base args ds gs before hval0 hW hcnd _
  have hval : ∀ (j : Nat) t v, Try.f3.params[j]? = some t → args[j]? = some v → Value.okWide Try.prog W .any base t v := hval0
  have hW' := hW
  obtain ⟨p, q, hA0, hV, rfl, hfz, hnd⟩ := hW
  have hA : DataW.TrodAll enc Try.prog W 0 (fun _ => true) true Try.f3.params.toList args.toList ds p := hA0
  rw [Try.params3] at hA hval
  obtain ⟨v0, vs0, d0, ds0, p0, q0, hargs, rfl, rfl, h0, r0⟩ := trodAll_cons hA
  obtain ⟨rfl, rfl, rfl⟩ := trodAll_nil r0
  obtain rfl : args = #[v0] := by cases args; simp_all
  obtain ⟨rfl, rfl⟩ := trodVars_none hV
  obtain ⟨a0, rfl, rfl, rfl, w0⟩ := open_int Try.underlying22 (hval 0 22 v0 rfl rfl) h0
  clear hA0 hval0
  simp only [List.append_nil] at hW'
  refine (walk a0 w0 W).mono fun e W' ⟨he, hg⟩ => ?_
  subst he
  exact ⟨_, rfl, post_of_same (pa := []) (pv := []) hW' (fun _ _ _ => (trodAll_cons_mk (shut_bool Try.underlying4 _) trodAll_mk0)) (fun sp _ => (trodAll_cons_mk (shut_int Try.underlying22 w0) trodAll_mk0)) (fun _ _ => rfl) rfl
    (hg.frame _) hg.2.1 (ok_one (by kernel_rfl) rfl (okWide_bool_mk Try.underlying4 _))⟩

theorem over : Rows.fnClaimedReaderArrivalCommutesRow.holds Try.pinned (OpenSpec.ofChange Rows.fnClaimedReaderArrivalCommutesSpec) :=
  OpenClaim.holds_of_wide 3 Try.f3 rfl rfl rfl rfl rfl rfl rfl ⟨rfl, rfl, rfl, rfl, rfl⟩ rfl rfl rfl rfl rfl (by kernel_rfl) Try.func3 (by kernel_rfl)
    (of_decide_eq_true (by kernel_rfl)) (by unfold Func.isWrapper; first | (rw [if_pos (by decide +kernel)]; kernel_rfl) | (rw [if_neg (by decide +kernel)]; exact ⟨rfl, rfl⟩))
    (fun os started H enc _ => lifted os started H enc)

/-- ████ THE STATEMENT ████ -/
theorem proved : Rows.FnClaimedReaderArrivalCommutesSaid :=
  over
end Go.Proofs.Qxb6619302a.fnClaimedReaderArrivalCommutes
