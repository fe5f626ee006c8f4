/-
  The walk of mdMarkupCount.
-/
import Derived.Test.Qxb6619422aText
namespace Go.Proofs.Qxb6619422a
open Go.ChangeShapes Go.WideShapes Go.ChangeAt Go.RowKit

theorem mark_lit' (v : Bool) (s : ByteArray) (j : Nat) (hj : j < s.size) (hs : s.size ≤ 1000000) (hv : markB (by' s) j = v) (w : World) :
    Calls Try.prog 11 #[.string s, .int .i64 j] w fun e w' => e = .returned (.bool v) ∧ w' = w := by
  subst hv; exact mark_any s j hj hs w

theorem count_any (s : ByteArray) (hs : s.size ≤ 1000000) (w : World) :
    Calls Try.prog 9 #[.string s] w fun e w' => e = .returned (.int .i64 (cnt (by' s) s.size)) ∧ w' = w := by
  go_enter Try.func9, Try.ntmps9
  go_wp2
  go_loopw [4, 3] (fun jv nv wr => ∃ j n : Nat, j ≤ s.size ∧ n ≤ j ∧ jv = .int .i64 j ∧ nv = .int .i64 n ∧ Hid (n = cnt (by' s) j) ∧ wr = w) (fun jv _ _ => s.size - (intOf jv).toNat)
  case atStart => exact ⟨0, 0, by omega, by omega, rfl, rfl, rfl, rfl⟩
  case round =>
    obtain ⟨j, n, hj, hn, rfl, rfl, HN, rfl⟩ := hrel
    by_cases hlt : j < s.size
    · cases hm : markB (by' s) j
      · have HP : Hid (n = cnt (by' s) (j + 1)) := by show n = _; unfold cnt; rw [hm, HN.out]; rfl
        have HM : Hid (markB (by' s) j = false) := hm
        clear hm
        go_wp2_with fail
        refine (mark_lit' false s j hlt hs HM.out _).mono ?_
        rintro e w1 ⟨rfl, rfl⟩
        go_wp2
        go_roundw
        case rel => exact ⟨j + 1, n, by omega, by omega, by go_num, rfl, HP, by first | rfl | trivial⟩
        case measure => simp [intOf]; omega
      · have HP : Hid (n + 1 = cnt (by' s) (j + 1)) := by show n + 1 = _; unfold cnt; rw [hm, HN.out]; rfl
        have HM : Hid (markB (by' s) j = true) := hm
        clear hm
        go_wp2_with fail
        refine (mark_lit' true s j hlt hs HM.out _).mono ?_
        rintro e w1 ⟨rfl, rfl⟩
        go_wp2
        go_roundw
        case rel => exact ⟨j + 1, n + 1, by omega, by omega, by go_num, by go_num, HP, by first | rfl | trivial⟩
        case measure => simp [intOf]; omega
    · obtain rfl : j = s.size := by omega
      go_wp2
      go_ret
      exact ⟨by rw [← HN.out]; rfl, rfl⟩

end Go.Proofs.Qxb6619422a
