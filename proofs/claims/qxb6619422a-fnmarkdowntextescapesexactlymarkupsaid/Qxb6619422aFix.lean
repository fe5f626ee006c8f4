/-
  strings.HasPrefix at two slashes, strings.HasSuffix at three w.
-/
import Derived.Test.Qxb6619422aMark
namespace Go.Proofs.Qxb6619422a
open Go.ChangeShapes Go.WideShapes Go.ChangeAt Go.RowKit

theorem by_extract (s : ByteArray) (a b : Nat) : by' (s.extract a b) = ((by' s).drop a).take (b - a) := by
  unfold by'
  rw [ByteArray.data_extract, Array.toList_extract, List.extract_eq_take_drop]
theorem by_inj {s t : ByteArray} (h : by' s = by' t) : s = t := bytes_inj h
theorem toList_by (s : ByteArray) : s.toList = by' s := ByteArray.toList_eq s

theorem bt_drop (l : List UInt8) (p i : Nat) : bt (l.drop p) i = bt l (p + i) := by
  simp [bt, List.getElem?_drop]
theorem g_drop (l : List UInt8) (p i : Nat) : g (l.drop p) i = g l (p + i) := by
  unfold g; rw [bt_drop]
theorem bt_take (l : List UInt8) (n i : Nat) (h : i < n) : bt (l.take n) i = bt l i := by
  simp [bt, h]
theorem g_take (l : List UInt8) (n i : Nat) (h : i < n) : g (l.take n) i = g l i := by
  unfold g; rw [bt_take l n i h]
theorem take2 (l : List UInt8) (h : 2 ≤ l.length) : l.take 2 = [bt l 0, bt l 1] := by
  rw [take_succ l 1 (by omega), take_succ l 0 (by omega)]; simp
theorem take3 (l : List UInt8) (h : 3 ≤ l.length) : l.take 3 = [bt l 0, bt l 1, bt l 2] := by
  rw [take_succ l 2 (by omega), take2 l (by omega)]; simp
theorem u8_beq (x y : UInt8) : (x == y) = (x.toNat == y.toNat) := by
  rw [Bool.eq_iff_iff]
  simp [← UInt8.toNat_inj]

theorem begins_lite (s : ByteArray) (hs : s.size ≤ 1000000) (w : World) :
    Calls Try.prog 14 #[.string s, .string ⟨#[47, 47]⟩] w fun e w' => e = .returned (.bool (g (by' s) 0 == 47 && g (by' s) 1 == 47)) ∧ w' = w := by
  by_cases h : 2 ≤ s.size
  · go_enter Try.func14, Try.ntmps14
    go_wp2
    go_ret
    refine ⟨congrArg (fun b => Ending.returned (Value.bool b)) ?_, rfl⟩
    rw [toList_by, by_extract, List.drop_zero, take2 _ (by rw [by_length]; exact h)]
    simp only [List.cons_beq_cons, List.beq_nil_eq, u8_beq, g]
    simp
  · go_enter Try.func14, Try.ntmps14
    go_wp2
    go_ret
    exact ⟨by rw [g_out s 1 (by omega)]; simp, rfl⟩

theorem ends_lite (s : ByteArray) (hs : s.size ≤ 1000000) (w : World) :
    Calls Try.prog 15 #[.string s, .string ⟨#[119, 119, 119]⟩] w fun e w' => e = .returned (.bool (decide (3 ≤ s.size) && g (by' s) (s.size - 3) == 119 && g (by' s) (s.size - 2) == 119 && g (by' s) (s.size - 1) == 119)) ∧ w' = w := by
  by_cases h : 3 ≤ s.size
  · go_enter Try.func15, Try.ntmps15
    go_wp2
    go_ret
    refine ⟨congrArg (fun b => Ending.returned (Value.bool b)) ?_, rfl⟩
    rw [toList_by, by_extract, show s.size - (s.size - 3) = 3 by omega, take3 _ (by simp [by_length]; omega), bt_drop, bt_drop, bt_drop, show s.size - 3 + 1 = s.size - 2 by omega, show s.size - 3 + 2 = s.size - 1 by omega]
    simp only [List.cons_beq_cons, List.beq_nil_eq, u8_beq, g, Nat.add_zero]
    simp [h, Bool.and_assoc]
  · go_enter Try.func15, Try.ntmps15
    go_wp2
    go_ret
    exact ⟨rfl, rfl⟩
theorem begins_any (s : ByteArray) (hs : s.size ≤ 1000000) (w : World) :
    Calls Try.prog 12 #[.string s, .string ⟨#[47, 47]⟩] w fun e w' => e = .returned (.bool (g (by' s) 0 == 47 && g (by' s) 1 == 47)) ∧ w' = w := by
  go_enter Try.func12, Try.ntmps12
  go_wp2_with fail
  refine (begins_lite s hs _).mono ?_
  rintro e w1 ⟨rfl, rfl⟩
  go_wp2
  go_ret
  exact ⟨rfl, rfl⟩
theorem ends_any (s : ByteArray) (hs : s.size ≤ 1000000) (w : World) :
    Calls Try.prog 13 #[.string s, .string ⟨#[119, 119, 119]⟩] w fun e w' => e = .returned (.bool (decide (3 ≤ s.size) && g (by' s) (s.size - 3) == 119 && g (by' s) (s.size - 2) == 119 && g (by' s) (s.size - 1) == 119)) ∧ w' = w := by
  go_enter Try.func13, Try.ntmps13
  go_wp2_with fail
  refine (ends_lite s hs _).mono ?_
  rintro e w1 ⟨rfl, rfl⟩
  go_wp2
  go_ret
  exact ⟨rfl, rfl⟩
end Go.Proofs.Qxb6619422a
