/-
  The walk of mdReadsBackAs over the escaped text.
-/
import Derived.Test.Qxb6619422aText
import Derived.Deep.QuietTactic
import Derived.BigQuiet
namespace Go.Proofs.Qxb6619422a
open Go.ChangeShapes Go.WideShapes Go.ChangeAt Go.RowKit

theorem mark_lit (v : Bool) (s : ByteArray) (j : Nat) (hj : j < s.size) (hs : s.size ≤ 1000000) (hv : markB (by' s) j = v) (w : World) :
    Calls Try.prog 11 #[.string s, .int .i64 j] w fun e w' => e = .returned (.bool v) ∧ w' = w := by
  subst hv; exact mark_any s j hj hs w

theorem more {w wr : World} {n : Nat} (h : ∃ k, wr = w.drewN k) : ∃ k, wr.drewN n = w.drewN k := by
  obtain ⟨k, rfl⟩ := h
  exact ⟨k + n, World.drewN_drewN _ _ _⟩
theorem wrap_one (i : Nat) (h : i ≤ 400000) : IntKind.i64.wrap ((i : Int) + 1) = (i : Int) + 1 := by
  simp [IntKind.wrap, IntKind.bits, IntKind.signed]; omega

theorem below_drewN (B : Nat) (w : World) : ∀ k, Below B w (w.drewN k) := by
  intro k
  exact ⟨rfl, rfl, rfl, Nat.le_refl _, fun _ _ => rfl⟩

theorem g_piece (a p r : List UInt8) (k : Nat) (h : k < p.length) : g (a ++ (p ++ r)) (a.length + k) = g p k := by
  unfold g bt
  rw [List.getElem?_append_right (by omega), show a.length + k - a.length = k by omega, List.getElem?_append_left h]

/-- What lies in the escaped text at byte j's place. -/
theorem read_mark {l : List UInt8} {j : Nat} (hj : j < l.length) (hm : markB l j = true) :
    (escTo l j).length + 1 < (esc l).length ∧ g (esc l) (escTo l j).length = 92 ∧ g (esc l) ((escTo l j).length + 1) = g l j ∧ (escTo l (j + 1)).length = (escTo l j).length + 2 := by
  obtain ⟨r, hr⟩ := escTo_split l j l.length hj
  have hp : piece l j = [92, bt l j] := by unfold piece; rw [if_pos hm]
  have h0 : esc l = escTo l j ++ (piece l j ++ r) := hr
  rw [hp] at h0
  have a0 := g_piece (escTo l j) [92, bt l j] r 0 (by simp)
  have a1 := g_piece (escTo l j) [92, bt l j] r 1 (by simp)
  rw [← h0] at a0 a1
  refine ⟨by rw [h0]; simp, a0, a1, by simp [escTo, hp]⟩
theorem read_plain {l : List UInt8} {j : Nat} (hj : j < l.length) (hm : markB l j = false) :
    (escTo l j).length < (esc l).length ∧ g (esc l) (escTo l j).length = g l j ∧ ¬ g l j = 92 ∧ (escTo l (j + 1)).length = (escTo l j).length + 1 := by
  obtain ⟨r, hr⟩ := escTo_split l j l.length hj
  have hp : piece l j = [bt l j] := by unfold piece; rw [hm]; rfl
  have h0 : esc l = escTo l j ++ (piece l j ++ r) := hr
  rw [hp] at h0
  have a0 := g_piece (escTo l j) [bt l j] r 0 (by simp)
  rw [← h0] at a0
  refine ⟨by rw [h0]; simp, a0, fun e => ?_, by simp [escTo, hp]⟩
  have : markB l j = true := mark_special (by rw [e]; rfl)
  rw [this] at hm
  cases hm

set_option maxHeartbeats 2000000 in
theorem back_any (o s : ByteArray) (ho : by' o = esc (by' s)) (hs : s.size ≤ 200000) (w : World) :
    Calls Try.prog 7 #[.string o, .string s] w fun e w' => e = .returned (.bool true) ∧ ∃ k, w' = w.drewN k := by
  have hlen : o.size = (esc (by' s)).length := by rw [size_by, ho]
  have hos : o.size ≤ 400000 := by rw [hlen]; have := esc_short s s.size (Nat.le_refl _); unfold esc; rw [by_length]; omega
  have HO : Hid (by' o = esc (by' s)) := ho
  have HL : Hid (o.size = (esc (by' s)).length) := hlen
  clear ho hlen
  go_enter Try.func7, Try.ntmps7
  go_wp2
  go_loopw [5, 6] (fun iv jv wr => ∃ i j : Nat, j ≤ s.size ∧ iv = .int .i64 i ∧ jv = .int .i64 j ∧ Hid (i = (escTo (by' s) j).length) ∧ Hid (∃ k, wr = w.drewN k)) (fun _ jv _ => s.size - (intOf jv).toNat)
  case atStart => exact ⟨0, 0, by omega, rfl, rfl, rfl, ⟨0, rfl⟩⟩
  case round =>
    obtain ⟨i, j, hj, rfl, rfl, HI, HK⟩ := hrel
    by_cases hlt : j < s.size
    · have hc := at_g s j hlt
      obtain ⟨c, hcc⟩ : ∃ c, g (by' s) j = c := ⟨_, rfl⟩
      rw [hcc] at hc
      cases hm : markB (by' s) j
      · obtain ⟨p1, p2, p3, p4⟩ := read_plain (l := by' s) hlt hm
        rw [← HI.out, ← HL.out] at p1
        rw [← HI.out] at p4
        have q0 : o[i].toNat = c := (at_g o i p1).trans (by rw [HO.out, HI.out, p2, hcc])
        rw [hcc] at p3
        have HP : Hid (i + 1 = (escTo (by' s) (j + 1)).length) := p4.symm
        have HM : Hid (markB (by' s) j = false) := hm
        clear p2 p4 hm hcc
        go_wp2_with fail
        go_quiet (first | (go_at_call 11; refine Calls.quiet_of_same (mark_lit false s j hlt (by omega) HM.out _)))
        go_wp2
        go_roundw
        case rel => exact ⟨i + 1, j + 1, by omega, by go_num, by go_num, HP, more HK.out⟩
        case measure => simp [intOf]; omega
      · obtain ⟨p1, p2, p3, p4⟩ := read_mark (l := by' s) hlt hm
        rw [← HI.out, ← HL.out] at p1
        rw [← HI.out] at p4
        have p0 : i < o.size := by omega
        have hw := wrap_one i (by omega)
        have hb1 : (i : Int) + 1 < (o.size : Int) := by omega
        have hb0 : 0 ≤ (i : Int) + 1 := by omega
        have q0 : o[i].toNat = 92 := (at_g o i p0).trans (by rw [HO.out, HI.out, p2])
        have q1 : o[i + 1].toNat = c := (at_g o (i + 1) p1).trans (by rw [HO.out, HI.out, p3, hcc])
        have HP : Hid (i + 2 = (escTo (by' s) (j + 1)).length) := p4.symm
        have HM : Hid (markB (by' s) j = true) := hm
        clear p2 p3 p4 hm hcc
        go_wp2_with fail
        go_quiet (first | (go_at_call 11; refine Calls.quiet_of_same (mark_lit true s j hlt (by omega) HM.out _)))
        go_wp2
        go_roundw
        case rel => exact ⟨i + 2, j + 1, by omega, by go_num, by go_num, HP, more HK.out⟩
        case measure => simp [intOf]; omega
    · have hjn : j = s.size := by omega
      have hi : i = o.size := by rw [HI.out, HL.out, hjn]; rfl
      subst hjn
      subst hi
      go_wp2
      go_ret
      exact ⟨rfl, HK.out⟩
end Go.Proofs.Qxb6619422a
