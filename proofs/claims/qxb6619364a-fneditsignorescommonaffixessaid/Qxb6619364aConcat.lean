/-
  The walk of zzb1Concat3: a new row that holds the three rows, one behind the other; string(..) of it.
-/
import Derived.Test.Qxb6619364aEdits
namespace Go.Proofs.Qxb6619364a
open Go.ChangeShapes Go.WideShapes Go.ChangeAt Go.RowKit
open Lev

/-- The first d cells are written. -/
structure Cat (w wr : World) (N d : Nat) (g : Nat → Int) : Prop where
  since : w.Since w.heap.size wr
  size : wr.heap.size = w.heap.size + 1
  row : wr.rowIs w.heap.size 21 N (fun x => .int .i32 (if x < d then g x else 0))

theorem Cat.step {w wr : World} {N d : Nat} {g : Nat → Int} (h : Cat w wr N d g) (z : Int) (hz : z = g d) (o : Nat) (ho : o = d) : Cat w (wr.setCell ⟨w.heap.size, o, none⟩ (.int .i32 z)) N (d + 1) g := by
  subst hz ho
  refine ⟨h.since.setCell (Nat.le_refl _) _, by simp [h.size], (h.row.set o _).congr fun x _ => ?_⟩
  by_cases e : x = o
  · subst e; simp
  · rw [if_neg e]
    by_cases e2 : x < o
    · rw [if_pos e2, if_pos (by omega)]
    · rw [if_neg e2, if_neg (by omega)]

theorem cat_start (w : World) (N : Nat) (g : Nat → Int) : Cat w (w.alloc (.cells (madeCells #[.int .i32 0] N) 21)) N 0 g :=
  ⟨(World.Since.refl _ _).alloc (Nat.le_refl _) _, by simp, (World.rowIs_made w _ N 21).congr fun x _ => by simp⟩

set_option maxHeartbeats 2000000 in
theorem concat_any (a b c : List Int) (A B C : Option Addr) (ka kb kc : Nat) (w : World) (hl : a.length + b.length + c.length ≤ 1000000)
    (ha : ∀ i, i < a.length → ∃ p, A = some ⟨p, 0, none⟩ ∧ p < w.heap.size ∧ w.cell? ⟨p, i, none⟩ = some (.int .i32 (fn a i)))
    (hb : ∀ i, i < b.length → ∃ p, B = some ⟨p, 0, none⟩ ∧ p < w.heap.size ∧ w.cell? ⟨p, i, none⟩ = some (.int .i32 (fn b i)))
    (hc : ∀ i, i < c.length → ∃ p, C = some ⟨p, 0, none⟩ ∧ p < w.heap.size ∧ w.cell? ⟨p, i, none⟩ = some (.int .i32 (fn c i))) :
    Calls Try.prog 10 #[.slice A a.length ka, .slice B b.length kb, .slice C c.length kc] w fun e w' =>
      e = .returned (.slice (some ⟨w.heap.size, 0, none⟩) (a.length + b.length + c.length) (a.length + b.length + c.length)) ∧ w.Since w.heap.size w' ∧ w'.heap.size = w.heap.size + 1 ∧
      w'.rowIs w.heap.size 21 (a.length + b.length + c.length) (fun x => .int .i32 (fn (a ++ b ++ c) x)) := by
  have HA : Hid (∀ i, i < a.length → ∃ p, A = some ⟨p, 0, none⟩ ∧ p < w.heap.size ∧ w.cell? ⟨p, i, none⟩ = some (.int .i32 (fn a i))) := ha
  have HB : Hid (∀ i, i < b.length → ∃ p, B = some ⟨p, 0, none⟩ ∧ p < w.heap.size ∧ w.cell? ⟨p, i, none⟩ = some (.int .i32 (fn b i))) := hb
  have HC : Hid (∀ i, i < c.length → ∃ p, C = some ⟨p, 0, none⟩ ∧ p < w.heap.size ∧ w.cell? ⟨p, i, none⟩ = some (.int .i32 (fn c i))) := hc
  clear ha hb hc
  have hmk := run_make_row' (P := Try.prog) 25 21 (.int .i32 0) 4 Try.underlying25 info21 rfl .i64 .i64 (a.length + b.length + c.length) (by omega) (by omega)
  have ec : ((a.length + b.length + c.length : Nat) : Int) = (a.length : Int) + b.length + c.length := by omega
  rw [ec] at hmk
  clear ec
  have st := cat_start w (a.length + b.length + c.length) (fn (a ++ b ++ c))
  go_enter Try.func10, Try.ntmps10
  go_wp2
  clear hmk
  go_loopw [9, 8] (fun i j wr => ∃ k : Nat, k ≤ a.length ∧ i = .int .i64 k ∧ j = .int .i64 k ∧ Cat w wr (a.length + b.length + c.length) k (fn (a ++ b ++ c))) (fun i _ _ => a.length - (intOf i).toNat)
  case atStart => exact ⟨0, by omega, rfl, rfl, st⟩
  case round =>
    clear st
    obtain ⟨k, hk, rfl, rfl, hA⟩ := hrel
    by_cases hlt : k < a.length
    · obtain ⟨p, rfl, hp, c1⟩ := HA.out k hlt
      rw [← hA.since.cell (a := ⟨p, k, none⟩) hp] at c1
      have c2 := hA.row.cell (i := k) (by omega)
      have c3 := hA.row.frozen k
      go_wp2
      go_roundw
      case rel => exact ⟨k + 1, by omega, by go_num, by go_num, hA.step _ (by rw [List.append_assoc, fn_append_left a _ k hlt]) _ rfl⟩
      case measure => simp [intOf]; omega
    · obtain rfl : k = a.length := by omega
      go_wp2
      go_loopw [10, 8] (fun i j wr => ∃ k : Nat, k ≤ b.length ∧ i = .int .i64 k ∧ j = .int .i64 ((a.length + k : Nat) : Int) ∧ Cat w wr (a.length + b.length + c.length) (a.length + k) (fn (a ++ b ++ c))) (fun i _ _ => b.length - (intOf i).toNat)
      case atStart => exact ⟨0, by omega, rfl, rfl, hA⟩
      case round =>
        clear hA hlt hk
        obtain ⟨k, hk, rfl, rfl, hA⟩ := hrel
        by_cases hlt : k < b.length
        · obtain ⟨p, rfl, hp, c1⟩ := HB.out k hlt
          rw [← hA.since.cell (a := ⟨p, k, none⟩) hp] at c1
          have c2 := hA.row.cell (i := a.length + k) (by omega)
          have c3 := hA.row.frozen (a.length + k)
          go_wp2
          go_roundw
          case rel => exact ⟨k + 1, by omega, by go_num, by go_num, hA.step _ (by rw [List.append_assoc, fn_append_right a _ k, fn_append_left b _ k hlt]) _ rfl⟩
          case measure => simp [intOf]; omega
        · obtain rfl : k = b.length := by omega
          go_wp2
          go_loopw [11, 8] (fun i j wr => ∃ k : Nat, k ≤ c.length ∧ i = .int .i64 k ∧ j = .int .i64 ((a.length + b.length + k : Nat) : Int) ∧ Cat w wr (a.length + b.length + c.length) (a.length + b.length + k) (fn (a ++ b ++ c))) (fun i _ _ => c.length - (intOf i).toNat)
          case atStart => exact ⟨0, by omega, rfl, by go_num, hA⟩
          case round =>
            clear hA hlt hk
            obtain ⟨k, hk, rfl, rfl, hA⟩ := hrel
            by_cases hlt : k < c.length
            · obtain ⟨p, rfl, hp, c1⟩ := HC.out k hlt
              rw [← hA.since.cell (a := ⟨p, k, none⟩) hp] at c1
              have c2 := hA.row.cell (i := a.length + b.length + k) (by omega)
              have c3 := hA.row.frozen (a.length + b.length + k)
              go_wp2
              go_roundw
              case rel => exact ⟨k + 1, by omega, by go_num, by go_num, hA.step _ (by rw [← List.length_append, fn_append_right (a ++ b) c k]) _ rfl⟩
              case measure => simp [intOf]; omega
            · obtain rfl : k = c.length := by omega
              go_wp2
              go_ret
              exact ⟨rfl, hA.since, hA.size, hA.row.congr fun x hx => by rw [if_pos hx]⟩

end Go.Proofs.Qxb6619364a
