/-
  The walk of zzb1Slide.
-/
import Derived.Test.Qxb6619364aEdits
import Derived.Test.Qxb6619364aReach
import Derived.Deep.QuietTactic
import Derived.BigQuiet
namespace Go.Proofs.Qxb6619364a.Far
open Go.ChangeShapes Go.WideShapes Go.ChangeAt Go.RowKit
open Lev

/-- A row of runes that a slice shows. -/
def Src (w : World) (l : List Int) (A : Option Addr) : Prop := ∀ i, i < l.length → ∃ p, A = some ⟨p, 0, none⟩ ∧ p < w.heap.size ∧ w.cell? ⟨p, i, none⟩ = some (.int .i32 (fn l i))
theorem Src.since {w w' : World} {l : List Int} {A : Option Addr} (h : Src w l A) (s : w.Since w.heap.size w') : Src w' l A := fun i hi => by
  obtain ⟨p, e, hp, hc⟩ := h i hi
  exact ⟨p, e, Nat.lt_of_lt_of_le hp s.size, by rw [s.cell (a := ⟨p, i, none⟩) hp]; exact hc⟩

/-- What the slide has passed, from (i, j) to (q, r). -/
structure Path (s t : Nat → Int) (n m i j q r : Nat) : Prop where
  same : q + j = r + i
  iq : i ≤ q
  qn : q ≤ n
  rm : r ≤ m
  eq : ∀ z, i + z < q → s (i + z) = t (j + z)

theorem Path.step {s t : Nat → Int} {n m i j q r : Nat} (h : Path s t n m i j q r) (hq : q < n) (hr : r < m) (e : s q = t r) : Path s t n m i j (q + 1) (r + 1) := by
  refine ⟨by have := h.same; omega, by have := h.iq; omega, by omega, by omega, fun z hz => ?_⟩
  by_cases ez : i + z = q
  · have := h.same
    rw [ez, show j + z = r by omega]; exact e
  · exact h.eq z (by omega)

set_option maxHeartbeats 2000000 in
theorem slide_any (s t : List Int) (A B : Option Addr) (ka kb i j : Nat) (k : Int) (hk : (i : Int) + k = j) (w : World) (ls : s.length ≤ 1000000) (lt : t.length ≤ 1000000)
    (hi : i ≤ s.length) (hj : j ≤ t.length) (ha : Src w s A) (hb : Src w t B) :
    Calls Try.prog 14 #[.slice A s.length ka, .slice B t.length kb, .int .i64 i, .int .i64 k] w fun e w' =>
      ∃ q r : Nat, e = .returned (.int .i64 q) ∧ Path (fn s) (fn t) s.length t.length i j q r ∧ (q = s.length ∨ r = t.length ∨ ¬ fn s q = fn t r) ∧ w.Since w.heap.size w' ∧ w'.heap.size = w.heap.size := by
  have k1 : -1000000 ≤ k := by omega
  have k2 : k ≤ 1000000 := by omega
  go_enter Try.func14, Try.ntmps14
  go_wp2
  go_loopw [2] (fun iv wr => ∃ q r : Nat, iv = .int .i64 q ∧ Path (fn s) (fn t) s.length t.length i j q r ∧ w.Since w.heap.size wr ∧ wr.heap.size = w.heap.size) (fun iv _ => s.length - (intOf iv).toNat)
  case atStart => exact ⟨i, j, rfl, ⟨by omega, by omega, hi, hj, fun z hz => by omega⟩, World.Since.refl _ _, rfl⟩
  case round =>
    obtain ⟨q, r, rfl, hp, hs, hz⟩ := hrel
    have h1 := hp.same
    have h2 := hp.qn
    have h3 := hp.rm
    have kq : (q : Int) + k = r := by omega
    by_cases hq : q < s.length
    · by_cases hr : r < t.length
      · obtain ⟨pa, rfl, ha1, ha2⟩ := ha q hq
        obtain ⟨pb, rfl, hb1, hb2⟩ := hb r hr
        rw [← hs.cell (a := ⟨pa, q, none⟩) ha1] at ha2
        rw [← hs.cell (a := ⟨pb, r, none⟩) hb1] at hb2
        by_cases he : fn s q = fn t r
        · go_wp2
          go_region
          go_wp2
          go_roundw
          case rel => exact ⟨q + 1, r + 1, by go_num, hp.step hq hr he, hs.drew, hz⟩
          case measure => simp [intOf]; omega
        · go_wp2
          go_region
          go_wp2
          go_ret
          exact ⟨q, r, rfl, hp, Or.inr (Or.inr he), hs.drew, hz⟩
      · go_wp2
        go_region
        go_wp2
        go_ret
        exact ⟨q, r, rfl, hp, Or.inr (Or.inl (by omega)), hs.drew, hz⟩
    · go_wp2
      go_region
      go_wp2
      go_ret
      exact ⟨q, r, rfl, hp, Or.inl (by omega), hs.drew, hz⟩

end Go.Proofs.Qxb6619364a.Far
