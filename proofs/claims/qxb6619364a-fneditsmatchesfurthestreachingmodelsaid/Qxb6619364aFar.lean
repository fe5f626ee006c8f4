/-
  The walk of zzb1FurthestReaching: it gives the distance.
-/
import Derived.Test.Qxb6619364aSlide
import Derived.Deep.LoopGhost
import Derived.Deep.DeepCutAuto
namespace Go.Proofs.Qxb6619364a.Far
open Go.ChangeShapes Go.WideShapes Go.ChangeAt Go.RowKit
open Lev

/-- The two rows that the function makes: one holds P, the other Q. -/
structure Two (w wr : World) (X Y W : Nat) (P Q : Nat → Int) : Prop where
  since : w.Since w.heap.size wr
  size : wr.heap.size = w.heap.size + 2
  lx : w.heap.size ≤ X
  ly : w.heap.size ≤ Y
  ne : X ≠ Y
  px : wr.rowIs X 3 W (fun x => .int .i64 (P x))
  qy : wr.rowIs Y 3 W (fun x => .int .i64 (Q x))

theorem Two.swap {w wr : World} {X Y W : Nat} {P Q : Nat → Int} (h : Two w wr X Y W P Q) : Two w wr Y X W Q P :=
  ⟨h.since, h.size, h.ly, h.lx, h.ne.symm, h.qy, h.px⟩
theorem Two.store {w wr : World} {X Y W : Nat} {P Q : Nat → Int} (h : Two w wr X Y W P Q) (x : Nat) (z : Int) :
    Two w (wr.setCell ⟨Y, x, none⟩ (.int .i64 z)) X Y W P (fun y => if y = x then z else Q y) :=
  ⟨h.since.setCell h.ly _, by simp [h.size], h.lx, h.ly, h.ne, h.px.setOther h.ne _, (h.qy.set x _).congr fun y _ => by split <;> rfl⟩
theorem Two.after {w wr wr' : World} {X Y W : Nat} {P Q : Nat → Int} (h : Two w wr X Y W P Q) (s : wr.Since wr.heap.size wr') (e : wr'.heap.size = wr.heap.size) : Two w wr' X Y W P Q :=
  ⟨h.since.trans ⟨s.os, s.tape, s.output, s.size, fun k hk => s.block k (Nat.lt_of_lt_of_le hk h.since.size)⟩, by rw [e, h.size], h.lx, h.ly, h.ne, h.px.of_block (s.block _ h.px.lt), h.qy.of_block (s.block _ h.qy.lt)⟩

theorem two_start (w : World) (W : Nat) :
    Two w ((w.alloc (.cells (madeCells #[.int .i64 0] W) 3)).alloc (.cells (madeCells #[.int .i64 0] W) 3)) (w.heap.size + 1) w.heap.size W (fun _ => 0) (fun _ => 0) := by
  have r1 := World.rowIs_made w (.int .i64 0) W 3
  have r2 := World.rowIs_made (w.alloc (.cells (madeCells #[.int .i64 0] W) 3)) (.int .i64 0) W 3
  simp at r1 r2
  exact ⟨((World.Since.refl _ _).alloc (by simp) _).alloc (by simp) _, by simp, by omega, by omega, by omega, r2, r1.alloc _⟩

theorem Src.two {w wr : World} {X Y W : Nat} {P Q : Nat → Int} {l : List Int} {A : Option Addr} (h : Src w l A) (k : Two w wr X Y W P Q) : Src wr l A := h.since k.since

theorem c1_le (n m x : Nat) (p : Int) : c1 n m x p ≤ p + 1 := by unfold c1; split <;> omega
theorem c2_le (n m x : Nat) (b l z : Int) (h1 : b ≤ z) (h2 : l ≤ z) : c2 n m x b l ≤ z := by unfold c2; split <;> omega

theorem next_slid {s t : Nat → Int} {n m x : Nat} {P Q : Nat → Int} {z : Int} (h : ∀ y, y < x → Slid s t n m y (cand n m P y) (Q y)) (hz : Slid s t n m x (cand n m P x) z) :
    ∀ y, y < x + 1 → Slid s t n m y (cand n m P y) (if y = x then z else Q y) := by
  intro y hy
  by_cases e : y = x
  · subst e; rw [if_pos rfl]; exact hz
  · rw [if_neg e]; exact h y (by omega)

/-- A path that has stopped is a slide. -/
theorem slid_of_path {s t : Nat → Int} {n m x i j q r : Nat} (hx : j + n = i + x) (h : Path s t n m i j q r) (e : q = n ∨ r = m ∨ ¬ s q = t r) : Slid s t n m x i q := by
  have h1 := h.same
  have h2 := h.iq
  have h3 := h.qn
  have h4 := h.rm
  refine Or.inr ⟨i, j, q - i, rfl, hx, by rw [show i + (q - i) = q by omega], by omega, by omega, fun z hz => h.eq z (by omega), ?_⟩
  rw [show i + (q - i) = q by omega, show j + (q - i) = r by omega]
  exact e

set_option maxHeartbeats 8000000 in
set_option maxRecDepth 1000000 in
theorem far_any (s t : List Int) (A B : Option Addr) (ka kb : Nat) (w : World) (ls : s.length ≤ 100000) (lt : t.length ≤ 100000) (ha : Src w s A) (hb : Src w t B) :
    Calls Try.prog 8 #[.slice A s.length ka, .slice B t.length kb] w fun e w' => e = .returned (.int .i64 (dist s t)) ∧ w.Since w.heap.size w' := by
  have hmk := run_make_row' (P := Try.prog) 33 3 (.int .i64 0) 8 Try.underlying33 info3 rfl .i64 .i64 (s.length + t.length + 1) (by omega) (by omega)
  have ec : ((s.length + t.length + 1 : Nat) : Int) = (s.length : Int) + t.length + 1 := by omega
  rw [ec] at hmk
  clear ec
  have st := two_start w (s.length + t.length + 1)
  have HA : Hid (Src w s A) := ha
  have HB : Hid (Src w t B) := hb
  clear ha hb
  go_enter Try.func8, Try.ntmps8
  go_wp2
  clear hmk
  go_loopw [10] (fun i wr => ∃ k : Nat, k ≤ s.length + t.length + 1 ∧ i = .int .i64 k ∧ ∃ Q, Two w wr (w.heap.size + 1) w.heap.size (s.length + t.length + 1) (fun _ => 0) Q ∧ ∀ y, y < k → Q y = -1) (fun i _ => s.length + t.length + 1 - (intOf i).toNat)
  case atStart => exact ⟨0, by omega, rfl, _, st, fun y hy => by omega⟩
  case round =>
    clear st
    obtain ⟨k, hk, rfl, Q, hT, hQ⟩ := hrel
    have HQ : Hid (∀ y, y < k → Q y = -1) := hQ
    clear hQ
    by_cases hlt : k < s.length + t.length + 1
    · have c1 := hT.qy.cell hlt
      have c2 := hT.qy.frozen k
      go_wp2
      go_roundw
      case rel => exact ⟨k + 1, by omega, by go_num, _, hT.store k (-1), fun y hy => by
        by_cases e : y = k
        · rw [if_pos e]
        · rw [if_neg e]; exact HQ.out y (by omega)⟩
      case measure => simp [intOf]; omega
    · have c3 := hT.qy.cell (i := s.length) (by omega)
      have c4 := hT.qy.frozen s.length
      go_wp2_with fail
      refine (slide_any s t A B ka kb 0 0 0 rfl wr (by omega) (by omega) (by omega) (by omega) (HA.out.two hT) (HB.out.two hT)).mono ?_
      rintro e w1 ⟨q, r, rfl, hp, he, hs, hz⟩
      have hT1 := hT.after hs hz
      have hsl : Slid (fn s) (fn t) s.length t.length s.length 0 q := slid_of_path (i := 0) (j := 0) (by omega) hp he
      have hlaw := start_law (s := fn s) (t := fn t) (n := s.length) (m := t.length) (P := fun y => if y = s.length then (q : Int) else Q y) (fun x hx hne => by rw [if_neg hne]; exact HQ.out x (by omega)) (by rw [if_pos rfl]; exact hsl)
      clear c3 c4 hsl
      have c3 := hT1.qy.cell (i := s.length) (by omega)
      have c4 := hT1.qy.frozen s.length
      have hT2 := (hT1.store s.length (q : Int)).swap
      generalize (fun y => if y = s.length then (q : Int) else Q y) = P at hlaw hT2
      have c5 := hT2.px.cell (i := t.length) (by omega)
      have hend := end_law hlaw.1 hlaw.2
      have hbnd := sound_le hlaw.1 t.length (by omega)
      have HL : Hid (Sound (fn s) (fn t) s.length t.length 0 P ∧ Comp (fn s) (fn t) s.length t.length 0 P) := hlaw
      clear hlaw hT hT1
      have hdd : lev (fn s) (fn t) s.length t.length = dist s t := rfl
      rw [hdd] at hend
      have HD : Hid (P t.length = s.length ↔ dist s t ≤ 0) := hend
      clear hend hdd
      by_cases hfin : P t.length = s.length
      · have hzero : dist s t = 0 := by have := HD.out.1 hfin; omega
        rw [hfin] at c5
        clear hbnd hfin
        go_wp2
        go_ret
        exact ⟨by rw [hzero]; rfl, hT2.since⟩
      · have hpos : 0 < dist s t := by
          by_cases h0 : dist s t ≤ 0
          · exact absurd (HD.out.2 h0) hfin
          · omega
        have hmax : dist s t ≤ s.length + t.length := by have := dist_le s t; omega
        have hfb : (P t.length == (s.length : Int)) = false := by simp [hfin]
        go_wp2
        go_loopw [11, 8, 9] (fun dv pv cv wr => ∃ (d dd X Y : Nat) (P Q : Nat → Int), d + 1 = dd ∧ dv = .int .i64 dd ∧ pv = .slice (some ⟨X, 0, none⟩) (s.length + t.length + 1) (s.length + t.length + 1) ∧ cv = .slice (some ⟨Y, 0, none⟩) (s.length + t.length + 1) (s.length + t.length + 1) ∧
          Two w wr X Y (s.length + t.length + 1) P Q ∧ d < dist s t ∧ Hid (Sound (fn s) (fn t) s.length t.length d P ∧ Comp (fn s) (fn t) s.length t.length d P)) (fun dv _ _ _ => s.length + t.length + 1 - (intOf dv).toNat)
        case atStart => exact ⟨0, 1, _, _, P, _, rfl, rfl, rfl, rfl, hT2, hpos, HL⟩
        case round =>
          clear hT2 HL hpos hfin hfb HD hbnd c5 c3 c4 he hp hs hz
          obtain ⟨d, dd, X, Y, P1, Q1, hdd, rfl, rfl, rfl, hT, hd, HL⟩ := hrel
          have hd2 : dd ≤ s.length + t.length := by omega
          have HDD : Hid (d + 1 = dd ∧ d < dist s t) := ⟨hdd, hd⟩
          clear hdd hd
          have hdb : decide ((dd : Int) ≤ (s.length : Int) + t.length) = true := by simp; omega
          go_wp2
          go_loopg [12] (s.length + t.length + 1) (fun g xv wr => ∃ (x : Nat) (Q : Nat → Int), x ≤ s.length + t.length + 1 ∧ g = s.length + t.length + 1 - x ∧ xv = .int .i64 x ∧ Two w wr X Y (s.length + t.length + 1) P1 Q ∧ Hid (∀ y, y < x → Slid (fn s) (fn t) s.length t.length y (cand s.length t.length P1 y) (Q y)))
          case atStart => exact ⟨0, Q1, by omega, by omega, rfl, hT, fun y hy => absurd hy (Nat.not_lt_zero _)⟩
          case round =>
            clear hT
            obtain ⟨x, Q2, hx, rfl, rfl, hT, HS⟩ := hrel
            by_cases hlt : x < s.length + t.length + 1
            · have e1 := hT.px.cell (i := x) hlt
              obtain ⟨b1, b2, b3, -⟩ := sound_le HL.out.1 x (by omega)
              have hcand : cand s.length t.length P1 x = c3 s.length t.length x (c2 s.length t.length x (c1 s.length t.length x (P1 x)) (P1 (x - 1))) (P1 (x + 1)) := rfl
              have hR := cand_sound HL.out.1 x (by omega)
              obtain ⟨pl, hpl⟩ : ∃ v, v = P1 (x - 1) := ⟨_, rfl⟩
              obtain ⟨pr, hpr⟩ : ∃ v, v = P1 (x + 1) := ⟨_, rfl⟩
              have l1 : -1 ≤ pl ∧ pl ≤ s.length := by
                have := sound_le HL.out.1 (x - 1) (by omega)
                omega
              obtain ⟨l1, l2⟩ := l1
              have e3 : x + 1 < s.length + t.length + 1 → wr.cell? ⟨X, x + 1, none⟩ = some (.int .i64 pr) := fun h => by rw [hpr]; exact hT.px.cell h
              have e2 : ∀ y : Nat, y + 1 = x → wr.cell? ⟨X, y, none⟩ = some (.int .i64 pl) := fun y h => by subst h; rw [hpl]; exact hT.px.cell (by omega)
              have r1 : x + 1 < s.length + t.length + 1 → -1 ≤ pr ∧ pr ≤ s.length := fun h => by
                have := sound_le HL.out.1 (x + 1) (by omega)
                omega
              rw [← hpl, ← hpr] at hcand
              clear hpl hpr
              generalize P1 x = pc at e1 b1 b2 b3 hcand ⊢
              generalize hcd : cand s.length t.length P1 x = cd at hR hcand
              have HCD : Hid (cand s.length t.length P1 x = cd) := hcd
              clear hcd
              have HC : Hid (cd = c3 s.length t.length x (c2 s.length t.length x (c1 s.length t.length x pc) pl) pr) := hcand
              have HR : Hid (Row (fn s) (fn t) s.length t.length (d + 1) x cd) := hR
              have E2 : Hid (∀ y : Nat, y + 1 = x → wr.cell? ⟨X, y, none⟩ = some (.int .i64 pl)) := e2
              have E3 : Hid (x + 1 < s.length + t.length + 1 → wr.cell? ⟨X, x + 1, none⟩ = some (.int .i64 pr)) := e3
              have R1 : Hid (x + 1 < s.length + t.length + 1 → -1 ≤ pr ∧ pr ≤ s.length) := r1
              clear hcand hR e2 e3 r1
              go_upto_region 21 with fail
              go_cut [97] (fun c wc => c = .bool (decide (0 ≤ pc ∧ pc < (s.length : Int) ∧ pc + ((x : Int) - (s.length : Int)) < (t.length : Int))) ∧ wr = wc)
              case first => as_aux_lemma =>
                by_cases h1 : 0 ≤ pc
                · by_cases h2 : pc < (s.length : Int)
                  · by_cases h3 : pc + ((x : Int) - (s.length : Int)) < (t.length : Int)
                    · go_wp2_with fail
                      go_meet
                      refine ⟨congrArg Value.bool ?_, rfl⟩
                      first | exact (decide_eq_true (p := 0 ≤ pc ∧ pc < (s.length : Int) ∧ pc + ((x : Int) - (s.length : Int)) < (t.length : Int)) (by omega)).symm | (rw [decide_eq_true (p := pc < pc + 1) (by omega)]; exact (decide_eq_true (p := 0 ≤ pc ∧ pc < (s.length : Int) ∧ pc + ((x : Int) - (s.length : Int)) < (t.length : Int)) (by omega)).symm)
                    · go_wp2_with fail
                      go_meet
                      refine ⟨congrArg Value.bool ?_, rfl⟩
                      first | exact (decide_eq_false (p := 0 ≤ pc ∧ pc < (s.length : Int) ∧ pc + ((x : Int) - (s.length : Int)) < (t.length : Int)) (by omega)).symm | (rw [decide_eq_false (p := pc < pc + 1) (by omega)]; exact (decide_eq_false (p := 0 ≤ pc ∧ pc < (s.length : Int) ∧ pc + ((x : Int) - (s.length : Int)) < (t.length : Int)) (by omega)).symm)
                  · go_wp2_with fail
                    go_meet
                    refine ⟨congrArg Value.bool ?_, rfl⟩
                    first | exact (decide_eq_false (p := 0 ≤ pc ∧ pc < (s.length : Int) ∧ pc + ((x : Int) - (s.length : Int)) < (t.length : Int)) (by omega)).symm | (rw [decide_eq_false (p := pc < pc + 1) (by omega)]; exact (decide_eq_false (p := 0 ≤ pc ∧ pc < (s.length : Int) ∧ pc + ((x : Int) - (s.length : Int)) < (t.length : Int)) (by omega)).symm)
                · go_wp2_with fail
                  go_meet
                  refine ⟨congrArg Value.bool ?_, rfl⟩
                  first | exact (decide_eq_false (p := 0 ≤ pc ∧ pc < (s.length : Int) ∧ pc + ((x : Int) - (s.length : Int)) < (t.length : Int)) (by omega)).symm | (rw [decide_eq_false (p := pc < pc + 1) (by omega)]; exact (decide_eq_false (p := 0 ≤ pc ∧ pc < (s.length : Int) ∧ pc + ((x : Int) - (s.length : Int)) < (t.length : Int)) (by omega)).symm)
              case rest =>
                obtain ⟨rfl, rfl⟩ := hcut
                go_upto_if 97 with fail
                go_cut [14] (fun b wc => b = .int .i64 (c1 s.length t.length x pc) ∧ wr = wc)
                case first => as_aux_lemma =>
                  by_cases hC : 0 ≤ pc ∧ pc < (s.length : Int) ∧ pc + ((x : Int) - (s.length : Int)) < (t.length : Int)
                  · have hD := decide_eq_true hC
                    have hV : c1 s.length t.length x pc = pc + 1 := if_pos hC
                    go_wp2_with fail
                    go_meet
                    exact ⟨by rw [hV], rfl⟩
                  · have hD := decide_eq_false hC
                    have hV : c1 s.length t.length x pc = pc := if_neg hC
                    go_wp2_with fail
                    go_meet
                    exact ⟨by rw [hV], rfl⟩
                case rest =>
                  obtain ⟨rfl, rfl⟩ := hcut
                  obtain ⟨v1, hv1, w1, w2⟩ : ∃ v, v = c1 s.length t.length x pc ∧ -1 ≤ v ∧ v ≤ s.length + 1 := ⟨_, rfl, by have := c1_ge s.length t.length x pc; omega, by have := c1_le s.length t.length x pc; omega⟩
                  have H1 : Hid (v1 = c1 s.length t.length x pc) := hv1
                  rw [← hv1]
                  clear hv1
                  go_upto_region 23 with fail
                  go_cut [132] (fun c wc => c = .bool (decide (0 < x ∧ 0 ≤ pl ∧ pl + ((x : Int) - (s.length : Int)) ≤ (t.length : Int) ∧ v1 < pl)) ∧ wr = wc)
                  case first => as_aux_lemma =>
                    by_cases h0 : 0 < x
                    · obtain ⟨y, hy⟩ : ∃ y : Nat, y + 1 = x := ⟨x - 1, by omega⟩
                      have e2 := E2.out y hy
                      have hxy : (x : Int) - 1 = y := by omega
                      by_cases h1 : 0 ≤ pl
                      · by_cases h2 : pl + ((x : Int) - (s.length : Int)) ≤ (t.length : Int)
                        · by_cases h3 : v1 < pl
                          · go_wp2_with fail
                            go_meet
                            refine ⟨congrArg Value.bool ?_, rfl⟩
                            first | exact (decide_eq_true (p := 0 < x ∧ 0 ≤ pl ∧ pl + ((x : Int) - (s.length : Int)) ≤ (t.length : Int) ∧ v1 < pl) (by omega)).symm | (rw [decide_eq_true (p := v1 < pl) (by omega)]; exact (decide_eq_true (p := 0 < x ∧ 0 ≤ pl ∧ pl + ((x : Int) - (s.length : Int)) ≤ (t.length : Int) ∧ v1 < pl) (by omega)).symm)
                          · go_wp2_with fail
                            go_meet
                            refine ⟨congrArg Value.bool ?_, rfl⟩
                            first | exact (decide_eq_false (p := 0 < x ∧ 0 ≤ pl ∧ pl + ((x : Int) - (s.length : Int)) ≤ (t.length : Int) ∧ v1 < pl) (by omega)).symm | (rw [decide_eq_false (p := v1 < pl) (by omega)]; exact (decide_eq_false (p := 0 < x ∧ 0 ≤ pl ∧ pl + ((x : Int) - (s.length : Int)) ≤ (t.length : Int) ∧ v1 < pl) (by omega)).symm)
                        · go_wp2_with fail
                          go_meet
                          refine ⟨congrArg Value.bool ?_, rfl⟩
                          first | exact (decide_eq_false (p := 0 < x ∧ 0 ≤ pl ∧ pl + ((x : Int) - (s.length : Int)) ≤ (t.length : Int) ∧ v1 < pl) (by omega)).symm | (rw [decide_eq_false (p := v1 < pl) (by omega)]; exact (decide_eq_false (p := 0 < x ∧ 0 ≤ pl ∧ pl + ((x : Int) - (s.length : Int)) ≤ (t.length : Int) ∧ v1 < pl) (by omega)).symm)
                      · go_wp2_with fail
                        go_meet
                        refine ⟨congrArg Value.bool ?_, rfl⟩
                        first | exact (decide_eq_false (p := 0 < x ∧ 0 ≤ pl ∧ pl + ((x : Int) - (s.length : Int)) ≤ (t.length : Int) ∧ v1 < pl) (by omega)).symm | (rw [decide_eq_false (p := v1 < pl) (by omega)]; exact (decide_eq_false (p := 0 < x ∧ 0 ≤ pl ∧ pl + ((x : Int) - (s.length : Int)) ≤ (t.length : Int) ∧ v1 < pl) (by omega)).symm)
                    · go_wp2_with fail
                      go_meet
                      refine ⟨congrArg Value.bool ?_, rfl⟩
                      first | exact (decide_eq_false (p := 0 < x ∧ 0 ≤ pl ∧ pl + ((x : Int) - (s.length : Int)) ≤ (t.length : Int) ∧ v1 < pl) (by omega)).symm | (rw [decide_eq_false (p := v1 < pl) (by omega)]; exact (decide_eq_false (p := 0 < x ∧ 0 ≤ pl ∧ pl + ((x : Int) - (s.length : Int)) ≤ (t.length : Int) ∧ v1 < pl) (by omega)).symm)
                  case rest =>
                    obtain ⟨rfl, rfl⟩ := hcut
                    go_upto_if 132 with fail
                    go_cut [14] (fun b wc => b = .int .i64 (c2 s.length t.length x v1 pl) ∧ wr = wc)
                    case first => as_aux_lemma =>
                      by_cases hC : 0 < x ∧ 0 ≤ pl ∧ pl + ((x : Int) - (s.length : Int)) ≤ (t.length : Int) ∧ v1 < pl
                      · have hD := decide_eq_true hC
                        have hV : c2 s.length t.length x v1 pl = pl := if_pos hC
                        obtain ⟨y, hy⟩ : ∃ y : Nat, y + 1 = x := ⟨x - 1, by omega⟩
                        have e2 := E2.out y hy
                        have hxy : (x : Int) - 1 = y := by omega
                        go_wp2_with fail
                        go_meet
                        exact ⟨by rw [hV], rfl⟩
                      · have hD := decide_eq_false hC
                        have hV : c2 s.length t.length x v1 pl = v1 := if_neg hC
                        go_wp2_with fail
                        go_meet
                        exact ⟨by rw [hV], rfl⟩
                    case rest =>
                      obtain ⟨rfl, rfl⟩ := hcut
                      obtain ⟨v2, hv2, w3, w4⟩ : ∃ v, v = c2 s.length t.length x v1 pl ∧ -1 ≤ v ∧ v ≤ s.length + 1 := ⟨_, rfl, by have := c2_ge s.length t.length x v1 pl; omega, c2_le _ _ _ _ _ _ w2 (by omega)⟩
                      have H2 : Hid (v2 = c2 s.length t.length x v1 pl) := hv2
                      rw [← hv2]
                      clear hv2
                      go_upto_region 25 with fail
                      go_cut [168] (fun c wc => c = .bool (decide (x + 1 < s.length + t.length + 1 ∧ 0 ≤ pr ∧ pr < (s.length : Int) ∧ v2 < pr + 1)) ∧ wr = wc)
                      case first => as_aux_lemma =>
                        by_cases h0 : x + 1 < s.length + t.length + 1
                        · have e3 := E3.out h0
                          obtain ⟨r1, r2⟩ := R1.out h0
                          by_cases h1 : 0 ≤ pr
                          · by_cases h2 : pr < (s.length : Int)
                            · by_cases h3 : v2 < pr + 1
                              · go_wp2_with fail
                                go_meet
                                refine ⟨congrArg Value.bool ?_, rfl⟩
                                first | exact (decide_eq_true (p := x + 1 < s.length + t.length + 1 ∧ 0 ≤ pr ∧ pr < (s.length : Int) ∧ v2 < pr + 1) (by omega)).symm | (rw [decide_eq_true (p := v2 < pr + 1) (by omega)]; exact (decide_eq_true (p := x + 1 < s.length + t.length + 1 ∧ 0 ≤ pr ∧ pr < (s.length : Int) ∧ v2 < pr + 1) (by omega)).symm)
                              · go_wp2_with fail
                                go_meet
                                refine ⟨congrArg Value.bool ?_, rfl⟩
                                first | exact (decide_eq_false (p := x + 1 < s.length + t.length + 1 ∧ 0 ≤ pr ∧ pr < (s.length : Int) ∧ v2 < pr + 1) (by omega)).symm | (rw [decide_eq_false (p := v2 < pr + 1) (by omega)]; exact (decide_eq_false (p := x + 1 < s.length + t.length + 1 ∧ 0 ≤ pr ∧ pr < (s.length : Int) ∧ v2 < pr + 1) (by omega)).symm)
                            · go_wp2_with fail
                              go_meet
                              refine ⟨congrArg Value.bool ?_, rfl⟩
                              first | exact (decide_eq_false (p := x + 1 < s.length + t.length + 1 ∧ 0 ≤ pr ∧ pr < (s.length : Int) ∧ v2 < pr + 1) (by omega)).symm | (rw [decide_eq_false (p := v2 < pr + 1) (by omega)]; exact (decide_eq_false (p := x + 1 < s.length + t.length + 1 ∧ 0 ≤ pr ∧ pr < (s.length : Int) ∧ v2 < pr + 1) (by omega)).symm)
                          · go_wp2_with fail
                            go_meet
                            refine ⟨congrArg Value.bool ?_, rfl⟩
                            first | exact (decide_eq_false (p := x + 1 < s.length + t.length + 1 ∧ 0 ≤ pr ∧ pr < (s.length : Int) ∧ v2 < pr + 1) (by omega)).symm | (rw [decide_eq_false (p := v2 < pr + 1) (by omega)]; exact (decide_eq_false (p := x + 1 < s.length + t.length + 1 ∧ 0 ≤ pr ∧ pr < (s.length : Int) ∧ v2 < pr + 1) (by omega)).symm)
                        · go_wp2_with fail
                          go_meet
                          refine ⟨congrArg Value.bool ?_, rfl⟩
                          first | exact (decide_eq_false (p := x + 1 < s.length + t.length + 1 ∧ 0 ≤ pr ∧ pr < (s.length : Int) ∧ v2 < pr + 1) (by omega)).symm | (rw [decide_eq_false (p := v2 < pr + 1) (by omega)]; exact (decide_eq_false (p := x + 1 < s.length + t.length + 1 ∧ 0 ≤ pr ∧ pr < (s.length : Int) ∧ v2 < pr + 1) (by omega)).symm)
                      case rest =>
                        obtain ⟨rfl, rfl⟩ := hcut
                        go_upto_if 168 with fail
                        go_cut [14] (fun b wc => b = .int .i64 (c3 s.length t.length x v2 pr) ∧ wr = wc)
                        case first => as_aux_lemma =>
                          by_cases hC : x + 1 < s.length + t.length + 1 ∧ 0 ≤ pr ∧ pr < (s.length : Int) ∧ v2 < pr + 1
                          · have hD := decide_eq_true hC
                            have hV : c3 s.length t.length x v2 pr = pr + 1 := if_pos hC
                            have e3 := E3.out hC.1
                            obtain ⟨r1, r2⟩ := R1.out hC.1
                            go_wp2_with fail
                            go_meet
                            exact ⟨by rw [hV], rfl⟩
                          · have hD := decide_eq_false hC
                            have hV : c3 s.length t.length x v2 pr = v2 := if_neg hC
                            go_wp2_with fail
                            go_meet
                            exact ⟨by rw [hV], rfl⟩
                        case rest =>
                          obtain ⟨rfl, rfl⟩ := hcut
                          have hfin : c3 s.length t.length x v2 pr = cd := by rw [HC.out, H2.out, H1.out]
                          rw [hfin]
                          clear hfin E2 E3 R1 H1 H2 HC w1 w2 w3 w4 e1 b1 b2 b3 l1 l2
                          have d1 := hT.qy.cell (i := x) hlt
                          have d2 := hT.qy.frozen x
                          rcases HR.out with hneg | ⟨i, j, hci, hij, hin, hjm, -⟩
                          · subst hneg
                            go_wp2
                            go_roundg (s.length + t.length + 1 - (x + 1))
                            case measure => omega
                            case rel => exact ⟨x + 1, _, by omega, rfl, by go_num, hT.store x (-1), next_slid HS.out (by rw [HCD.out]; exact Or.inl ⟨rfl, rfl⟩)⟩
                          · subst hci
                            go_wp2_with fail
                            refine (slide_any s t A B ka kb i j ((x : Int) - s.length) (by omega) wr (by omega) (by omega) hin hjm (HA.out.two hT) (HB.out.two hT)).mono ?_
                            rintro e w1 ⟨q2, r2, rfl, hp, he, hs, hz⟩
                            have hT1 := hT.after hs hz
                            clear d1 d2
                            have d1 := hT1.qy.cell (i := x) hlt
                            have d2 := hT1.qy.frozen x
                            go_wp2
                            go_roundg (s.length + t.length + 1 - (x + 1))
                            case measure => omega
                            case rel => exact ⟨x + 1, _, by omega, rfl, by go_num, hT1.store x (q2 : Int), next_slid HS.out (by rw [HCD.out]; exact slid_of_path hij hp he)⟩
            · have hlaw := step_law HL.out.1 HL.out.2 (fun y hy => HS.out y (by omega))
              have hend : Q2 t.length = s.length ↔ dist s t ≤ d + 1 := end_law hlaw.1 hlaw.2
              have d1 := hT.qy.cell (i := t.length) (by omega)
              obtain ⟨hdd, hd⟩ := HDD.out
              by_cases hq : Q2 t.length = s.length
              · have hval : dist s t = dd := by have := hend.1 hq; omega
                rw [hq] at d1
                have HV : Hid (dist s t = dd) := hval
                clear hval hend hlaw hdd hd hq
                go_wp2
                go_ret
                exact ⟨by rw [HV.out]; rfl, hT.since⟩
              · have hqb : (Q2 t.length == (s.length : Int)) = false := by simp [hq]
                have hlt2 : d + 1 < dist s t := by
                  by_cases h0 : dist s t ≤ d + 1
                  · exact absurd (hend.2 h0) hq
                  · omega
                have HV : Hid (d + 1 < dist s t ∧ d + 1 = dd) := ⟨hlt2, hdd⟩
                have HW : Hid (Sound (fn s) (fn t) s.length t.length (d + 1) Q2 ∧ Comp (fn s) (fn t) s.length t.length (d + 1) Q2) := hlaw
                clear hlaw hend hlt2 hdd hd
                go_wp2
                go_roundw
                case rel => exact ⟨d + 1, dd + 1, Y, X, Q2, P1, by have := HV.out; omega, by go_num, rfl, rfl, hT.swap, HV.out.1, HW⟩
                case measure => simp [intOf]; omega
end Go.Proofs.Qxb6619364a.Far
