/-
  The walk of edits and ZZEdits: the distance of the two strings' runes.
-/
import Derived.Test.Qxb6619364aRune
import Derived.WalkSpells
import Derived.WalkLawsBesides
import Derived.Deep.OwnRows
import Derived.OpenShut
namespace Go.Proofs.Qxb6619364a
open Go.ChangeShapes Go.WideShapes Go.ChangeAt Go.RowKit
open Lev

theorem info3 : (Try.prog.info? 3).map (fun i => (i.zero, i.size, i.bytes)) = some (some (.int .i64 0), 1, 8) := by kernel_rfl
theorem info21 : (Try.prog.info? 21).map (fun i => (i.zero, i.size, i.bytes)) = some (some (.int .i32 0), 1, 4) := by kernel_rfl

/-- The capacity that []rune(s) draws; the block that it lays. -/
def capOf (w : World) (s : ByteArray) : Nat := grownCap w (Conv.runesFrom s s.size 0 #[]).size 0 21
def runeObj (w : World) (s : ByteArray) : Obj := .cells (Conv.runesFrom s s.size 0 #[] ++ Array.replicate (capOf w s - (Conv.runesFrom s s.size 0 #[]).size) (.int .i32 0)) 21

theorem runesFrom_size (s : ByteArray) : (Conv.runesFrom s s.size 0 #[]).size = (runes s).length := by rw [conv_runes]; simp

theorem cap_ge (w : World) (s : ByteArray) : (runes s).length ≤ capOf w s := by
  have := grownCap_ge w (Conv.runesFrom s s.size 0 #[]).size 0 21
  rw [runesFrom_size] at this
  unfold capOf; rw [runesFrom_size]; omega

theorem conv_law (s : ByteArray) (h : s.size ≤ 1000000) (w : World) :
    (convert 9 25 (.string s)).run Try.prog w = .ok (.slice (some ⟨w.heap.size, 0, none⟩) (runes s).length (capOf w s)) (w.drew.alloc (runeObj w s)) := by
  have := run_runes_of_string (P := Try.prog) w 9 25 21 s Try.underlying9 Try.underlying25 Try.underlying21 (by rw [runesFrom_size]; have := runes_length s; omega)
  rw [this, ← runesFrom_size]
  rfl

theorem rune_row (w wr : World) (s : ByteArray) : (wr.alloc (runeObj w s)).rowIs wr.heap.size 21 (capOf w s) (fun i => .int .i32 (fn (runes s) i)) := by
  have hge := cap_ge w s
  have := World.rowIs_alloc wr (Conv.runesFrom s s.size 0 #[] ++ Array.replicate (capOf w s - (Conv.runesFrom s s.size 0 #[]).size) (.int .i32 0)) 21 (fun i => .int .i32 (fn (runes s) i)) (by
    intro i hi
    rw [conv_runes] at hi ⊢
    by_cases h : i < (runes s).length
    · simp [Array.getElem?_append, h, fn]
    · simp at hi
      simp [Array.getElem?_append, h, fn]
      rw [Array.getElem?_replicate, if_pos (by omega)])
  have e : (Conv.runesFrom s s.size 0 #[] ++ Array.replicate (capOf w s - (Conv.runesFrom s s.size 0 #[]).size) (Value.int .i32 0)).size = capOf w s := by
    rw [runesFrom_size]; simp [runesFrom_size]; omega
  rw [e] at this
  exact this

/-- The three blocks that edits makes: the runes of a, the runes of b, the row. -/
structure At (w wr : World) (cs ct m : Nat) (s t : List Int) (f : Nat → Nat) : Prop where
  since : w.Since w.heap.size wr
  size : wr.heap.size = w.heap.size + 3
  rs : wr.rowIs w.heap.size 21 cs (fun i => .int .i32 (fn s i))
  rt : wr.rowIs (w.heap.size + 1) 21 ct (fun i => .int .i32 (fn t i))
  row : wr.rowIs (w.heap.size + 1 + 1) 3 (m + 1) (fun j => .int .i64 (f j))

theorem At.store {w wr : World} {cs ct m : Nat} {s t : List Int} {f : Nat → Nat} (h : At w wr cs ct m s t f) (j v : Nat) (g : Nat → Nat) (z : Int) (hz : z = v)
    (e : ∀ x, x ≤ m → g x = if x = j then v else f x) : At w (wr.setCell ⟨w.heap.size + 1 + 1, j, none⟩ (.int .i64 z)) cs ct m s t g := by
  subst hz
  refine ⟨h.since.setCell (by show w.heap.size ≤ w.heap.size + 1 + 1; omega) _, by simp [h.size], h.rs.setOther (by show w.heap.size ≠ w.heap.size + 1 + 1; omega) _,
    h.rt.setOther (by show w.heap.size + 1 ≠ w.heap.size + 1 + 1; omega) _, (h.row.set j _).congr fun x hx => ?_⟩
  rw [e x (by omega)]
  split <;> rfl

theorem At.drew {w wr : World} {cs ct m : Nat} {s t : List Int} {f : Nat → Nat} (h : At w wr cs ct m s t f) : At w wr.drew cs ct m s t f :=
  ⟨h.since.drew, h.size, h.rs, h.rt, h.row⟩
theorem At.congr {w wr : World} {cs ct m : Nat} {s t : List Int} {f g : Nat → Nat} (h : At w wr cs ct m s t f) (e : ∀ x, x ≤ m → f x = g x) : At w wr cs ct m s t g :=
  ⟨h.since, h.size, h.rs, h.rt, h.row.congr fun x hx => by rw [e x (by omega)]⟩


theorem at_start (w V : World) (a b : ByteArray) (s t : List Int) (hs : runes a = s) (ht : runes b = t) :
    ∃ cs ct : Nat, s.length ≤ cs ∧ t.length ≤ ct ∧ At w (((w.alloc (runeObj w a)).alloc (runeObj V b)).alloc (.cells (madeCells #[.int .i64 0] (t.length + 1)) 3)).drew.drew cs ct t.length s t (fun _ => 0) := by
  subst hs ht
  have r1 := rune_row w w a
  have r2 := rune_row V (w.alloc (runeObj w a)) b
  have r3 := World.rowIs_made ((w.alloc (runeObj w a)).alloc (runeObj V b)) (.int .i64 0) ((runes b).length + 1) 3
  simp at r1 r2 r3
  refine ⟨_, _, cap_ge w a, cap_ge V b, ?_, by simp, ((r1.alloc _).alloc _).drew.drew, (r2.alloc _).drew.drew, r3.drew.drew⟩
  exact ((((World.Since.refl _ _).alloc (by simp) _).alloc (by simp) _).alloc (by simp; omega) _).drew.drew

theorem row_step (s t : Nat → Int) (i l x : Nat) :
    (if x ≤ l + 1 then lev s t (i + 1) x else lev s t i x) = if x = l + 1 then lev s t (i + 1) (l + 1) else if x ≤ l then lev s t (i + 1) x else lev s t i x := by
  by_cases h : x = l + 1
  · subst h; simp
  · by_cases h2 : x ≤ l
    · rw [if_pos (by omega), if_neg h, if_pos h2]
    · rw [if_neg (by omega), if_neg h, if_neg h2]
theorem row_first (s t : Nat → Int) (i x : Nat) :
    (if x ≤ 0 then lev s t (i + 1) x else lev s t i x) = if x = 0 then i + 1 else lev s t i x := by
  by_cases h : x = 0
  · subst h; simp [lev_left]
  · rw [if_neg (by omega), if_neg h]

set_option maxHeartbeats 4000000 in
theorem edits_any (a b : ByteArray) (ha : a.size ≤ 1000000) (hb : b.size ≤ 1000000) (w : World) :
    Calls Try.prog 13 #[.string a, .string b] w fun e w' => e = .returned (.int .i64 (dist (runes a) (runes b))) ∧ w.Since w.heap.size w' := by
  have hc1 := conv_law a ha
  have hc2 := conv_law b hb
  have hn := runes_length a
  have hm := runes_length b
  have hmk := run_make_row' (P := Try.prog) 33 3 (.int .i64 0) 8 Try.underlying33 info3 rfl .i64 .i64 ((runes b).length + 1) (by omega) (by omega)
  have ec : (((runes b).length + 1 : Nat) : Int) = ((runes b).length : Int) + 1 := by omega
  rw [ec] at hmk
  clear ec
  generalize hs : runes a = s at *
  generalize ht : runes b = t at *
  go_enter Try.func13, Try.ntmps13
  go_wp2
  clear hc1 hc2 hmk
  go_loopw [23] (fun i wr => ∃ k : Nat, k ≤ t.length + 1 ∧ i = .int .i64 k ∧ ∃ cs ct : Nat, s.length ≤ cs ∧ t.length ≤ ct ∧ At w wr cs ct t.length s t (fun j => if j < k then j else 0)) (fun i _ => t.length + 1 - (intOf i).toNat)
  case atStart =>
    refine ⟨0, by omega, rfl, ?_⟩
    obtain ⟨cs, ct, h1, h2, h3⟩ := at_start w _ a b s t hs ht
    exact ⟨cs, ct, h1, h2, h3.congr fun x _ => by simp⟩
  case round =>
    obtain ⟨k, hk, rfl, cs, ct, hcs, hct, hA⟩ := hrel
    by_cases hlt : k < t.length + 1
    · have c1 := hA.row.cell hlt
      have c2 := hA.row.frozen k
      go_wp2
      go_roundw
      case rel => exact ⟨k + 1, by omega, by go_num, cs, ct, hcs, hct, hA.store k k _ _ rfl fun x _ => by repeat (first | omega | split)⟩
      case measure => simp [intOf]; omega
    · have hA0 : At w wr cs ct t.length s t (lev (fn s) (fn t) 0) := hA.congr fun x hx => by rw [lev_zero, if_pos (by omega)]
      clear hA
      go_wp2
      go_loopw [33] (fun i wr => ∃ k : Nat, k ≤ s.length ∧ i = .int .i64 k ∧ At w wr cs ct t.length s t (lev (fn s) (fn t) k)) (fun i _ => s.length - (intOf i).toNat)
      case atStart => exact ⟨0, by omega, rfl, hA0⟩
      case round =>
        clear hA0 hlt hk
        obtain ⟨i, hi, rfl, hA⟩ := hrel
        by_cases hlt : i < s.length
        · have c1 := hA.row.cell (i := 0) (by omega)
          have c2 := hA.row.frozen 0
          go_wp2
          go_loopw [45, 10] (fun j dg wr => ∃ l : Nat, l ≤ t.length ∧ j = .int .i64 l ∧ dg = .int .i64 (lev (fn s) (fn t) i l) ∧ At w wr cs ct t.length s t (fun x => if x ≤ l then lev (fn s) (fn t) (i + 1) x else lev (fn s) (fn t) i x)) (fun j _ _ => t.length - (intOf j).toNat)
          case atStart => exact ⟨0, by omega, rfl, by simp, hA.store 0 (i + 1) _ _ rfl fun x _ => row_first _ _ _ _⟩
          case round =>
            clear c1 c2 hA
            obtain ⟨l, hl, rfl, rfl, hA⟩ := hrel
            by_cases hll : l < t.length
            · have d1 := hA.rs.cell (i := i) (by omega)
              have d2 := hA.rt.cell (i := l) (by omega)
              have d3 := hA.row.cell (i := l + 1) (by omega)
              have d4 := hA.row.cell (i := l) (by omega)
              have d5 := hA.row.frozen (l + 1)
              simp only [Nat.le_refl, if_true, if_neg (show ¬ l + 1 ≤ l by omega)] at d3 d4
              have hlev := lev_succ (fn s) (fn t) i l
              have b1 := le_max (fn s) (fn t) i (l + 1)
              have b2 := le_max (fn s) (fn t) (i + 1) l
              have b3 := le_max (fn s) (fn t) i l
              have b1' : lev (fn s) (fn t) i (l + 1) ≤ 1000001 := by omega
              have b2' : lev (fn s) (fn t) (i + 1) l ≤ 1000001 := by omega
              have b3' : lev (fn s) (fn t) i l ≤ 1000001 := by omega
              clear b1 b2 b3
              have HL : Hid (lev (fn s) (fn t) (i + 1) (l + 1) = _) := hlev
              clear hlev
              by_cases he : fn s i = fn t l
              · go_wp2
                go_region
                go_wp2
                go_region
                all_goals go_wp2
                go_roundw
                case rel => exact ⟨l + 1, by omega, by go_num, rfl, (hA.store (l + 1) (lev (fn s) (fn t) (i + 1) (l + 1)) _ _ (by rw [HL.out, if_pos he]; repeat (first | omega | split)) fun x _ => row_step _ _ _ _ _).drew.drew⟩
                case measure => simp [intOf]; omega
              · go_wp2
                go_region
                go_wp2
                go_region
                go_wp2
                go_roundw
                case rel => exact ⟨l + 1, by omega, by go_num, rfl, (hA.store (l + 1) (lev (fn s) (fn t) (i + 1) (l + 1)) _ _ (by rw [HL.out, if_neg he]; repeat (first | omega | split)) fun x _ => row_step _ _ _ _ _).drew.drew⟩
                case measure => simp [intOf]; omega
            · have hA2 : At w wr cs ct t.length s t (lev (fn s) (fn t) (i + 1)) := hA.congr fun x hx => by rw [if_pos (by omega)]
              clear hA
              go_wp2
              go_roundw
              case rel => exact ⟨i + 1, by omega, by go_num, hA2⟩
              case measure => simp [intOf]; omega
        · have hd : i = s.length := by omega
          subst hd
          have d1 := hA.row.cell (i := t.length) (by omega)
          go_wp2
          go_ret
          exact ⟨rfl, hA.since⟩

theorem zzedits_any (a b : ByteArray) (ha : a.size ≤ 1000000) (hb : b.size ≤ 1000000) (w : World) :
    Calls Try.prog 7 #[.string a, .string b] w fun e w' => e = .returned (.int .i64 (dist (runes a) (runes b))) ∧ w.Since w.heap.size w' := by
  go_enter Try.func7, Try.ntmps7
  go_wp2_with fail
  refine (edits_any a b ha hb _).mono ?_
  rintro e w1 ⟨rfl, hs⟩
  go_wp2
  go_ret
  exact ⟨rfl, hs⟩

end Go.Proofs.Qxb6619364a
