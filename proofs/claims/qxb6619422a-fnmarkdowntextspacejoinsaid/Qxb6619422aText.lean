/-
  The walk of markdownText: it gives the escaped text.
-/
import Derived.Test.Qxb6619422aFix
import Derived.Lib.AppendStr
import Derived.OwnWalk
import Derived.Lib.SliceRun
import Derived.Deep.LoopGhost
import Derived.Deep.DeepCutAuto
import Derived.Deep.CutBlock
namespace Go.Proofs.Qxb6619422a
open Go.ChangeShapes Go.WideShapes Go.ChangeAt Go.RowKit

theorem info5 : (Try.prog.info? 5).map (fun i => (i.zero, i.size, i.bytes)) = some (some (.int .u8 0), 1, 1) := by kernel_rfl

/-- Bytes as cells. -/
def cellsOf (xs : List UInt8) : List Value := xs.map fun b => Value.int .u8 b.toNat
theorem str_cells (t : ByteArray) : Lib.strCells t = cellsOf (by' t) := rfl
theorem cells_append (xs ys : List UInt8) : cellsOf (xs ++ ys) = cellsOf xs ++ cellsOf ys := List.map_append
/-- The escaped text as a string. -/
def outS (s : ByteArray) : ByteArray := ⟨(esc (by' s)).toArray⟩
theorem by_out (s : ByteArray) : by' (outS s) = esc (by' s) := by simp [outS, by']

theorem by_from (s : ByteArray) (a : Nat) : by' (s.extract a s.size) = (by' s).drop a := by
  rw [by_extract, List.take_of_length_le (by simp [by_length])]
theorem by_upto (s : ByteArray) (i : Nat) : by' (s.extract 0 i) = (by' s).take i := by
  rw [by_extract, List.drop_zero, Nat.sub_zero]
theorem size_by (s : ByteArray) : s.size = (by' s).length := rfl
theorem pre_g (s : ByteArray) (i : Nat) : (g (by' (s.extract (i + 1) s.size)) 0 == 47 && g (by' (s.extract (i + 1) s.size)) 1 == 47) = (g (by' s) (i + 1) == 47 && g (by' s) (i + 2) == 47) := by
  rw [by_from, g_drop, g_drop]
theorem suf_g (s : ByteArray) (i : Nat) (h : i ≤ s.size) :
    (decide (3 ≤ (s.extract 0 i).size) && g (by' (s.extract 0 i)) ((s.extract 0 i).size - 3) == 119 && g (by' (s.extract 0 i)) ((s.extract 0 i).size - 2) == 119 && g (by' (s.extract 0 i)) ((s.extract 0 i).size - 1) == 119)
      = (decide (3 ≤ i) && g (by' s) (i - 3) == 119 && g (by' s) (i - 2) == 119 && g (by' s) (i - 1) == 119) := by
  have e : (s.extract 0 i).size = i := by rw [size_by, by_upto, List.length_take, by_length]; omega
  rw [e, by_upto]
  by_cases h3 : 3 ≤ i
  · rw [g_take _ _ _ (by omega), g_take _ _ _ (by omega), g_take _ _ _ (by omega)]
  · rw [decide_eq_false h3]; rfl
theorem cut_size (s : ByteArray) (a b : Nat) (h : b ≤ s.size) : (s.extract a b).size = b - a := by
  rw [size_by, by_extract, List.length_take, List.length_drop, by_length]; omega

theorem mark58 {l : List UInt8} {j : Nat} (h : g l j = 58) : markB l j = (g l (j + 1) == 47 && g l (j + 2) == 47) := by
  unfold markB; rw [h]; simp [special]
theorem mark46 {l : List UInt8} {j : Nat} (h : g l j = 46) : markB l j = (decide (3 ≤ j) && g l (j - 3) == 119 && g l (j - 2) == 119 && g l (j - 1) == 119) := by
  unfold markB; rw [h]; simp [special]
theorem mark_none {l : List UInt8} {j : Nat} (h1 : ¬ special (g l j) = true) (h2 : ¬ g l j = 58) (h3 : ¬ g l j = 46) : markB l j = false := by
  unfold markB; simp [h1, h2, h3]

/-- What the loop holds. -/
def Said (l : List UInt8) (i la : Nat) (xs : List UInt8) (bv : Value) : Prop := xs ++ (l.drop la).take (i - la) = escTo l i ∧ (bv = .slice none 0 0 → xs = [] ∧ la = 0)
theorem said_plain {l : List UInt8} {i la : Nat} {xs : List UInt8} {bv : Value} (h : Said l i la xs bv) (hm : markB l i = false) (h1 : la ≤ i) (h2 : i < l.length) : Said l (i + 1) la xs bv := by
  refine ⟨?_, h.2⟩
  rw [cut_succ l la i h1 h2, ← List.append_assoc, h.1, escTo, piece, hm]
  rfl
theorem said_mark {l : List UInt8} {i la : Nat} {xs : List UInt8} {bv bw : Value} (h : Said l i la xs bv) (hm : markB l i = true) (h2 : i < l.length) (hb : ¬ bw = .slice none 0 0) : Said l (i + 1) i (xs ++ (l.drop la).take (i - la) ++ [92]) bw := by
  refine ⟨?_, fun e => absurd e hb⟩
  rw [cut_succ l i i (Nat.le_refl _) h2, h.1, escTo, piece, hm]
  simp
theorem said_end {l : List UInt8} {la : Nat} {xs : List UInt8} {bv : Value} (h : Said l l.length la xs bv) : xs ++ l.drop la = esc l := by
  have := h.1
  rw [List.take_of_length_le (by simp)] at this
  exact this

theorem esc_short (s : ByteArray) (j : Nat) (h : j ≤ s.size) : (escTo (by' s) j).length ≤ 2 * s.size := by
  rw [escTo_length]; have := cnt_le (by' s) j; omega
theorem said_len {l : List UInt8} {i la : Nat} {xs : List UInt8} {bv : Value} (h : Said l i la xs bv) : xs.length ≤ (escTo l i).length := by
  rw [← h.1]; simp

set_option maxHeartbeats 4000000 in
set_option maxRecDepth 1000000 in
theorem text_any (s : ByteArray) (hs : s.size ≤ 200000) (w : World) :
    Calls Try.prog 10 #[.string s] w fun e w' => e = .returned (.string (outS s)) ∧ Below w.heap.size w w' := by
  obtain ⟨i0, hi, hz0, hz1, hz2⟩ := info_parts info5
  have HI : Hid (Try.prog.info? 5 = some i0 ∧ i0.zero = some (.int .u8 0) ∧ i0.size = 1 ∧ i0.bytes = 1) := ⟨hi, hz0, hz1, hz2⟩
  clear hi hz0 hz1 hz2
  go_enter Try.func10, Try.ntmps10
  go_wp2
  go_loopg [5, 3, 4] s.size (fun gg iv bv lv wr => ∃ (i la : Nat) (xs : List UInt8), i ≤ s.size ∧ la ≤ i ∧ gg = s.size - i ∧ iv = .int .i64 i ∧ lv = .int .i64 la ∧
    Hid (wr.ownsRow w.heap.size 5 1 bv xs.length (cellsOf xs)) ∧ Below w.heap.size w wr ∧ Hid (Said (by' s) i la xs bv))
  case atStart => exact ⟨0, 0, [], by omega, by omega, rfl, rfl, rfl, World.ownsRow_nil _ _ _ _, Below.refl _ _, ⟨by simp [escTo], fun _ => ⟨rfl, rfl⟩⟩⟩
  case round =>
    obtain ⟨i, la, xs, hin, hla, rfl, rfl, rfl, hown, hbel, HX⟩ := hrel
    by_cases hlt : i < s.size
    · have hc := at_g s i hlt
      obtain ⟨c, hcc⟩ : ∃ c, g (by' s) i = c := ⟨_, rfl⟩
      rw [hcc] at hc
      have HCC : Hid (g (by' s) i = c) := hcc
      clear hcc
      go_upto_block 2 with fail
      go_cut [6, 15, 16, 28, 35] (fun ev _ _ _ _ wc => ev = .bool (markB (by' s) i) ∧ wr = wc)
      case first =>
        by_cases hsp : special c = true
        · have HM : Hid (markB (by' s) i = true) := mark_special (by rw [HCC.out]; exact hsp)
          have hsp := special_cases hsp
          clear HCC
          rcases hsp with rfl | rfl | rfl | rfl | rfl | rfl | rfl | rfl | rfl | rfl | rfl
          all_goals
            go_wp2_with fail
            go_meet
            exact ⟨by rw [HM.out], rfl⟩
        · by_cases h58 : c = 58
          · subst h58
            have HM : Hid (markB (by' s) i = _) := mark58 HCC.out
            clear hsp HCC
            go_wp2_with fail
            refine (begins_any (s.extract (i + 1) s.size) (by rw [cut_size _ _ _ (Nat.le_refl _)]; omega) _).mono ?_
            rintro e w1 ⟨rfl, rfl⟩
            rw [pre_g]
            rw [← HM.out]
            go_wp2_with fail
            go_meet
            exact ⟨rfl, rfl⟩
          · by_cases h46 : c = 46
            · subst h46
              have HM : Hid (markB (by' s) i = _) := mark46 HCC.out
              clear hsp h58 HCC
              go_wp2_with fail
              refine (ends_any (s.extract 0 i) (by rw [cut_size _ _ _ hin]; omega) _).mono ?_
              rintro e w1 ⟨rfl, rfl⟩
              rw [suf_g s i hin]
              rw [← HM.out]
              go_wp2_with fail
              go_meet
              exact ⟨rfl, rfl⟩
            · have HM : Hid (markB (by' s) i = false) := mark_none (by rw [HCC.out]; exact hsp) (by rw [HCC.out]; exact h58) (by rw [HCC.out]; exact h46)
              obtain ⟨n1, n2, n3, n4, n5, n6, n7, n8, n9, n10, n11⟩ := not_special hsp
              clear hsp HCC
              go_wp2_with fail
              go_meet
              exact ⟨by rw [HM.out], rfl⟩
      case rest =>
        obtain ⟨rfl, rfl⟩ := hcut
        clear hc HCC
        have hxl := said_len HX.out
        have hel := esc_short s i hin
        cases hm : markB (by' s) i
        · have HM : Hid (markB (by' s) i = false) := hm
          clear hm
          go_wp2
          go_roundg (s.size - (i + 1))
          case measure => omega
          case rel => exact ⟨i + 1, la, xs, by omega, by omega, rfl, by go_num, rfl, hown, hbel, said_plain HX.out HM.out hla hlt⟩
        · have HM : Hid (markB (by' s) i = true) := hm
          clear hm
          go_wp2_with (first
            | (at_builtin; refine Lib.wpList_append_own_string _ rfl _ _ 27 9 rfl w.heap.size 5 i0 Try.underlying27 Try.underlying9 HI.out.1 HI.out.2.1 HI.out.2.2.1 HI.out.2.2.2 _ _ _ rfl hown.out (s.extract la i) rfl ?c1 ?c2 ?c3 ?_)
            | go_in)
          case c1 => rw [cut_size _ _ _ hin]; unfold maxLen; omega
          case c2 => rw [cut_size _ _ _ hin]; omega
          case c3 => exact hbel.size
          intro v1 w1 hown1 hg1 hn1
          have hb1 := hbel.grown hg1 hbel.size (fun k hk => ((hown.out.lt) k hk).1)
          have O1 : Hid (w1.ownsRow w.heap.size 5 1 v1 (xs.length + (i - la)) (cellsOf xs ++ Lib.strCells (s.extract la i))) := hown1
          clear hown1 hn1 hg1
          go_wp2_with (first
            | (at_builtin; refine wpList_append_own _ rfl _ _ 27 rfl w.heap.size 5 i0 (.int .u8 0) 1 1 Try.underlying27 HI.out.1 HI.out.2.1 HI.out.2.2.1 HI.out.2.2.2 rfl (by decide) _ _ _ rfl (O1.out.alloc _) ⟨w1.heap.size, 0, none⟩ 1 1 [.int .u8 92] rfl rfl ?d1 ?d2 ?d3 ?d4 ?d5 ?_)
            | go_in)
          case d1 =>
            intro j u hj
            match j, hj with
            | 0, hj => simp at hj; subst hj; simp [Addr.add]
          case d2 => intro u hu; simp at hu; subst hu; rfl
          case d3 => unfold maxLen; omega
          case d4 => omega
          case d5 => have := hb1.size; simp; omega
          intro v2 w2 hown2 hg2 hn2
          have hb2 := (hb1.alloc hb1.size _).grown hg2 (by have := hb1.size; simp; omega) (fun k hk => ((O1.out.lt) k hk).1)
          have hne : ¬ v2 = .slice none 0 0 := hn2
          have O2 : Hid (w2.ownsRow w.heap.size 5 1 v2 (xs ++ ((by' s).drop la).take (i - la) ++ [92]).length (cellsOf (xs ++ ((by' s).drop la).take (i - la) ++ [92]))) := by
            have e1 : (xs ++ ((by' s).drop la).take (i - la) ++ [92]).length = xs.length + (i - la) + 1 := by
              simp [by_length]; omega
            have e2 : cellsOf (xs ++ ((by' s).drop la).take (i - la) ++ [92]) = cellsOf xs ++ (Lib.strCells (s.extract la i) ++ [.int .u8 92]) := by
              rw [cells_append, cells_append, str_cells, by_extract, List.append_assoc]; rfl
            show World.ownsRow _ _ _ _ _ _ _
            rw [e1, e2]; exact hown2
          clear hown2 hg2 hn2 hb1 O1
          go_wp2
          go_roundg (s.size - (i + 1))
          case measure => omega
          case rel => exact ⟨i + 1, i, _, by omega, by omega, rfl, by go_num, rfl, O2, hb2, said_mark HX.out HM.out hlt hne⟩
    · obtain rfl : i = s.size := by omega
      have hsaid := HX.out
      rcases hown.out.2 with ⟨rfl, hxz⟩ | ⟨gb, cap, cur, rfl, r1, r2, r3, r4, r5, r6⟩
      · have hfin : outS s = s := by
          apply by_inj
          rw [by_out, ← said_end hsaid, (hsaid.2 rfl).1, (hsaid.2 rfl).2]
          rfl
        have HF : Hid (outS s = s) := hfin
        clear hsaid hfin
        have hnil := Lib.run_eql_slice_nil (P := Try.prog) wr 27 5 none 0 0 0 0 Try.underlying27
        go_wp2
        go_ret
        exact ⟨by rw [HF.out]; rfl, hbel⟩
      · clear hsaid r1 r2 r3 r4 r5 r6
        have hxl := said_len HX.out
        have hel := esc_short s s.size (Nat.le_refl _)
        have hnil := Lib.run_eql_slice_nil (P := Try.prog) wr 27 5 (some ⟨gb, 0, none⟩) xs.length cap 0 0 Try.underlying27
        go_wp2_with (first
          | (at_builtin; refine Lib.wpList_append_own_string _ rfl _ _ 27 9 rfl w.heap.size 5 i0 Try.underlying27 Try.underlying9 HI.out.1 HI.out.2.1 HI.out.2.2.1 HI.out.2.2.2 _ _ _ rfl hown.out (s.extract la s.size) rfl ?c1 ?c2 ?c3 ?_)
          | go_in)
        case c1 => rw [cut_size _ _ _ (Nat.le_refl _)]; unfold maxLen; omega
        case c2 => rw [cut_size _ _ _ (Nat.le_refl _)]; omega
        case c3 => exact hbel.size
        intro v1 w1 hown1 hg1 hn1
        have hb1 := hbel.grown hg1 hbel.size (fun k hk => ((hown.out.lt) k hk).1)
        have hend := said_end HX.out
        have hcells : cellsOf xs ++ Lib.strCells (s.extract la s.size) = cellsOf (esc (by' s)) := by
          rw [str_cells, by_from, ← cells_append, hend]
        have hlen : xs.length + (s.size - la) = (esc (by' s)).length := by
          rw [← hend]; simp [by_length]
        rw [hcells] at hown1
        rcases hown1.2 with ⟨rfl, hz⟩ | ⟨g2, cap2, cur2, rfl, q1, q2, q3, q4, q5, q6⟩
        · exact absurd rfl hn1
        · have hcv := run_convert_bytes_back (P := Try.prog) w1 27 9 5 ⟨g2, 0, none⟩ cap2 (esc (by' s)) Try.underlying27 Try.underlying5 Try.underlying9
            (fun j hj => hown1.cells (g := g2) rfl j _ (by simp [cellsOf, hj]))
          rw [← hlen] at hcv
          have hcv2 : (convert 27 9 (.slice (some ⟨g2, 0, none⟩) (xs.length + (s.size - la)) cap2)).run Try.prog w1 = .ok (.string (outS s)) w1 := hcv
          clear hcv hn1 hown1 hcells hlen hend hg1 q1 q2 q3 q4 q5 q6
          go_wp2
          go_ret
          exact ⟨rfl, hb1⟩

theorem zztext_any (s : ByteArray) (hs : s.size ≤ 200000) (w : World) :
    Calls Try.prog 6 #[.string s] w fun e w' => e = .returned (.string (outS s)) ∧ Below w.heap.size w w' := by
  go_enter Try.func6, Try.ntmps6
  go_wp2_with fail
  refine (text_any s hs _).mono ?_
  rintro e w1 ⟨rfl, hb⟩
  go_wp2
  go_ret
  exact ⟨rfl, hb⟩
end Go.Proofs.Qxb6619422a
