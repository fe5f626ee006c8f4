/-
  A PROOF OF 'Rows.FnEditsIgnoresCommonAffixesSaid'.
-/
import Derived.Test.Qxb6619364aConcat
import Derived.OpenShut
import Derived.ShutString
namespace Go.Proofs.Qxb6619364a.fnEditsIgnoresCommonAffixes
open Go.ChangeShapes Go.WideShapes Go.ChangeAt Go.RowKit
open Go.ChangeMaps (open_string shut_string)
open Lev
set_option linter.unusedVariables false

theorem own : ownKnob Try.prog.godebug = none := by kernel_rfl

theorem since_mono {B B' : Nat} {w w' : World} (h : w.Since B' w') (hb : B ≤ B') : w.Since B w' :=
  ⟨h.os, h.tape, h.output, h.size, fun k hk => h.block k (Nat.lt_of_lt_of_le hk hb)⟩

/-- A row of runes that a slice shows. -/
def Src (w : World) (l : List Int) (A : Option Addr) : Prop := ∀ i, i < l.length → ∃ p, A = some ⟨p, 0, none⟩ ∧ p < w.heap.size ∧ w.cell? ⟨p, i, none⟩ = some (.int .i32 (fn l i))
theorem Src.since {w w' : World} {l : List Int} {A : Option Addr} (h : Src w l A) (s : w.Since w.heap.size w') : Src w' l A := fun i hi => by
  obtain ⟨p, e, hp, hc⟩ := h i hi
  exact ⟨p, e, Nat.lt_of_lt_of_le hp s.size, by rw [s.cell (a := ⟨p, i, none⟩) hp]; exact hc⟩
theorem src_nil (w : World) (A : Option Addr) : Src w [] A := fun i hi => absurd hi (Nat.not_lt_zero _)
theorem src_row {w : World} {b k : Nat} {l : List Int} (h : w.rowIs b 21 k (fun i => .int .i32 (fn l i))) (hk : l.length ≤ k) : Src w l (some ⟨b, 0, none⟩) :=
  fun i hi => ⟨b, rfl, h.lt, h.cell (by omega)⟩

theorem cat_str (a b c : List Int) (A B C : Option Addr) (ka kb kc : Nat) (w : World) (hl : a.length + b.length + c.length ≤ 1000000) (ha : Src w a A) (hb : Src w b B) (hc : Src w c C) :
    Calls Try.prog 10 #[.slice A a.length ka, .slice B b.length kb, .slice C c.length kc] w fun e w' =>
      e = .returned (.slice (some ⟨w.heap.size, 0, none⟩) (a.length + b.length + c.length) (a.length + b.length + c.length)) ∧ w.Since w.heap.size w' ∧
      (convert 25 9 (.slice (some ⟨w.heap.size, 0, none⟩) (a.length + b.length + c.length) (a.length + b.length + c.length))).run Try.prog w' = .ok (.string (runesBytes (a ++ b ++ c))) w' := by
  refine (concat_any a b c A B C ka kb kc w hl ha hb hc).mono ?_
  rintro e w1 ⟨rfl, h1, h2, h3⟩
  refine ⟨rfl, h1, ?_⟩
  have := run_convert_runes (P := Try.prog) w1 25 9 21 ⟨w.heap.size, 0, none⟩ (a.length + b.length + c.length) (a.length + b.length + c.length) (a ++ b ++ c) (by simp; omega) Try.underlying25 Try.underlying21 Try.underlying9
    (fun j hj => by
      have h4 := h3.cell (i := j) (by simp at hj; omega)
      have e : (⟨w.heap.size, 0, none⟩ : Addr).add j = ⟨w.heap.size, j, none⟩ := by
        by_cases hz : j = 0
        · subst hz; rfl
        · simp [Addr.add]
          intro h; exact absurd h hz
      rw [e, h4]
      rfl)
  rw [this, List.take_of_length_le (by simp; omega)]

theorem edits_lit (v : Nat) (a b : ByteArray) (ha : a.size ≤ 1000000) (hb : b.size ≤ 1000000) (hv : dist (runes a) (runes b) = v) (w : World) :
    Calls Try.prog 7 #[.string a, .string b] w fun e w' => e = .returned (.int .i64 v) ∧ w.Since w.heap.size w' := by
  subst hv; exact zzedits_any a b ha hb w

/-- zzBytes answers, and leaves the world as it was. -/
theorem bytes_any (a b p q : ByteArray) (w : World) :
    Calls Try.prog 9 #[.string a, .string b, .string p, .string q] w fun e w' => ∃ v, e = .returned (.bool v) ∧ w' = w ∧ (a.size ≤ 4096 → b.size ≤ 4096 → p.size ≤ 4096 → q.size ≤ 4096 → v = true) := by
  by_cases h1 : 1048576 < a.size
  · go_enter Try.func9, Try.ntmps9
    go_wp2
    go_ret
    exact ⟨_, rfl, rfl, fun _ _ _ _ => by omega⟩
  · by_cases h2 : 1048576 < b.size
    · go_enter Try.func9, Try.ntmps9
      go_wp2
      go_ret
      exact ⟨_, rfl, rfl, fun _ _ _ _ => by omega⟩
    · by_cases h3 : 1048576 < a.size + b.size
      · go_enter Try.func9, Try.ntmps9
        go_wp2
        go_ret
        exact ⟨_, rfl, rfl, fun _ _ _ _ => by omega⟩
      · by_cases h4 : 1048576 < p.size
        · go_enter Try.func9, Try.ntmps9
          go_wp2
          go_ret
          exact ⟨_, rfl, rfl, fun _ _ _ _ => by omega⟩
        · by_cases h5 : 1048576 < a.size + b.size + p.size
          · go_enter Try.func9, Try.ntmps9
            go_wp2
            go_ret
            exact ⟨_, rfl, rfl, fun _ _ _ _ => by omega⟩
          · by_cases h6 : 1048576 < q.size
            · go_enter Try.func9, Try.ntmps9
              go_wp2
              go_ret
              exact ⟨_, rfl, rfl, fun _ _ _ _ => by omega⟩
            · by_cases h7 : 1048576 < a.size + b.size + p.size + q.size
              · go_enter Try.func9, Try.ntmps9
                go_wp2
                go_ret
                exact ⟨_, rfl, rfl, fun _ _ _ _ => by omega⟩
              · go_enter Try.func9, Try.ntmps9
                go_wp2
                go_ret
                exact ⟨_, rfl, rfl, fun _ _ _ _ => rfl⟩

/-- The four rows of runes that the function makes first. -/
theorem four (w V1 V2 V3 : World) (a b p q : ByteArray) :
    let W := ((((w.alloc (runeObj w a)).alloc (runeObj V1 b)).alloc (runeObj V2 p)).alloc (runeObj V3 q)).drew.drew.drew.drew
    w.Since w.heap.size W ∧ Src W (runes a) (some ⟨w.heap.size, 0, none⟩) ∧ Src W (runes b) (some ⟨w.heap.size + 1, 0, none⟩) ∧
      Src W (runes p) (some ⟨w.heap.size + 1 + 1, 0, none⟩) ∧ Src W (runes q) (some ⟨w.heap.size + 1 + 1 + 1, 0, none⟩) := by
  intro W
  have r1 := rune_row w w a
  have r2 := rune_row V1 (w.alloc (runeObj w a)) b
  have r3 := rune_row V2 ((w.alloc (runeObj w a)).alloc (runeObj V1 b)) p
  have r4 := rune_row V3 (((w.alloc (runeObj w a)).alloc (runeObj V1 b)).alloc (runeObj V2 p)) q
  simp at r1 r2 r3 r4
  refine ⟨?_, src_row (((r1.alloc _).alloc _).alloc _).drew.drew.drew.drew (cap_ge _ _), src_row ((r2.alloc _).alloc _).drew.drew.drew.drew (cap_ge _ _), src_row (r3.alloc _).drew.drew.drew.drew (cap_ge _ _), src_row r4.drew.drew.drew.drew (cap_ge _ _)⟩
  exact (((((World.Since.refl _ _).alloc (by simp) _).alloc (by simp) _).alloc (by simp; omega) _).alloc (by simp; omega) _).drew.drew.drew.drew

/-- .. and whatever has come behind them. -/
theorem after {w V1 V2 V3 : World} {a b p q : ByteArray} {w2 : World}
    (h : World.Since (((((w.alloc (runeObj w a)).alloc (runeObj V1 b)).alloc (runeObj V2 p)).alloc (runeObj V3 q)).drew.drew.drew.drew).heap.size (((((w.alloc (runeObj w a)).alloc (runeObj V1 b)).alloc (runeObj V2 p)).alloc (runeObj V3 q)).drew.drew.drew.drew) w2) :
    w.Since w.heap.size w2 ∧ Src w2 (runes a) (some ⟨w.heap.size, 0, none⟩) ∧ Src w2 (runes b) (some ⟨w.heap.size + 1, 0, none⟩) ∧
      Src w2 (runes p) (some ⟨w.heap.size + 1 + 1, 0, none⟩) ∧ Src w2 (runes q) (some ⟨w.heap.size + 1 + 1 + 1, 0, none⟩) ∧
      (((((w.alloc (runeObj w a)).alloc (runeObj V1 b)).alloc (runeObj V2 p)).alloc (runeObj V3 q)).drew.drew.drew.drew).heap.size = w.heap.size + 1 + 1 + 1 + 1 := by
  obtain ⟨f0, f1, f2, f3, f4⟩ := four w V1 V2 V3 a b p q
  exact ⟨f0.trans (since_mono h f0.size), f1.since h, f2.since h, f3.since h, f4.since h, by simp⟩

theorem valid3 (a b c : ByteArray) : ∀ x ∈ runes a ++ runes b ++ runes c, Utf8.valid x = true := by
  intro x hx
  rcases List.mem_append.1 hx with hx | hx
  · rcases List.mem_append.1 hx with hx | hx
    · exact runes_valid a x hx
    · exact runes_valid b x hx
  · exact runes_valid c x hx
theorem valid2 (a c : ByteArray) : ∀ x ∈ runes a ++ [] ++ runes c, Utf8.valid x = true := by
  intro x hx
  rw [List.append_nil] at hx
  rcases List.mem_append.1 hx with hx | hx
  · exact runes_valid a x hx
  · exact runes_valid c x hx
theorem back3 (a b c : ByteArray) : runes (runesBytes (runes a ++ (runes b ++ runes c))) = runes a ++ runes b ++ runes c := by
  rw [← List.append_assoc]; exact runes_back _ (valid3 a b c)
theorem back2 (a c : ByteArray) : runes (runesBytes (runes a ++ runes c)) = runes a ++ [] ++ runes c := by
  have := runes_back _ (valid2 a c)
  simpa using this
theorem d_whole (a b p q : ByteArray) : dist (runes (runesBytes (runes p ++ (runes a ++ runes q)))) (runes (runesBytes (runes p ++ (runes b ++ runes q)))) = dist (runes a) (runes b) := by
  rw [back3, back3, affix_whole]
theorem d_cut (a p q : ByteArray) : dist (runes (runesBytes (runes p ++ (runes a ++ runes q)))) (runes (runesBytes (runes p ++ runes q))) = (runes a).length := by
  rw [back3, back2, affix_cut]
theorem d_put (b p q : ByteArray) : dist (runes (runesBytes (runes p ++ runes q))) (runes (runesBytes (runes p ++ (runes b ++ runes q)))) = (runes b).length := by
  rw [back3, back2, affix_put]
theorem short (l : List Int) (h : l.length ≤ 20000) : (runesBytes l).size ≤ 1000000 := by
  have := runesBytes_size_le l
  omega

set_option maxHeartbeats 4000000 in
theorem walk_in (a b p q : ByteArray) (ha : a.size ≤ 4096) (hb : b.size ≤ 4096) (hp : p.size ≤ 4096) (hq : q.size ≤ 4096) (w : World) :
    Calls Try.prog 4 #[.string a, .string b, .string p, .string q] w fun e w' => e = .returned (.bool true) ∧ w.Since w.heap.size w' := by
  have hc1 := conv_law a (by omega)
  have hc2 := conv_law b (by omega)
  have hc3 := conv_law p (by omega)
  have hc4 := conv_law q (by omega)
  go_enter Try.func4, Try.ntmps4
  go_wp2_with fail
  refine (bytes_any a b p q _).mono ?_
  rintro e w1 ⟨v, rfl, rfl, hv⟩
  obtain rfl := hv ha hb hp hq
  clear hv
  have la := runes_length a
  have lb := runes_length b
  have lp := runes_length p
  have lq := runes_length q
  go_wp2_with fail
  refine (cat_str (runes p) (runes a) (runes q) _ _ _ _ _ _ _ (by omega) (four _ _ _ _ a b p q).2.2.2.1 (four _ _ _ _ a b p q).2.1 (four _ _ _ _ a b p q).2.2.2.2).mono ?_
  rintro e w2 ⟨rfl, h2, hs2⟩
  obtain ⟨f0, f1, f2, f3, f4, f5⟩ := after h2
  rw [f5] at hs2
  clear f5
  clear h2 hc1 hc2 hc3 hc4
  go_wp2_with fail
  refine (cat_str (runes p) (runes b) (runes q) _ _ _ _ _ _ _ (by omega) f3 f2 f4).mono ?_
  rintro e w3 ⟨rfl, h3, hs3⟩
  have f0 := f0.trans (since_mono h3 f0.size)
  have f3 := f3.since h3
  have f4 := f4.since h3
  clear f1 f2 hs2
  go_wp2_with fail
  refine (cat_str (runes p) [] (runes q) _ _ _ _ _ _ _ (by simp; omega) f3 (src_nil _ _) f4).mono ?_
  rintro e w4 ⟨rfl, h4, hs4⟩
  have f0 := f0.trans (since_mono h4 f0.size)
  clear f3 f4 hs3 h3
  simp only [List.length_nil, Nat.add_zero] at hs4
  have sx := short (runes p ++ (runes a ++ runes q)) (by simp; omega)
  have sy := short (runes p ++ (runes b ++ runes q)) (by simp; omega)
  have sz := short (runes p ++ runes q) (by simp; omega)
  go_wp2_with fail
  refine (edits_lit (dist (runes a) (runes b)) a b (by omega) (by omega) rfl _).mono ?_
  rintro e w5 ⟨rfl, h5⟩
  go_wp2_with fail
  refine (edits_lit (dist (runes a) (runes b)) _ _ sx sy (d_whole a b p q) _).mono ?_
  rintro e w6 ⟨rfl, h6⟩
  go_wp2_with fail
  refine (edits_lit (runes a).length _ _ sx sz (d_cut a p q) _).mono ?_
  rintro e w7 ⟨rfl, h7⟩
  go_wp2_with fail
  refine (edits_lit (runes b).length _ _ sz sy (d_put b p q) _).mono ?_
  rintro e w8 ⟨rfl, h8⟩
  have f5 := f0.trans (since_mono h5 f0.size)
  have f6 := f5.trans (since_mono h6 f5.size)
  have f7 := f6.trans (since_mono h7 f6.size)
  have f8 := f7.trans (since_mono h8 f7.size)
  clear hs4 h4 h5 h6 h7 h8 f0 f5 f6 f7
  go_wp2
  go_ret
  exact ⟨rfl, f8⟩

theorem walk (a b p q : ByteArray) (w : World) :
    Calls Try.prog 4 #[.string a, .string b, .string p, .string q] w fun e w' => e = .returned (.bool true) ∧ w.Since w.heap.size w' := by
  by_cases h1 : 4096 < a.size
  · go_enter Try.func4, Try.ntmps4
    go_wp2_with fail
    refine (bytes_any a b p q _).mono ?_
    rintro e w1 ⟨v, rfl, rfl, hv⟩
    clear hv
    cases v
    all_goals
      go_wp2
      go_ret
      exact ⟨rfl, World.Since.refl _ _⟩
  · by_cases h2 : 4096 < b.size
    · go_enter Try.func4, Try.ntmps4
      go_wp2_with fail
      refine (bytes_any a b p q _).mono ?_
      rintro e w1 ⟨v, rfl, rfl, hv⟩
      clear hv
      cases v
      all_goals
        go_wp2
        go_ret
        exact ⟨rfl, World.Since.refl _ _⟩
    · by_cases h3 : 4096 < p.size
      · go_enter Try.func4, Try.ntmps4
        go_wp2_with fail
        refine (bytes_any a b p q _).mono ?_
        rintro e w1 ⟨v, rfl, rfl, hv⟩
        clear hv
        cases v
        all_goals
          go_wp2
          go_ret
          exact ⟨rfl, World.Since.refl _ _⟩
      · by_cases h4 : 4096 < q.size
        · go_enter Try.func4, Try.ntmps4
          go_wp2_with fail
          refine (bytes_any a b p q _).mono ?_
          rintro e w1 ⟨v, rfl, rfl, hv⟩
          clear hv
          cases v
          all_goals
            go_wp2
            go_ret
            exact ⟨rfl, World.Since.refl _ _⟩
        · exact walk_in a b p q (by omega) (by omega) (by omega) (by omega) w

/-! ### THE ROW's STEP: WRITTEN OUT: LEAVE IT -/
set_option maxRecDepth 100000 in
theorem lifted (os : Os) (started : os.Started) (H : Type) (enc : TypeId × Value → H) :
    ReturnsInHanded {} Try.checked os 4 .any (Rows.fnEditsIgnoresCommonAffixesSpec.pre6 enc Try.prog Try.f4 Rows.fnEditsIgnoresCommonAffixesRow.domain false) (Rows.fnEditsIgnoresCommonAffixesSpec.post enc Try.prog Try.f4 false true false false) := by
  refine returnsInHanded_of_change (C := Try.checked) own started (by kernel_rfl) Try.func4
    (ChangeSpec.witness6 (enc := enc) (C := Try.checked) false ⟨#[], #[.string ByteArray.empty, .string ByteArray.empty, .string ByteArray.empty, .string ByteArray.empty], []⟩ 8 (by kernel_rfl) (by kernel_rfl) (by kernel_rfl) (by kernel_rfl)) ?_
  intro W base args ds gs before hval0 hW hcnd _
  have hval : ∀ (j : Nat) t v, Try.f4.params[j]? = some t → args[j]? = some v → Value.okWide Try.prog W .any base t v := hval0
  have hW' := hW
  obtain ⟨p, q, hA0, hV, rfl, hfz, hnd⟩ := hW
  have hA : DataW.TrodAll enc Try.prog W 0 (fun _ => true) true Try.f4.params.toList args.toList ds p := hA0
  rw [Try.params4] at hA hval
  obtain ⟨v0, vs0, d0, ds0, p0, q0, hargs, rfl, rfl, h0, r0⟩ := trodAll_cons hA
  obtain ⟨v1, vs1, d1, ds1, p1, q1, rfl, rfl, rfl, h1, r1⟩ := trodAll_cons r0
  obtain ⟨v2, vs2, d2, ds2, p2, q2, rfl, rfl, rfl, h2, r2⟩ := trodAll_cons r1
  obtain ⟨v3, vs3, d3, ds3, p3, q3, rfl, rfl, rfl, h3, r3⟩ := trodAll_cons r2
  obtain ⟨rfl, rfl, rfl⟩ := trodAll_nil r3
  obtain rfl : args = #[v0, v1, v2, v3] := by cases args; simp_all
  obtain ⟨rfl, rfl⟩ := trodVars_none hV
  obtain ⟨a0, rfl, rfl, rfl, w0⟩ := open_string Try.underlying9 (hval 0 9 v0 rfl rfl) h0
  obtain ⟨a1, rfl, rfl, rfl, w1⟩ := open_string Try.underlying9 (hval 1 9 v1 rfl rfl) h1
  obtain ⟨a2, rfl, rfl, rfl, w2⟩ := open_string Try.underlying9 (hval 2 9 v2 rfl rfl) h2
  obtain ⟨a3, rfl, rfl, rfl, w3⟩ := open_string Try.underlying9 (hval 3 9 v3 rfl rfl) h3
  clear hA0 hval0
  simp only [List.append_nil] at hW'
  refine (walk a0 a1 a2 a3 W).mono fun e W' ⟨he, hg⟩ => ?_
  subst he
  exact ⟨_, rfl, _, _, _, [], [], [], hW', (trodAll_cons_mk (shut_bool Try.underlying4 _) trodAll_mk0), (trodAll_cons_mk (shut_string Try.underlying9 w0) (trodAll_cons_mk (shut_string Try.underlying9 w1) (trodAll_cons_mk (shut_string Try.underlying9 w2) (trodAll_cons_mk (shut_string Try.underlying9 w3) trodAll_mk0)))), rfl, hg.frame _, fun h => by cases h⟩

theorem over : Rows.fnEditsIgnoresCommonAffixesRow.holds Try.pinned (OpenSpec.ofChange Rows.fnEditsIgnoresCommonAffixesSpec) :=
  OpenClaim.holds_of_wide 4 Try.f4 rfl rfl rfl rfl rfl rfl rfl ⟨rfl, rfl, rfl, rfl, rfl⟩ rfl rfl rfl rfl rfl (by kernel_rfl) Try.func4 (by kernel_rfl)
    (of_decide_eq_true (by kernel_rfl)) (by unfold Func.isWrapper; first | (rw [if_pos (by decide +kernel)]; kernel_rfl) | (rw [if_neg (by decide +kernel)]; exact ⟨rfl, rfl⟩))
    (fun os started H enc _ => lifted os started H enc)

/-- ████ THE STATEMENT ████ -/
theorem proved : Rows.FnEditsIgnoresCommonAffixesSaid :=
  over
end Go.Proofs.Qxb6619364a.fnEditsIgnoresCommonAffixes
