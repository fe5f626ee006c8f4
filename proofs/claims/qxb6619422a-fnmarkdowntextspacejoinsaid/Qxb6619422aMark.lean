/-
  mdMarkupAt: what it answers.
-/
import Derived.Test.Qxb6619422aRows
import Derived.Test.Qxb6619422aPlain
import Derived.WalkKit
import Derived.ProofKit
import Derived.WalkSpells
import Derived.WalkLawsBesides
import Derived.OpenShut
namespace Go.Proofs.Qxb6619422a
open Go.ChangeShapes Go.WideShapes Go.ChangeAt Go.RowKit

/-- A string's bytes. -/
def by' (s : ByteArray) : List UInt8 := s.data.toList
theorem by_length (s : ByteArray) : (by' s).length = s.size := rfl
theorem at_bt (s : ByteArray) (j : Nat) (h : j < s.size) : s[j] = bt (by' s) j := by
  have h' : j < s.data.size := h
  have e : s[j] = s.data[j] := rfl
  rw [e]
  simp only [bt, by', Array.getElem?_toList]
  rw [Array.getElem?_eq_getElem h']
  rfl
theorem at_g (s : ByteArray) (j : Nat) (h : j < s.size) : s[j].toNat = g (by' s) j := by
  unfold g; rw [at_bt s j h]
theorem g_out (s : ByteArray) (j : Nat) (h : s.size ≤ j) : g (by' s) j = 0 := by
  unfold g; rw [bt_out _ _ (by rw [by_length]; exact h)]; rfl

theorem special_cases {c : Nat} (h : special c = true) : c = 92 ∨ c = 96 ∨ c = 42 ∨ c = 95 ∨ c = 91 ∨ c = 93 ∨ c = 60 ∨ c = 62 ∨ c = 126 ∨ c = 38 ∨ c = 124 := by
  simp [special] at h; omega

theorem not_special {c : Nat} (h : ¬ special c = true) : ¬ c = 92 ∧ ¬ c = 96 ∧ ¬ c = 42 ∧ ¬ c = 95 ∧ ¬ c = 91 ∧ ¬ c = 93 ∧ ¬ c = 60 ∧ ¬ c = 62 ∧ ¬ c = 126 ∧ ¬ c = 38 ∧ ¬ c = 124 := by
  simp [special] at h; omega
theorem beq_cast (e k : Nat) : ((e : Int) == (k : Int)) = (e == k) := by
  rw [Bool.eq_iff_iff]; simp; omega

theorem mark_special {l : List UInt8} {j : Nat} (h : special (g l j) = true) : markB l j = true := by
  unfold markB; rw [h]; rfl

set_option maxHeartbeats 2000000 in
theorem mark_any (s : ByteArray) (j : Nat) (hj : j < s.size) (hs : s.size ≤ 1000000) (w : World) :
    Calls Try.prog 11 #[.string s, .int .i64 j] w fun e w' => e = .returned (.bool (markB (by' s) j)) ∧ w' = w := by
  have hc := at_g s j hj
  by_cases hsp : special (g (by' s) j) = true
  · have hm := mark_special hsp
    rw [hm]
    have hsp := special_cases hsp
    generalize g (by' s) j = c at hc hsp
    clear hm
    rcases hsp with rfl | rfl | rfl | rfl | rfl | rfl | rfl | rfl | rfl | rfl | rfl
    all_goals
      go_enter Try.func11, Try.ntmps11
      go_wp2
      go_ret
      exact ⟨rfl, rfl⟩
  · by_cases h58 : g (by' s) j = 58
    · have hm : markB (by' s) j = (g (by' s) (j + 1) == 47 && g (by' s) (j + 2) == 47) := by
        unfold markB; rw [h58]; simp [special]
      rw [hm]
      rw [h58] at hc
      clear hsp h58 hm
      by_cases h2 : j + 2 < s.size
      · have h1 : j + 1 < s.size := by omega
        have hd := at_g s (j + 1) h1
        have he := at_g s (j + 2) h2
        generalize g (by' s) (j + 1) = d at hd ⊢
        generalize g (by' s) (j + 2) = e at he ⊢
        by_cases hd47 : d = 47
        · subst hd47
          by_cases he47 : e = 47
          · subst he47
            go_enter Try.func11, Try.ntmps11
            go_wp2
            go_ret
            exact ⟨rfl, rfl⟩
          · go_enter Try.func11, Try.ntmps11
            go_wp2
            go_ret
            exact ⟨congrArg (fun b => Ending.returned (Value.bool b)) (beq_cast e 47), rfl⟩
        · go_enter Try.func11, Try.ntmps11
          go_wp2
          go_ret
          exact ⟨by simp [hd47], rfl⟩
      · rw [g_out s (j + 2) (by omega)]
        go_enter Try.func11, Try.ntmps11
        go_wp2
        go_ret
        exact ⟨by simp, rfl⟩
    · by_cases h46 : g (by' s) j = 46
      · have hm : markB (by' s) j = (decide (3 ≤ j) && g (by' s) (j - 3) == 119 && g (by' s) (j - 2) == 119 && g (by' s) (j - 1) == 119) := by
          unfold markB; rw [h46]; simp [special]
        rw [hm]
        rw [h46] at hc
        clear hsp h58 hm h46
        by_cases h3 : 3 ≤ j
        · obtain ⟨y, rfl⟩ : ∃ y, j = y + 3 := ⟨j - 3, by omega⟩
          rw [decide_eq_true h3, show y + 3 - 3 = y by omega, show y + 3 - 2 = y + 1 by omega, show y + 3 - 1 = y + 2 by omega]
          have hd := at_g s y (by omega)
          have he := at_g s (y + 1) (by omega)
          have hf := at_g s (y + 2) (by omega)
          generalize g (by' s) y = d at hd ⊢
          generalize g (by' s) (y + 1) = e at he ⊢
          generalize g (by' s) (y + 2) = f at hf ⊢
          by_cases hd1 : d = 119
          · subst hd1
            by_cases he1 : e = 119
            · subst he1
              by_cases hf1 : f = 119
              · subst hf1
                go_enter Try.func11, Try.ntmps11
                go_wp2
                go_ret
                exact ⟨rfl, rfl⟩
              · go_enter Try.func11, Try.ntmps11
                go_wp2
                go_ret
                exact ⟨congrArg (fun b => Ending.returned (Value.bool b)) (beq_cast f 119), rfl⟩
            · go_enter Try.func11, Try.ntmps11
              go_wp2
              go_ret
              exact ⟨by simp [he1], rfl⟩
          · go_enter Try.func11, Try.ntmps11
            go_wp2
            go_ret
            exact ⟨by simp [hd1], rfl⟩
        · rw [decide_eq_false h3]
          go_enter Try.func11, Try.ntmps11
          go_wp2
          go_ret
          exact ⟨by simp, rfl⟩
      · have hm : markB (by' s) j = false := by
          unfold markB; simp [h58, h46, hsp]
        rw [hm]
        generalize g (by' s) j = c at hc hsp h58 h46
        clear hm
        obtain ⟨n1, n2, n3, n4, n5, n6, n7, n8, n9, n10, n11⟩ := not_special hsp
        go_enter Try.func11, Try.ntmps11
        go_wp2
        go_ret
        exact ⟨rfl, rfl⟩

end Go.Proofs.Qxb6619422a
