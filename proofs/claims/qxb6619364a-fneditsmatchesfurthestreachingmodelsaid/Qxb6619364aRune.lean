/-
  PLAIN: the runes of a string, as the conversion []rune(s) reads them; string(rs) read back gives rs, where each is a valid code point.
-/
import Derived.Test.Qxb6619364aRows
import Derived.Test.Qxb6619364aLev
import Derived.WalkKit
import Derived.ProofKit
import Derived.Laws.IdiomStrings
import Derived.Laws.Cover4
namespace Go.Proofs.Qxb6619364a

/-- The runes from byte i on. -/
def rl (s : ByteArray) : Nat → Nat → List Int
  | 0, _ => []
  | f + 1, i => if i < s.size then ((Utf8.decode s i).1 : Int) :: rl s f (i + (Utf8.decode s i).2) else []
/-- All runes of a string. -/
def runes (s : ByteArray) : List Int := rl s s.size 0

theorem conv_rl (s : ByteArray) : ∀ (f i : Nat) (acc : Array Value), Conv.runesFrom s f i acc = acc ++ ((rl s f i).map (Value.int .i32)).toArray
  | 0, _, acc => by simp [Conv.runesFrom, rl]
  | f + 1, i, acc => by
    unfold Conv.runesFrom rl
    split
    · simp only [conv_rl s f]
      simp
    · simp

theorem conv_runes (s : ByteArray) : Conv.runesFrom s s.size 0 #[] = ((runes s).map (Value.int .i32)).toArray := by
  rw [conv_rl]; simp [runes]

theorem rl_length (s : ByteArray) : ∀ f i, (rl s f i).length ≤ f
  | 0, _ => by simp [rl]
  | f + 1, i => by
    unfold rl
    split
    · have := rl_length s f (i + (Utf8.decode s i).2)
      simp; omega
    · simp
theorem runes_length (s : ByteArray) : (runes s).length ≤ s.size := rl_length s _ _

/-- What Utf8.decode reads, off four numbers and the number of bytes that are left. -/
def decN (z b0 b1 b2 b3 : Nat) : Nat × Nat :=
  if b0 < 128 then (b0, 1)
  else if b0 / 32 = 6 ∧ 1 < z ∧ b1 / 64 = 2 then
    if b0 % 32 * 64 + b1 % 64 ≥ 128 then (b0 % 32 * 64 + b1 % 64, 2) else (65533, 1)
  else if b0 / 16 = 14 ∧ (1 < z ∧ b1 / 64 = 2) ∧ (2 < z ∧ b2 / 64 = 2) then
    if b0 % 16 * 4096 + b1 % 64 * 64 + b2 % 64 ≥ 2048 ∧ Utf8.valid ((b0 % 16 * 4096 + b1 % 64 * 64 + b2 % 64 : Nat) : Int) = true then (b0 % 16 * 4096 + b1 % 64 * 64 + b2 % 64, 3) else (65533, 1)
  else if b0 / 8 = 30 ∧ (1 < z ∧ b1 / 64 = 2) ∧ (2 < z ∧ b2 / 64 = 2) ∧ (3 < z ∧ b3 / 64 = 2) then
    if b0 % 8 * 262144 + b1 % 64 * 4096 + b2 % 64 * 64 + b3 % 64 ≥ 65536 ∧ Utf8.valid ((b0 % 8 * 262144 + b1 % 64 * 4096 + b2 % 64 * 64 + b3 % 64 : Nat) : Int) = true then (b0 % 8 * 262144 + b1 % 64 * 4096 + b2 % 64 * 64 + b3 % 64, 4) else (65533, 1)
  else (65533, 1)

theorem decode_eq (s : ByteArray) (i : Nat) : Utf8.decode s i = decN (s.size - i) (s.get! i).toNat (s.get! (i + 1)).toNat (s.get! (i + 2)).toNat (s.get! (i + 3)).toNat := by
  have e1 : (i + 1 < s.size) ↔ 1 < s.size - i := by omega
  have e2 : (i + 2 < s.size) ↔ 2 < s.size - i := by omega
  have e3 : (i + 3 < s.size) ↔ 3 < s.size - i := by omega
  unfold Utf8.decode decN Utf8.runeError
  simp only [Bool.and_eq_true, decide_eq_true_eq, beq_iff_eq, e1, e2, e3, and_assoc]
  rfl

theorem decode_valid (s : ByteArray) (i : Nat) : Utf8.valid ((Utf8.decode s i).1 : Int) = true := by
  rw [decode_eq]
  generalize s.size - i = z
  generalize (s.get! i).toNat = b0
  generalize (s.get! (i + 1)).toNat = b1
  generalize (s.get! (i + 2)).toNat = b2
  generalize (s.get! (i + 3)).toNat = b3
  unfold decN
  repeat' split
  all_goals first
    | decide
    | (rename_i hh; exact hh.2)
    | (simp only [Utf8.valid]; simp; omega)

theorem rl_valid (s : ByteArray) : ∀ f i, ∀ x ∈ rl s f i, Utf8.valid x = true
  | 0, _ => by simp [rl]
  | f + 1, i => by
    unfold rl
    split
    · intro x hx
      rcases List.mem_cons.1 hx with rfl | hx
      · exact decode_valid s i
      · exact rl_valid s f _ x hx
    · simp
theorem runes_valid (s : ByteArray) : ∀ x ∈ runes s, Utf8.valid x = true := rl_valid s _ _

/-- The bytes of one rune. -/
def enc (n : Int) : List UInt8 := (Utf8.encode n).data.toList
theorem foldl_bytes (ns : List Int) : ∀ s : ByteArray, (ns.foldl (fun r n => r ++ Utf8.encode n) s).data.toList = s.data.toList ++ ns.flatMap enc := by
  induction ns with
  | nil => intro s; simp
  | cons n ns ih =>
    intro s
    rw [List.foldl_cons, ih]
    simp [enc]
theorem runesBytes_list (ns : List Int) : (runesBytes ns).data.toList = ns.flatMap enc := by
  have := foldl_bytes ns ByteArray.empty
  simpa [runesBytes] using this

theorem get_at (s : ByteArray) (p e r : List UInt8) (h : s.data.toList = p ++ (e ++ r)) (k : Nat) (hk : k < e.length) : s.get! (p.length + k) = e[k] := by
  have e1 : s.get! (p.length + k) = s.data[p.length + k]! := rfl
  rw [e1, Array.getElem!_eq_getD, Array.getD_eq_getD_getElem?, ← Array.getElem?_toList, h, List.getElem?_append_right (by omega), List.getElem?_append_left (by omega)]
  simp [hk]
theorem size_list (s : ByteArray) : s.size = s.data.toList.length := rfl

theorem b_toNat (n : Nat) (h : n < 256) : (UInt8.ofNat n).toNat = n := by
  rw [UInt8.toNat_ofNat']; omega

theorem valid_nat (c : Nat) : Utf8.valid (c : Int) = true ↔ (c < 55296 ∨ 57344 ≤ c) ∧ c ≤ 1114111 := by
  simp [Utf8.valid]; omega

/-- Utf8.encode, off the code point's number. -/
def encN (c : Nat) : ByteArray :=
  if c < 128 then ⟨#[UInt8.ofNat c]⟩
  else if c < 2048 then ⟨#[UInt8.ofNat (192 + c / 64), UInt8.ofNat (128 + c % 64)]⟩
  else if c < 65536 then ⟨#[UInt8.ofNat (224 + c / 4096), UInt8.ofNat (128 + c / 64 % 64), UInt8.ofNat (128 + c % 64)]⟩
  else ⟨#[UInt8.ofNat (240 + c / 262144), UInt8.ofNat (128 + c / 4096 % 64), UInt8.ofNat (128 + c / 64 % 64), UInt8.ofNat (128 + c % 64)]⟩
theorem encode_eq (n : Int) : Utf8.encode n = encN (if Utf8.valid n = true then n.toNat else 65533) := rfl
theorem encode_ok (n : Int) (k : Nat) (hk : n.toNat = k) (hn : Utf8.valid n = true) : Utf8.encode n = encN k := by
  rw [encode_eq, if_pos hn, hk]
theorem enc_eq (n : Int) (c : Nat) (hc : n.toNat = c) (hn : Utf8.valid n = true) : enc n = (encN c).data.toList := by
  unfold enc; rw [encode_ok n c hc hn]
theorem enc1 (n : Int) (c : Nat) (hc : n.toNat = c) (hn : Utf8.valid n = true) (h : c < 128) : enc n = [UInt8.ofNat c] := by
  rw [enc_eq n c hc hn, encN, if_pos h]
theorem enc2 (n : Int) (c : Nat) (hc : n.toNat = c) (hn : Utf8.valid n = true) (h : 128 ≤ c) (h' : c < 2048) : enc n = [UInt8.ofNat (192 + c / 64), UInt8.ofNat (128 + c % 64)] := by
  rw [enc_eq n c hc hn, encN, if_neg (by omega), if_pos h']
theorem enc3 (n : Int) (c : Nat) (hc : n.toNat = c) (hn : Utf8.valid n = true) (h : 2048 ≤ c) (h' : c < 65536) : enc n = [UInt8.ofNat (224 + c / 4096), UInt8.ofNat (128 + c / 64 % 64), UInt8.ofNat (128 + c % 64)] := by
  rw [enc_eq n c hc hn, encN, if_neg (by omega), if_neg (by omega), if_pos h']
theorem enc4 (n : Int) (c : Nat) (hc : n.toNat = c) (hn : Utf8.valid n = true) (h : 65536 ≤ c) : enc n = [UInt8.ofNat (240 + c / 262144), UInt8.ofNat (128 + c / 4096 % 64), UInt8.ofNat (128 + c / 64 % 64), UInt8.ofNat (128 + c % 64)] := by
  rw [enc_eq n c hc hn, encN, if_neg (by omega), if_neg (by omega), if_neg (by omega)]

theorem decN1 (z c b1 b2 b3 : Nat) (h : c < 128) : decN z c b1 b2 b3 = (c, 1) := by
  unfold decN; rw [if_pos h]
theorem decN2 (z c b2 b3 : Nat) (hz : 2 ≤ z) (h : 128 ≤ c) (h' : c < 2048) : decN z (192 + c / 64) (128 + c % 64) b2 b3 = (c, 2) := by
  have e : (192 + c / 64) % 32 * 64 + (128 + c % 64) % 64 = c := by omega
  unfold decN
  rw [e, if_neg (by omega), if_pos (by omega), if_pos (by omega)]
theorem decN3 (z c b3 : Nat) (hz : 3 ≤ z) (h : 2048 ≤ c) (h' : c < 65536) (hn : Utf8.valid (c : Int) = true) : decN z (224 + c / 4096) (128 + c / 64 % 64) (128 + c % 64) b3 = (c, 3) := by
  have e : (224 + c / 4096) % 16 * 4096 + (128 + c / 64 % 64) % 64 * 64 + (128 + c % 64) % 64 = c := by omega
  unfold decN
  rw [e, if_neg (by omega), if_neg (by omega), if_pos (by omega), if_pos ⟨h, hn⟩]
theorem decN4 (z c : Nat) (hz : 4 ≤ z) (h : 65536 ≤ c) (h' : c ≤ 1114111) (hn : Utf8.valid (c : Int) = true) : decN z (240 + c / 262144) (128 + c / 4096 % 64) (128 + c / 64 % 64) (128 + c % 64) = (c, 4) := by
  have e : (240 + c / 262144) % 8 * 262144 + (128 + c / 4096 % 64) % 64 * 4096 + (128 + c / 64 % 64) % 64 * 64 + (128 + c % 64) % 64 = c := by omega
  unfold decN
  rw [e, if_neg (by omega), if_neg (by omega), if_neg (by omega), if_pos (by omega), if_pos ⟨h, hn⟩]

theorem decode_enc (s : ByteArray) (p r : List UInt8) (n : Int) (c : Nat) (hc : n.toNat = c) (hi : (c : Int) = n) (hn : Utf8.valid n = true) (h : s.data.toList = p ++ (enc n ++ r)) :
    Utf8.decode s p.length = (c, (enc n).length) ∧ 0 < (enc n).length := by
  have hs : s.size - p.length = (enc n).length + r.length := by
    rw [size_list, h]; simp only [List.length_append]; omega
  have g : ∀ k, (hk : k < (enc n).length) → (s.get! (p.length + k)).toNat = ((enc n)[k]).toNat := fun k hk => by rw [get_at s p (enc n) r h k hk]
  have hm : Utf8.valid (c : Int) = true := by rw [hi]; exact hn
  have hv := (valid_nat c).1 hm
  rw [decode_eq, hs]
  clear h hs
  by_cases h1 : c < 128
  · have e := enc1 n c hc hn h1
    simp only [e] at g ⊢
    have g0 := g 0 (by simp)
    simp only [Nat.add_zero, List.getElem_cons_zero] at g0
    rw [b_toNat _ (by omega)] at g0
    rw [g0]
    exact ⟨decN1 _ _ _ _ _ h1, by simp⟩
  · by_cases h2 : c < 2048
    · have e := enc2 n c hc hn (by omega) h2
      simp only [e] at g ⊢
      have g0 := g 0 (by simp)
      have g1 := g 1 (by simp)
      simp only [Nat.add_zero, List.getElem_cons_zero, List.getElem_cons_succ] at g0 g1
      rw [b_toNat _ (by omega)] at g0 g1
      rw [g0, g1]
      exact ⟨decN2 _ _ _ _ (by simp) (by omega) h2, by simp⟩
    · by_cases h3 : c < 65536
      · have e := enc3 n c hc hn (by omega) h3
        simp only [e] at g ⊢
        have g0 := g 0 (by simp)
        have g1 := g 1 (by simp)
        have g2 := g 2 (by simp)
        simp only [Nat.add_zero, List.getElem_cons_zero, List.getElem_cons_succ] at g0 g1 g2
        rw [b_toNat _ (by omega)] at g0 g1 g2
        rw [g0, g1, g2]
        exact ⟨decN3 _ _ _ (by simp) (by omega) h3 hm, by simp⟩
      · have e := enc4 n c hc hn (by omega)
        simp only [e] at g ⊢
        have g0 := g 0 (by simp)
        have g1 := g 1 (by simp)
        have g2 := g 2 (by simp)
        have g3 := g 3 (by simp)
        simp only [Nat.add_zero, List.getElem_cons_zero, List.getElem_cons_succ] at g0 g1 g2 g3
        rw [b_toNat _ (by omega)] at g0 g1 g2 g3
        rw [g0, g1, g2, g3]
        exact ⟨decN4 _ _ (by simp) (by omega) hv.2 hm, by simp⟩

theorem rl_enc (s : ByteArray) : ∀ (ns : List Int) (p : List UInt8) (f : Nat), (∀ x ∈ ns, Utf8.valid x = true) → s.data.toList = p ++ ns.flatMap enc → (ns.flatMap enc).length ≤ f → rl s f p.length = ns
  | [], p, f, _, h, _ => by
    have : ¬ p.length < s.size := by rw [size_list, h]; simp
    cases f <;> simp [rl, this]
  | n :: ns, p, f, hv, h, hf => by
    have hn := hv n (by simp)
    have hi : ((n.toNat : Nat) : Int) = n := Int.toNat_of_nonneg (by simp [Utf8.valid] at hn; omega)
    rw [List.flatMap_cons] at h hf
    obtain ⟨hd, hp⟩ := decode_enc s p _ n n.toNat rfl hi hn h
    rw [List.length_append] at hf
    cases f with
    | zero => exact absurd (Nat.le_trans (Nat.le_add_right _ _) hf) (Nat.not_le.2 hp)
    | succ f =>
      have hlt : p.length < s.size := by rw [size_list, h]; simp only [List.length_append]; omega
      unfold rl
      rw [if_pos hlt, hd]
      have := rl_enc s ns (p ++ enc n) f (fun x hx => hv x (by simp [hx])) (by rw [h, List.append_assoc]) (by omega)
      rw [List.length_append] at this
      simp only [this, hi]

/-- string(rs), read back. -/
theorem runes_back (ns : List Int) (hv : ∀ x ∈ ns, Utf8.valid x = true) : runes (runesBytes ns) = ns := by
  have h := runesBytes_list ns
  exact rl_enc _ ns [] _ hv (by simpa using h) (by rw [size_list, h]; exact Nat.le_refl _)

end Go.Proofs.Qxb6619364a
