/- Plain words: what a text means to the reference's lexer, behind a backslash and inside a string. No program in sight. -/
import Derived.Shelf.Unicode.DecodeSlow
namespace Go.Proofs.YthknielnhmoobaaGreatDoor
open Go.Lib

/-- The rune at a place, and its width; (RuneError, 0) at the end. -/
def rn (s : ByteArray) (i : Nat) : Nat × Nat := if i < s.size then Utf8.decode s i else (65533, 0)
/-- A byte; 0 behind the end. -/
def bt (s : ByteArray) (i : Nat) : Nat := if i < s.size then (s.get! i).toNat else 0

theorem get!_big (s : ByteArray) (i : Nat) (h : s.size ≤ i) : s.get! i = 0 := by
  cases s with
  | mk d =>
    show d[i]! = _
    have h' : d.size ≤ i := h
    rw [getElem!_def, Array.getElem?_eq_none h']
    rfl
theorem get!_extract (s : ByteArray) (i j : Nat) (hi : i ≤ s.size) : (s.extract i s.size).get! j = s.get! (i + j) := by
  by_cases h : i + j < s.size
  · rw [Utf8W.get!_of_lt _ _ (by simp; omega), Utf8W.get!_of_lt _ _ h]
    simp [ByteArray.getElem_extract]
  · rw [get!_big _ _ (by simp; omega), get!_big _ _ (by omega)]
theorem decode_extract (s : ByteArray) (i : Nat) (hi : i ≤ s.size) : decodeGo (s.extract i s.size) = rn s i := by
  unfold decodeGo rn
  have hs : (s.extract i s.size).size = s.size - i := by simp
  by_cases h : i < s.size
  · rw [if_neg (by omega), if_pos h, decode_at, decode_at, hs]
    simp only [get!_extract s i _ hi, Nat.sub_zero, Nat.zero_add, Nat.add_zero]
  · rw [if_pos (by omega), if_neg h]

theorem decodeN_pos (n b0 b1 b2 b3 : Nat) : 1 ≤ (decodeN n b0 b1 b2 b3).2 := by
  unfold decodeN
  repeat' split
  all_goals simp
theorem decodeN_fits (n b0 b1 b2 b3 : Nat) (hn : 1 ≤ n) : (decodeN n b0 b1 b2 b3).2 ≤ n := by
  unfold decodeN
  repeat' split
  all_goals (simp only; omega)
theorem decodeN_rune (n b0 b1 b2 b3 : Nat) : (decodeN n b0 b1 b2 b3).1 ≤ 1114111 := by
  unfold decodeN
  repeat' split
  all_goals (simp only; omega)
theorem decodeN_ascii (n b0 b1 b2 b3 : Nat) (h : (decodeN n b0 b1 b2 b3).1 < 128) : b0 = (decodeN n b0 b1 b2 b3).1 ∧ (decodeN n b0 b1 b2 b3).2 = 1 := by
  unfold decodeN at *
  repeat' split at *
  all_goals first | (simp only at *; omega) | simp_all
theorem rn_pos {s : ByteArray} {i : Nat} (h : i < s.size) : 1 ≤ (rn s i).2 := by
  unfold rn; rw [if_pos h, decode_at]; exact decodeN_pos _ _ _ _ _
theorem rn_le {s : ByteArray} {i : Nat} (h : i ≤ s.size) : i + (rn s i).2 ≤ s.size := by
  unfold rn
  split
  · rename_i hlt
    rw [decode_at]
    have := decodeN_fits (s.size - i) (s.get! i).toNat (s.get! (i + 1)).toNat (s.get! (i + 2)).toNat (s.get! (i + 3)).toNat (by omega)
    omega
  · simpa using h
theorem rn_rune (s : ByteArray) (i : Nat) : (rn s i).1 ≤ 1114111 := by
  unfold rn
  split
  · rw [decode_at]; exact decodeN_rune _ _ _ _ _
  · simp
theorem rn_end {s : ByteArray} {i : Nat} (h : s.size ≤ i) : rn s i = (65533, 0) := by unfold rn; rw [if_neg (by omega)]
/-- A rune of ASCII is a byte. -/
theorem rn_ascii {s : ByteArray} {i : Nat} (h : (rn s i).1 < 128) : bt s i = (rn s i).1 ∧ (rn s i).2 = 1 ∧ i < s.size := by
  unfold rn bt at *
  by_cases hi : i < s.size
  · rw [if_pos hi] at h ⊢
    rw [if_pos hi]
    rw [decode_at] at h ⊢
    have := decodeN_ascii _ _ _ _ _ h
    exact ⟨this.1, this.2, hi⟩
  · rw [if_neg hi] at h; simp at h
theorem rn_of_byte {s : ByteArray} {i : Nat} (hi : i < s.size) (h : bt s i < 128) : rn s i = (bt s i, 1) := by
  unfold bt at *
  rw [if_pos hi] at *
  unfold rn
  rw [if_pos hi, decode_at]
  unfold decodeN
  rw [if_pos h]

/-- The value of a hexadecimal digit. -/
def hexv (b : Nat) : Option Nat :=
  if 48 ≤ b ∧ b ≤ 57 then some (b - 48) else if 97 ≤ b ∧ b ≤ 102 then some (b - 87) else if 65 ≤ b ∧ b ≤ 70 then some (b - 55) else none
theorem hexv_lt {b d : Nat} (h : hexv b = some d) : d < 16 := by
  unfold hexv at h
  repeat' split at h
  all_goals first | (cases h; omega) | cases h

/-- So many hexadecimal digits: the value, and where they end. -/
def digitsF (s : ByteArray) : Nat → Nat → Nat → Option (Nat × Nat)
  | 0, i, v => some (v, i)
  | m + 1, i, v => match hexv (bt s i) with | none => none | some d => digitsF s m (i + 1) (16 * v + d)
/-- Digits up to a closing brace. -/
def braceF (s : ByteArray) : Nat → Nat → Nat → Bool → Option (Nat × Nat)
  | 0, _, _, _ => none
  | k + 1, i, v, first => if bt s i = 125 then (if first then none else some (v, i + 1)) else match hexv (bt s i) with
    | none => none
    | some d => if 1114111 < 16 * v + d then none else braceF s k (i + 1) (16 * v + d) false
def pointF (s : ByteArray) (i : Nat) : Option (Nat × Nat) := if bt s i = 123 then braceF s (s.size + 1) (i + 1) 0 true else digitsF s 4 i 0

/-- The units of a character. -/
def unitsOf (c : Nat) : List Nat := if 65535 < c then [55296 + (c - 65536) / 1024, 56320 + (c - 65536) % 1024] else [c]
theorem unitsOf_len (c : Nat) : (unitsOf c).length ≤ 2 := by unfold unitsOf; split <;> simp
def isLn (c : Nat) : Bool := c = 10 || c = 13 || c = 8232 || c = 8233

/-- What a backslash and what is behind it mean. -/
inductive ER where
  | right (add : List Nat) (next : Nat)
  | wrong
  | opn
def simpleF (c : Nat) : Option Nat := if c = 98 then some 8 else if c = 102 then some 12 else if c = 110 then some 10 else if c = 114 then some 13 else if c = 116 then some 9 else if c = 118 then some 11 else none
def ofPoint : Option (Nat × Nat) → ER
  | none => .wrong
  | some (p, k) => .right (unitsOf p) k
def escF (s : ByteArray) (i : Nat) : ER :=
  if s.size ≤ i then .wrong else
  match simpleF (rn s i).1 with
  | some x => .right [x] (i + (rn s i).2)
  | none =>
    if (rn s i).1 = 13 ∧ bt s (i + (rn s i).2) = 10 then .right [] (i + (rn s i).2 + 1)
    else if isLn (rn s i).1 then .right [] (i + (rn s i).2)
    else if (rn s i).1 = 48 ∧ ¬ (48 ≤ bt s (i + (rn s i).2) ∧ bt s (i + (rn s i).2) ≤ 57) then .right [0] (i + (rn s i).2)
    else if 48 ≤ (rn s i).1 ∧ (rn s i).1 ≤ 57 then .opn
    else if (rn s i).1 = 120 then ofPoint (digitsF s 2 (i + (rn s i).2) 0)
    else if (rn s i).1 = 117 then ofPoint (pointF s (i + (rn s i).2))
    else .right (unitsOf (rn s i).1) (i + (rn s i).2)

/-- What the inside of a string means. -/
inductive IR where
  | right (u : List Nat)
  | wrong
  | opn
def insF (s : ByteArray) : Nat → Nat → List Nat → IR
  | 0, _, _ => .opn
  | k + 1, i, u =>
    if s.size ≤ i then .right u
    else if (rn s i).1 = 10 ∨ (rn s i).1 = 13 then .opn
    else if (rn s i).1 ≠ 92 then insF s k (i + (rn s i).2) (u ++ unitsOf (rn s i).1)
    else if i + (rn s i).2 = s.size then .opn
    else match escF s (i + (rn s i).2) with
      | .right a j => insF s k j (u ++ a)
      | .wrong => .wrong
      | .opn => .opn
/-- What Go's decoder makes of it: the end of a line as it is means a line feed. -/
def tteF (s : ByteArray) : Nat → Nat → List Nat → IR
  | 0, _, _ => .opn
  | k + 1, i, u =>
    if s.size ≤ i then .right u
    else if (rn s i).1 = 13 then tteF s k (if bt s (i + (rn s i).2) = 10 then i + (rn s i).2 + 1 else i + (rn s i).2) (u ++ [10])
    else if (rn s i).1 ≠ 92 then tteF s k (i + (rn s i).2) (u ++ unitsOf (rn s i).1)
    else if i + (rn s i).2 = s.size then .opn
    else match escF s (i + (rn s i).2) with
      | .right a j => tteF s k j (u ++ a)
      | .wrong => .wrong
      | .opn => .opn

theorem tte_of_ins (s : ByteArray) (k : Nat) : ∀ i u, insF s k i u ≠ .opn → tteF s k i u = insF s k i u := by
  induction k with
  | zero => intro i u h; exact absurd rfl h
  | succ k ih =>
    intro i u h
    unfold insF at h ⊢
    unfold tteF
    by_cases h1 : s.size ≤ i
    · simp only [h1, if_true]
    · simp only [h1, if_false] at h ⊢
      by_cases h2 : (rn s i).1 = 10 ∨ (rn s i).1 = 13
      · simp only [h2, if_true] at h; exact absurd rfl h
      · simp only [h2, if_false] at h ⊢
        have h13 : ¬ (rn s i).1 = 13 := fun e => h2 (.inr e)
        simp only [h13, if_false]
        by_cases h3 : (rn s i).1 ≠ 92
        · simp only [h3, if_true, ne_eq, not_false_eq_true] at h ⊢; exact ih _ _ h
        · simp only [h3, if_false] at h ⊢
          by_cases h4 : i + (rn s i).2 = s.size
          · simp only [h4, if_true] at h; exact absurd rfl h
          · simp only [h4, if_false] at h ⊢
            cases he : escF s (i + (rn s i).2) with
            | right a j => rw [he] at h; exact ih _ _ h
            | wrong => rfl
            | opn => rfl

theorem digitsF_le (s : ByteArray) (m : Nat) : ∀ i v p k, digitsF s m i v = some (p, k) → k = i + m ∧ p < (v + 1) * 16 ^ m ∧ (0 < m → k ≤ s.size) := by
  induction m with
  | zero => intro i v p k h; simp [digitsF] at h; omega
  | succ m ih =>
    intro i v p k h
    simp only [digitsF] at h
    cases hx : hexv (bt s i) with
    | none => rw [hx] at h; cases h
    | some d =>
      rw [hx] at h
      obtain ⟨h1, h2, h3⟩ := ih _ _ _ _ h
      have hd := hexv_lt hx
      have hi : i < s.size := by
        rcases Nat.lt_or_ge i s.size with h' | h'
        · exact h'
        · have : bt s i = 0 := by unfold bt; rw [if_neg (by omega)]
          rw [this] at hx; simp [hexv] at hx
      refine ⟨by omega, ?_, fun _ => ?_⟩
      · rw [Nat.pow_succ]
        have : (16 * v + d + 1) * 16 ^ m ≤ (16 * (v + 1)) * 16 ^ m := Nat.mul_le_mul_right _ (by omega)
        calc p < (16 * v + d + 1) * 16 ^ m := h2
          _ ≤ (16 * (v + 1)) * 16 ^ m := this
          _ = (v + 1) * (16 ^ m * 16) := by rw [Nat.mul_comm 16 (v + 1), Nat.mul_assoc, Nat.mul_comm 16]
      · rcases Nat.eq_zero_or_pos m with h' | h'
        · omega
        · exact h3 h'
theorem braceF_le (s : ByteArray) (f : Nat) : ∀ i v b p k, v ≤ 1114111 → braceF s f i v b = some (p, k) → i < k ∧ p ≤ 1114111 ∧ k ≤ s.size := by
  induction f with
  | zero => intro i v b p k _ h; cases h
  | succ f ih =>
    intro i v b p k hv h
    simp only [braceF] at h
    by_cases h1 : bt s i = 125
    · rw [if_pos h1] at h
      have hi : i < s.size := by
        rcases Nat.lt_or_ge i s.size with h' | h'
        · exact h'
        · have : bt s i = 0 := by unfold bt; rw [if_neg (by omega)]
          omega
      split at h
      · cases h
      · cases h; exact ⟨by omega, hv, by omega⟩
    · rw [if_neg h1] at h
      cases hx : hexv (bt s i) with
      | none => rw [hx] at h; cases h
      | some d =>
        rw [hx] at h
        simp only at h
        split at h
        · cases h
        · obtain ⟨a, b, c⟩ := ih _ _ _ _ _ (by omega) h
          exact ⟨by omega, b, c⟩
theorem pointF_le {s : ByteArray} {i p k : Nat} (h : pointF s i = some (p, k)) : i < k ∧ p ≤ 1114111 ∧ k ≤ s.size := by
  unfold pointF at h
  split at h
  · obtain ⟨a, b, c⟩ := braceF_le s _ _ _ _ _ _ (by omega) h; exact ⟨by omega, b, c⟩
  · obtain ⟨a, b, c⟩ := digitsF_le s _ _ _ _ _ h; exact ⟨by omega, by omega, c (by omega)⟩
/-- An escape goes on, stays in the text, and adds two units at most. -/
theorem escF_le {s : ByteArray} {i j : Nat} {a : List Nat} (h : escF s i = .right a j) : i < j ∧ j ≤ s.size ∧ a.length ≤ 2 := by
  unfold escF at h
  by_cases h0 : s.size ≤ i
  · rw [if_pos h0] at h; cases h
  · rw [if_neg h0] at h
    have hp := rn_pos (s := s) (i := i) (by omega)
    have hl := rn_le (s := s) (i := i) (by omega)
    cases hs : simpleF (rn s i).1 with
    | some x => rw [hs] at h; cases h; exact ⟨by omega, by omega, by simp⟩
    | none =>
      rw [hs] at h
      simp only at h
      by_cases h1 : (rn s i).1 = 13 ∧ bt s (i + (rn s i).2) = 10
      · rw [if_pos h1] at h; cases h
        have : i + (rn s i).2 < s.size := by
          rcases Nat.lt_or_ge (i + (rn s i).2) s.size with h' | h'
          · exact h'
          · have : bt s (i + (rn s i).2) = 0 := by unfold bt; rw [if_neg (by omega)]
            omega
        exact ⟨by omega, by omega, by simp⟩
      rw [if_neg h1] at h
      by_cases h2 : isLn (rn s i).1 = true
      · rw [if_pos h2] at h; cases h; exact ⟨by omega, by omega, by simp⟩
      rw [if_neg h2] at h
      by_cases h3 : (rn s i).1 = 48 ∧ ¬ (48 ≤ bt s (i + (rn s i).2) ∧ bt s (i + (rn s i).2) ≤ 57)
      · rw [if_pos h3] at h; cases h; exact ⟨by omega, by omega, by simp⟩
      rw [if_neg h3] at h
      by_cases h4 : 48 ≤ (rn s i).1 ∧ (rn s i).1 ≤ 57
      · rw [if_pos h4] at h; cases h
      rw [if_neg h4] at h
      by_cases h5 : (rn s i).1 = 120
      · rw [if_pos h5] at h
        cases hd : digitsF s 2 (i + (rn s i).2) 0 with
        | none => rw [hd] at h; cases h
        | some q =>
          obtain ⟨p, k⟩ := q
          rw [hd] at h; cases h
          obtain ⟨a, b, c⟩ := digitsF_le s _ _ _ _ _ hd
          exact ⟨by omega, c (by omega), unitsOf_len _⟩
      rw [if_neg h5] at h
      by_cases h6 : (rn s i).1 = 117
      · rw [if_pos h6] at h
        cases hd : pointF s (i + (rn s i).2) with
        | none => rw [hd] at h; cases h
        | some q =>
          obtain ⟨p, k⟩ := q
          rw [hd] at h; cases h
          obtain ⟨a, b, c⟩ := pointF_le hd
          exact ⟨by omega, c, unitsOf_len _⟩
      rw [if_neg h6] at h
      cases h
      exact ⟨by omega, by omega, unitsOf_len _⟩
end Go.Proofs.YthknielnhmoobaaGreatDoor
