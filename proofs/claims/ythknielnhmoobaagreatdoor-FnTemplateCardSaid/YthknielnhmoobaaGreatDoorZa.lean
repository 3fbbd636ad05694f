/- Plain words: what a template without substitutions means to the reference; its text with one line feed for each end of a line means the same to Go's decoder. No program in sight. -/
import Derived.Test.YthknielnhmoobaaGreatDoorPure
namespace Go.Proofs.YthknielnhmoobaaGreatDoor
open Go.Lib

/-- What the reference's template reads. -/
inductive TR where
  | plain (u : List Nat) (next : Nat)
  | head (u : List Nat) (next : Nat)
  | bad (v : Nat)
def tplF (s : ByteArray) : Nat → Nat → List Nat → TR
  | 0, _, _ => .bad 0
  | k + 1, i, u =>
    if s.size ≤ i then .bad 2
    else if (rn s i).1 = 96 then .plain u (i + (rn s i).2)
    else if (rn s i).1 = 36 ∧ bt s (i + (rn s i).2) = 123 then .head u (i + (rn s i).2)
    else if (rn s i).1 = 92 then (match escF s (i + (rn s i).2) with
      | .right a j => tplF s k j (u ++ a)
      | _ => .bad 0)
    else if (rn s i).1 = 13 then tplF s k (if bt s (i + (rn s i).2) = 10 then i + (rn s i).2 + 1 else i + (rn s i).2) (u ++ [10])
    else tplF s k (i + (rn s i).2) (u ++ unitsOf (rn s i).1)
/-- A text in which each line ends with one byte. -/
def linesF (s : ByteArray) (e : Nat) : Nat → Nat → List Nat
  | 0, _ => []
  | k + 1, i => if e ≤ i then [] else if bt s i ≠ 13 then bt s i :: linesF s e k (i + 1) else if i + 1 = e ∨ bt s (i + 1) ≠ 10 then 10 :: linesF s e k (i + 1) else linesF s e k (i + 1)

/-- The text t goes on at j as s does at i up to e, but for the ends of lines. -/
inductive Ln (s t : ByteArray) (e : Nat) : Nat → Nat → Prop
  | done : Ln s t e e t.size
  | crlf {i j : Nat} : i + 1 < e → bt s i = 13 → bt s (i + 1) = 10 → j < t.size → bt t j = 10 → Ln s t e (i + 2) (j + 1) → Ln s t e i j
  | cr {i j : Nat} : i < e → bt s i = 13 → bt s (i + 1) ≠ 10 → j < t.size → bt t j = 10 → Ln s t e (i + 1) (j + 1) → Ln s t e i j
  | byte {i j : Nat} : i < e → bt s i ≠ 13 → j < t.size → bt t j = bt s i → Ln s t e (i + 1) (j + 1) → Ln s t e i j
theorem bt_end {s : ByteArray} {i : Nat} (h : s.size ≤ i) : bt s i = 0 := by unfold bt; rw [if_neg (by omega)]
theorem bt_lt' (s : ByteArray) (i : Nat) : bt s i < 256 := by
  unfold bt; split
  · exact UInt8.toNat_lt _
  · omega
section
variable {s t : ByteArray} {e i j : Nat}
theorem Ln.le (h : Ln s t e i j) : i ≤ e ∧ j ≤ t.size := by
  cases h with
  | done => exact ⟨Nat.le_refl _, Nat.le_refl _⟩
  | crlf a _ _ b _ _ => exact ⟨by omega, by omega⟩
  | cr a _ _ b _ _ => exact ⟨by omega, by omega⟩
  | byte a _ b _ _ => exact ⟨by omega, by omega⟩
theorem Ln.step (h : Ln s t e i j) (hi : i < e) (h13 : bt s i ≠ 13) : j < t.size ∧ bt t j = bt s i ∧ Ln s t e (i + 1) (j + 1) := by
  cases h with
  | done => omega
  | crlf _ a _ _ _ _ => exact absurd a h13
  | cr _ a _ _ _ _ => exact absurd a h13
  | byte _ _ a b c => exact ⟨a, b, c⟩
/-- The bytes that come are the same, or both are none that an escape or a longer character is made of. -/
theorem Ln.rel (h : Ln s t e i j) (he : bt s e = 96) : bt t j = bt s i ∨ ((bt s i = 13 ∨ bt s i = 96) ∧ (bt t j = 10 ∨ bt t j = 0)) := by
  cases h with
  | done => exact .inr ⟨.inr he, .inr (bt_end (Nat.le_refl _))⟩
  | crlf _ a _ _ b _ => exact .inr ⟨.inl a, .inl b⟩
  | cr _ a _ _ b _ => exact .inr ⟨.inl a, .inl b⟩
  | byte _ _ _ b _ => exact .inl b
theorem Ln.lt_of (h : Ln s t e i j) (he : bt s e = 96) (h96 : bt s i ≠ 96) : i < e := by
  rcases Nat.lt_or_ge i e with h' | h'
  · exact h'
  · have := h.le.1
    obtain rfl : i = e := by omega
    exact absurd he h96
end
theorem rn_bytes {s : ByteArray} {i : Nat} (h : i < s.size) : rn s i = decodeN (s.size - i) (bt s i) (bt s (i + 1)) (bt s (i + 2)) (bt s (i + 3)) := by
  have e : ∀ k, (s.get! k).toNat = bt s k := fun k => by
    unfold bt
    split
    · rfl
    · rw [get!_big _ _ (by omega)]; rfl
  unfold rn; rw [if_pos h, decode_at, e, e, e, e]
/-- Behind the end there are noughts: how much comes is no matter. -/
theorem decode_n {n b0 b1 b2 b3 : Nat} (h1 : n ≤ 1 → b1 = 0) (h2 : n ≤ 2 → b2 = 0) (h3 : n ≤ 3 → b3 = 0) : decodeN n b0 b1 b2 b3 = decodeN 4 b0 b1 b2 b3 := by
  have e1 : (1 < n ∧ b1 / 64 = 2) = (1 < 4 ∧ b1 / 64 = 2) := propext ⟨fun h => ⟨by omega, h.2⟩, fun h => ⟨by rcases Nat.lt_or_ge 1 n with h' | h'; exact h'; (have := h1 h'; omega), h.2⟩⟩
  have e2 : (2 < n ∧ b2 / 64 = 2) = (2 < 4 ∧ b2 / 64 = 2) := propext ⟨fun h => ⟨by omega, h.2⟩, fun h => ⟨by rcases Nat.lt_or_ge 2 n with h' | h'; exact h'; (have := h2 h'; omega), h.2⟩⟩
  have e3 : (3 < n ∧ b3 / 64 = 2) = (3 < 4 ∧ b3 / 64 = 2) := propext ⟨fun h => ⟨by omega, h.2⟩, fun h => ⟨by rcases Nat.lt_or_ge 3 n with h' | h'; exact h'; (have := h3 h'; omega), h.2⟩⟩
  unfold decodeN
  simp only [e1, e2, e3]
theorem rn_four {s : ByteArray} {i : Nat} (h : i < s.size) : rn s i = decodeN 4 (bt s i) (bt s (i + 1)) (bt s (i + 2)) (bt s (i + 3)) := by
  rw [rn_bytes h]
  exact decode_n (fun _ => bt_end (by omega)) (fun _ => bt_end (by omega)) (fun _ => bt_end (by omega))
/-- Of a byte that does not go on with a character only that is of matter. -/
theorem decode_1 {b0 b1 b2 b3 c1 c2 c3 : Nat} (h0 : 128 ≤ b0) (h1 : b1 / 64 ≠ 2) (h2 : c1 / 64 ≠ 2) : decodeN 4 b0 b1 b2 b3 = (65533, 1) ∧ decodeN 4 b0 c1 c2 c3 = (65533, 1) := by
  unfold decodeN
  simp only [h1, h2, and_false, false_and, if_false]
  rw [if_neg (by omega)]
  exact ⟨rfl, rfl⟩
theorem decode_2 {b0 b1 b2 b3 c2 c3 : Nat} (h1 : b2 / 64 ≠ 2) (h2 : c2 / 64 ≠ 2) : decodeN 4 b0 b1 b2 b3 = decodeN 4 b0 b1 c2 c3 ∧ (decodeN 4 b0 b1 b2 b3).2 ≤ 2 := by
  unfold decodeN
  simp only [h1, h2, and_false, false_and, if_false]
  refine ⟨by first | rfl | trivial, ?_⟩
  repeat' split
  all_goals simp
theorem decode_3 {b0 b1 b2 b3 c3 : Nat} (h1 : b3 / 64 ≠ 2) (h2 : c3 / 64 ≠ 2) : decodeN 4 b0 b1 b2 b3 = decodeN 4 b0 b1 b2 c3 ∧ (decodeN 4 b0 b1 b2 b3).2 ≤ 3 := by
  unfold decodeN
  simp only [h1, h2, and_false, if_false]
  refine ⟨by first | rfl | trivial, ?_⟩
  repeat' split
  all_goals simp
theorem decode_w (b0 b1 b2 b3 : Nat) : (decodeN 4 b0 b1 b2 b3).2 ≤ 4 := decodeN_fits 4 _ _ _ _ (by omega)
/-- A longer character is the same in both texts. -/
theorem Ln.rune {s t : ByteArray} {e i j : Nat} (h : Ln s t e i j) (he : bt s e = 96) (hs : e < s.size) (hb : 128 ≤ bt s i) : rn t j = rn s i ∧ Ln s t e (i + (rn s i).2) (j + (rn s i).2) ∧ i + (rn s i).2 ≤ e := by
  have hi := h.lt_of he (by omega)
  obtain ⟨hj, b0, h1⟩ := h.step hi (by omega)
  have ht := rn_four hj
  have hS := rn_four (s := s) (i := i) (by omega)
  rw [b0] at ht
  have hp := rn_pos (s := s) (i := i) (by omega)
  rcases h1.rel he with b1 | ⟨x, y⟩
  · by_cases g1 : bt s (i + 1) / 64 = 2
    · obtain ⟨hj1, _, h2⟩ := h1.step (h1.lt_of he (by omega)) (by omega)
      rw [b1] at ht
      rcases h2.rel he with b2 | ⟨x, y⟩
      · by_cases g2 : bt s (i + 1 + 1) / 64 = 2
        · obtain ⟨hj2, _, h3⟩ := h2.step (h2.lt_of he (by omega)) (by omega)
          rw [show j + 2 = j + 1 + 1 from rfl, b2] at ht
          rcases h3.rel he with b3 | ⟨x, y⟩
          · rw [show j + 3 = j + 1 + 1 + 1 from rfl, b3] at ht
            refine ⟨ht.trans hS.symm, ?_⟩
            have hw := decode_w (bt s i) (bt s (i + 1)) (bt s (i + 2)) (bt s (i + 3))
            rw [← hS] at hw
            by_cases w4 : (rn s i).2 = 4
            · by_cases g3 : bt s (i + 1 + 1 + 1) / 64 = 2
              · obtain ⟨hj3, _, h4⟩ := h3.step (h3.lt_of he (by omega)) (by omega)
                rw [w4]
                exact ⟨h4, h4.le.1⟩
              · have := (decode_3 (b0 := bt s i) (b1 := bt s (i + 1)) (b2 := bt s (i + 2)) (b3 := bt s (i + 3)) (c3 := 0) g3 (by omega)).2
                rw [← hS] at this
                omega
            · have : (rn s i).2 = 1 ∨ (rn s i).2 = 2 ∨ (rn s i).2 = 3 := by omega
              rcases this with w | w | w <;> rw [w]
              · exact ⟨h1, h1.le.1⟩
              · exact ⟨h2, h2.le.1⟩
              · exact ⟨h3, h3.le.1⟩
          · have := decode_3 (b0 := bt s i) (b1 := bt s (i + 1)) (b2 := bt s (i + 2)) (b3 := bt s (i + 3)) (c3 := bt t (j + 3)) (by show bt s (i + 1 + 1 + 1) / 64 ≠ 2; omega) (by show bt t (j + 1 + 1 + 1) / 64 ≠ 2; omega)
            refine ⟨ht.trans (this.1.symm.trans hS.symm), ?_⟩
            have hw := this.2
            rw [← hS] at hw
            have : (rn s i).2 = 1 ∨ (rn s i).2 = 2 ∨ (rn s i).2 = 3 := by omega
            rcases this with w | w | w <;> rw [w]
            · exact ⟨h1, h1.le.1⟩
            · exact ⟨h2, h2.le.1⟩
            · exact ⟨h3, h3.le.1⟩
        · have := decode_2 (b0 := bt s i) (b1 := bt s (i + 1)) (b2 := bt s (i + 2)) (b3 := bt s (i + 3)) (c2 := bt t (j + 2)) (c3 := bt t (j + 3)) g2 (by show bt t (j + 1 + 1) / 64 ≠ 2; rw [b2]; exact g2)
          refine ⟨ht.trans (this.1.symm.trans hS.symm), ?_⟩
          have hw := this.2
          rw [← hS] at hw
          have : (rn s i).2 = 1 ∨ (rn s i).2 = 2 := by omega
          rcases this with w | w <;> rw [w]
          · exact ⟨h1, h1.le.1⟩
          · exact ⟨h2, h2.le.1⟩
      · have := decode_2 (b0 := bt s i) (b1 := bt s (i + 1)) (b2 := bt s (i + 2)) (b3 := bt s (i + 3)) (c2 := bt t (j + 2)) (c3 := bt t (j + 3)) (by show bt s (i + 1 + 1) / 64 ≠ 2; omega) (by show bt t (j + 1 + 1) / 64 ≠ 2; omega)
        refine ⟨ht.trans (this.1.symm.trans hS.symm), ?_⟩
        have hw := this.2
        rw [← hS] at hw
        have : (rn s i).2 = 1 ∨ (rn s i).2 = 2 := by omega
        rcases this with w | w <;> rw [w]
        · exact ⟨h1, h1.le.1⟩
        · exact ⟨h2, h2.le.1⟩
    · have := decode_1 (b0 := bt s i) (b1 := bt s (i + 1)) (b2 := bt s (i + 2)) (b3 := bt s (i + 3)) (c1 := bt t (j + 1)) (c2 := bt t (j + 2)) (c3 := bt t (j + 3)) hb g1 (by rw [b1]; exact g1)
      have hS1 := hS.trans this.1
      refine ⟨(ht.trans this.2).trans hS1.symm, ?_⟩
      rw [hS1]
      exact ⟨h1, h1.le.1⟩
  · have := decode_1 (b0 := bt s i) (b1 := bt s (i + 1)) (b2 := bt s (i + 2)) (b3 := bt s (i + 3)) (c1 := bt t (j + 1)) (c2 := bt t (j + 2)) (c3 := bt t (j + 3)) hb (by omega) (by omega)
    have hS1 := hS.trans this.1
    refine ⟨(ht.trans this.2).trans hS1.symm, ?_⟩
    rw [hS1]
    exact ⟨h1, h1.le.1⟩
/-- Any character but the end of a line. -/
theorem Ln.any {s t : ByteArray} {e i j : Nat} (h : Ln s t e i j) (he : bt s e = 96) (hs : e < s.size) (hi : i < e) (h13 : bt s i ≠ 13) : rn t j = rn s i ∧ Ln s t e (i + (rn s i).2) (j + (rn s i).2) := by
  by_cases hb : 128 ≤ bt s i
  · obtain ⟨a, b, _⟩ := h.rune he hs hb; exact ⟨a, b⟩
  · obtain ⟨hj, b0, h1⟩ := h.step hi h13
    rw [rn_of_byte (s := s) (by omega) (by omega), rn_of_byte hj (by omega), b0]
    exact ⟨rfl, h1⟩
theorem rn_13 {s : ByteArray} {i : Nat} (hi : i < s.size) (h : (rn s i).1 ≠ 13) : bt s i ≠ 13 := by
  intro e; rw [rn_of_byte hi (by omega)] at h; exact h e
theorem hexv_lt' {b d : Nat} (h : hexv b = some d) : b ≠ 13 ∧ b ≠ 96 ∧ b ≠ 10 ∧ b ≠ 0 := by
  unfold hexv at h
  repeat' split at h
  all_goals first | (cases h; omega) | cases h
theorem Ln.digits {s t : ByteArray} {e : Nat} (he : bt s e = 96) (m : Nat) : ∀ i j v p k, Ln s t e i j → digitsF s m i v = some (p, k) → digitsF t m j v = some (p, j + m) ∧ Ln s t e k (j + m) := by
  induction m with
  | zero => intro i j v p k h hd; simp [digitsF] at hd; obtain ⟨rfl, rfl⟩ := hd; exact ⟨rfl, h⟩
  | succ m ih =>
    intro i j v p k h hd
    simp only [digitsF] at hd ⊢
    cases hx : hexv (bt s i) with
    | none => rw [hx] at hd; cases hd
    | some d =>
      rw [hx] at hd
      obtain ⟨a, b, _, _⟩ := hexv_lt' hx
      obtain ⟨_, b0, h1⟩ := h.step (h.lt_of he b) a
      rw [b0, hx]
      obtain ⟨c1, c2⟩ := ih _ _ _ _ _ h1 hd
      rw [show j + 1 + m = j + (m + 1) by omega] at c1 c2
      exact ⟨c1, c2⟩
theorem Ln.brace {s t : ByteArray} {e : Nat} (he : bt s e = 96) (f : Nat) : ∀ i j v b p k g, Ln s t e i j → braceF s f i v b = some (p, k) → t.size < j + g → ∃ k', braceF t g j v b = some (p, k') ∧ Ln s t e k k' := by
  induction f with
  | zero => intro i j v b p k g h hd; cases hd
  | succ f ih =>
    intro i j v b p k g h hd hg
    simp only [braceF] at hd
    have hle := h.le
    obtain ⟨g, rfl⟩ : ∃ g', g = g' + 1 := ⟨g - 1, by omega⟩
    simp only [braceF]
    by_cases h1 : bt s i = 125
    · rw [if_pos h1] at hd
      obtain ⟨_, b0, h2⟩ := h.step (h.lt_of he (by omega)) (by omega)
      rw [b0, if_pos h1]
      cases b with
      | true => simp at hd
      | false => simp at hd; obtain ⟨rfl, rfl⟩ := hd; exact ⟨_, rfl, h2⟩
    · rw [if_neg h1] at hd
      cases hx : hexv (bt s i) with
      | none => rw [hx] at hd; cases hd
      | some d =>
        rw [hx] at hd
        obtain ⟨a, b', _, _⟩ := hexv_lt' hx
        obtain ⟨_, b0, h2⟩ := h.step (h.lt_of he b') a
        rw [b0, if_neg h1, hx]
        simp only at hd ⊢
        by_cases hm : 1114111 < 16 * v + d
        · rw [if_pos hm] at hd; cases hd
        · rw [if_neg hm] at hd ⊢
          exact ih _ _ _ _ _ _ _ h2 hd (by omega)
theorem Ln.point {s t : ByteArray} {e i j p k : Nat} (he : bt s e = 96) (h : Ln s t e i j) (hd : pointF s i = some (p, k)) : ∃ k', pointF t j = some (p, k') ∧ Ln s t e k k' := by
  unfold pointF at hd ⊢
  by_cases h1 : bt s i = 123
  · rw [if_pos h1] at hd
    obtain ⟨_, b0, h2⟩ := h.step (h.lt_of he (by omega)) (by omega)
    rw [b0, if_pos h1]
    exact h2.brace he _ _ _ _ _ _ _ _ hd (by omega)
  · rw [if_neg h1] at hd
    have h3 : ¬ bt t j = 123 := by
      rcases h.rel he with b | ⟨_, b⟩
      · rw [b]; exact h1
      · omega
    rw [if_neg h3]
    obtain ⟨a, b⟩ := Ln.digits he _ _ _ _ _ _ h hd
    exact ⟨_, a, b⟩
/-- An escape means the same in both texts. -/
theorem Ln.esc {s t : ByteArray} {e i j i2 : Nat} {a : List Nat} (he : bt s e = 96) (hs : e < s.size) (h : Ln s t e i j) (hd : escF s i = .right a i2) (hi2 : i2 ≤ e) : ∃ j2, escF t j = .right a j2 ∧ Ln s t e i2 j2 := by
  have hie : i < e := by
    have := (escF_le hd).1
    omega
  by_cases h13 : bt s i = 13
  · have hr : rn s i = (13, 1) := by rw [rn_of_byte (by omega) (by omega), h13]
    have htj : j < t.size ∧ bt t j = 10 ∧ Ln s t e i2 (j + 1) ∧ a = [] := by
      unfold escF at hd
      rw [if_neg (by omega), hr] at hd
      have hsim : simpleF (13, 1).1 = none := rfl
      rw [hsim] at hd
      simp only at hd
      cases h with
      | done => omega
      | crlf a1 a2 a3 a4 a5 a6 => rw [if_pos ⟨trivial, a3⟩] at hd; cases hd; exact ⟨a4, a5, a6, rfl⟩
      | cr a1 a2 a3 a4 a5 a6 =>
        rw [if_neg (fun h => a3 h.2), if_pos (by decide : isLn 13 = true)] at hd; cases hd; exact ⟨a4, a5, a6, rfl⟩
      | byte a1 a2 a3 a4 a5 => exact absurd h13 a2
    obtain ⟨hj, b, hl, rfl⟩ := htj
    refine ⟨j + 1, ?_, hl⟩
    unfold escF
    rw [if_neg (by omega), rn_of_byte hj (by omega), b]
    have hsim : simpleF (10, 1).1 = none := rfl
    rw [hsim]
    simp only
    rw [if_neg (by omega), if_pos (by decide : isLn 10 = true)]
  · obtain ⟨hr, hl⟩ := h.any he hs hie h13
    have hj : j < t.size := (h.step hie h13).1
    unfold escF at hd ⊢
    rw [if_neg (by omega)] at hd
    rw [if_neg (by omega), hr]
    have hn13 : ¬ (rn s i).1 = 13 := by
      intro e1
      have := rn_ascii (s := s) (i := i) (by omega)
      omega
    cases hsim : simpleF (rn s i).1 with
    | some x => rw [hsim] at hd; cases hd; exact ⟨_, rfl, hl⟩
    | none =>
      rw [hsim] at hd
      simp only at hd ⊢
      rw [if_neg (fun h => hn13 h.1)] at hd ⊢
      by_cases h2 : isLn (rn s i).1 = true
      · rw [if_pos h2] at hd ⊢; cases hd; exact ⟨_, rfl, hl⟩
      rw [if_neg h2] at hd ⊢
      have hdig : (48 ≤ bt t (j + (rn s i).2) ∧ bt t (j + (rn s i).2) ≤ 57) ↔ (48 ≤ bt s (i + (rn s i).2) ∧ bt s (i + (rn s i).2) ≤ 57) := by
        rcases hl.rel he with b | ⟨b, c⟩
        · rw [b]
        · omega
      by_cases h3 : (rn s i).1 = 48 ∧ ¬ (48 ≤ bt s (i + (rn s i).2) ∧ bt s (i + (rn s i).2) ≤ 57)
      · rw [if_pos h3] at hd
        rw [if_pos ⟨h3.1, fun h => h3.2 (hdig.1 h)⟩]
        cases hd; exact ⟨_, rfl, hl⟩
      rw [if_neg h3] at hd
      rw [if_neg (fun h => h3 ⟨h.1, fun h' => h.2 (hdig.2 h')⟩)]
      by_cases h4 : 48 ≤ (rn s i).1 ∧ (rn s i).1 ≤ 57
      · rw [if_pos h4] at hd; cases hd
      rw [if_neg h4] at hd ⊢
      by_cases h5 : (rn s i).1 = 120
      · rw [if_pos h5] at hd ⊢
        cases hx : digitsF s 2 (i + (rn s i).2) 0 with
        | none => rw [hx] at hd; cases hd
        | some q =>
          obtain ⟨p, k⟩ := q
          rw [hx] at hd; cases hd
          obtain ⟨c1, c2⟩ := Ln.digits he _ _ _ _ _ _ hl hx
          rw [c1]
          exact ⟨_, rfl, c2⟩
      rw [if_neg h5] at hd ⊢
      by_cases h6 : (rn s i).1 = 117
      · rw [if_pos h6] at hd ⊢
        cases hx : pointF s (i + (rn s i).2) with
        | none => rw [hx] at hd; cases hd
        | some q =>
          obtain ⟨p, k⟩ := q
          rw [hx] at hd; cases hd
          obtain ⟨k', c1, c2⟩ := Ln.point he hl hx
          rw [c1]
          exact ⟨_, rfl, c2⟩
      rw [if_neg h6] at hd ⊢
      cases hd
      exact ⟨_, rfl, hl⟩
theorem tpl_bad {s : ByteArray} {k i : Nat} {u v : List Nat} {n : Nat} (h : s.size ≤ i) : tplF s k i u ≠ .plain v n := by
  intro hh
  cases k with
  | zero => cases hh
  | succ k => unfold tplF at hh; rw [if_pos h] at hh; cases hh
/-- THE PLAIN LAW: what the reference reads up to the end of the text, Go's decoder makes of the text with one line feed for each end of a line. -/
theorem tte_of_tpl {s t : ByteArray} {e : Nat} (he : bt s e = 96) (hs : e + 1 = s.size) (k : Nat) : ∀ i j u v, Ln s t e i j → tplF s k i u = .plain v s.size → tteF t k j u = .right v := by
  induction k with
  | zero => intro i j u v _ h; cases h
  | succ k ih =>
    intro i j u v h hd
    have hie := h.le.1
    unfold tplF at hd
    unfold tteF
    rw [if_neg (by omega)] at hd
    by_cases hi : i = e
    · subst hi
      have hr : rn s i = (96, 1) := by rw [rn_of_byte (by omega) (by omega), he]
      rw [hr, if_pos rfl] at hd
      injection hd with a _
      subst a
      cases h with
      | done => rw [if_pos (Nat.le_refl _)]
      | crlf a _ _ _ _ _ => omega
      | cr a _ _ _ _ _ => omega
      | byte a _ _ _ _ => omega
    have hlt : i < e := by omega
    by_cases h13 : bt s i = 13
    · have hr : rn s i = (13, 1) := by rw [rn_of_byte (by omega) (by omega), h13]
      rw [hr] at hd
      simp only at hd
      rw [if_neg (by omega), if_neg (by omega), if_neg (by omega), if_pos trivial] at hd
      have htj : j < t.size ∧ bt t j = 10 ∧ Ln s t e (if bt s (i + 1) = 10 then i + 1 + 1 else i + 1) (j + 1) := by
        cases h with
        | done => omega
        | crlf a1 a2 a3 a4 a5 a6 => rw [if_pos a3]; exact ⟨a4, a5, a6⟩
        | cr a1 a2 a3 a4 a5 a6 => rw [if_neg a3]; exact ⟨a4, a5, a6⟩
        | byte a1 a2 a3 a4 a5 => exact absurd h13 a2
      obtain ⟨hj, b, hl⟩ := htj
      rw [if_neg (by omega), rn_of_byte hj (by omega), b]
      simp only
      rw [if_neg (by omega), if_pos (by omega)]
      exact ih _ _ _ _ hl hd
    · obtain ⟨hr, hl⟩ := h.any he (by omega) hlt h13
      have hj : j < t.size := (h.step hlt h13).1
      have hn13 : ¬ (rn s i).1 = 13 := by
        intro e1
        have := rn_ascii (s := s) (i := i) (by omega)
        omega
      have hp := rn_pos (s := s) (i := i) (by omega)
      rw [if_neg (by omega), hr, if_neg hn13]
      by_cases h96 : (rn s i).1 = 96
      · have := rn_ascii (s := s) (i := i) (by omega)
        rw [if_pos h96] at hd; injection hd with _ a; omega
      rw [if_neg h96] at hd
      by_cases h36 : (rn s i).1 = 36 ∧ bt s (i + (rn s i).2) = 123
      · rw [if_pos h36] at hd; cases hd
      rw [if_neg h36] at hd
      by_cases h92 : (rn s i).1 = 92
      · rw [if_pos h92] at hd
        rw [if_neg (fun h => h h92)]
        cases hx : escF s (i + (rn s i).2) with
        | wrong => rw [hx] at hd; cases hd
        | opn => rw [hx] at hd; cases hd
        | right a i2 =>
          rw [hx] at hd
          simp only at hd
          have hi2 : i2 ≤ e := by
            rcases Nat.lt_or_ge e i2 with h' | h'
            · exact absurd hd (tpl_bad (by omega))
            · exact h'
          obtain ⟨j2, c1, c2⟩ := hl.esc he (by omega) hx hi2
          have hne : ¬ j + (rn s i).2 = t.size := by
            intro e1
            unfold escF at c1
            rw [if_pos (by omega)] at c1
            cases c1
          rw [if_neg hne, c1]
          exact ih _ _ _ _ c2 hd
      · rw [if_neg h92, if_neg hn13] at hd
        rw [if_pos h92]
        exact ih _ _ _ _ hl hd
/-- A text t that holds the lines of s from i on, behind j. -/
theorem ln_of {s t : ByteArray} {e : Nat} (he : bt s e ≠ 10) (k : Nat) : ∀ i j, i ≤ e → e ≤ i + k → t.size = j + (linesF s e k i).length → (∀ x (hx : x < (linesF s e k i).length), bt t (j + x) = (linesF s e k i)[x]) → Ln s t e i j := by
  induction k with
  | zero =>
    intro i j h1 h2 h3 _
    obtain rfl : i = e := by omega
    simp [linesF] at h3
    subst h3
    exact .done
  | succ k ih =>
    intro i j h1 h2 h3 h4
    by_cases hi : e ≤ i
    · obtain rfl : i = e := by omega
      simp [linesF] at h3
      subst h3
      exact .done
    have hcons : ∀ x l, linesF s e (k + 1) i = x :: l → t.size = (j + 1) + l.length ∧ j < t.size ∧ bt t j = x ∧ ∀ y (hy : y < l.length), bt t (j + 1 + y) = l[y] := by
      intro x l hl
      rw [hl] at h3
      simp at h3
      refine ⟨by omega, by omega, ?_, fun y hy => ?_⟩
      · have := h4 0 (by rw [hl]; simp)
        simp only [hl, List.getElem_cons_zero, Nat.add_zero] at this
        exact this
      · have := h4 (y + 1) (by rw [hl]; simp; omega)
        simp only [hl, List.getElem_cons_succ] at this
        rw [← this]
        congr 1; omega
    by_cases h13 : bt s i = 13
    · by_cases h10 : i + 1 = e ∨ bt s (i + 1) ≠ 10
      · obtain ⟨a, b, c, d⟩ := hcons 10 (linesF s e k (i + 1)) (by simp only [linesF]; rw [if_neg hi, if_neg (fun h => h h13), if_pos h10])
        have hne : bt s (i + 1) ≠ 10 := by
          rcases h10 with h | h
          · rw [h]; exact he
          · exact h
        exact .cr (by omega) h13 hne b c (ih _ _ (by omega) (by omega) a d)
      · have hne : i + 1 < e := by omega
        have h10' : bt s (i + 1) = 10 := by omega
        cases k with
        | zero => omega
        | succ k =>
          obtain ⟨a, b, c, d⟩ := hcons 10 (linesF s e k (i + 1 + 1)) (by
            simp only [linesF]
            rw [if_neg hi, if_neg (fun h => h h13), if_neg h10, if_neg (by omega), if_pos (by omega), h10'])
          have hL : linesF s e (k + 1) (i + 1) = 10 :: linesF s e k (i + 1 + 1) := by simp only [linesF]; rw [if_neg (by omega), if_pos (by omega), h10']
          have hsub := ih (i + 1) j (by omega) (by omega) (by rw [hL]; simp; omega) (fun x hx => by
            have hlen : linesF s e (k + 1 + 1) i = linesF s e (k + 1) (i + 1) := by
              rw [linesF]; rw [if_neg hi, if_neg (fun h => h h13), if_neg h10]
            have := h4 x (by rw [hlen]; exact hx)
            simp only [hlen] at this
            exact this)
          obtain ⟨_, _, h5⟩ := hsub.step hne (by omega)
          exact .crlf hne h13 h10' b c h5
    · obtain ⟨a, b, c, d⟩ := hcons (bt s i) (linesF s e k (i + 1)) (by simp only [linesF]; rw [if_neg hi, if_pos h13])
      exact .byte (by omega) h13 b c (ih _ _ (by omega) (by omega) a d)
end Go.Proofs.YthknielnhmoobaaGreatDoor
