/- What is written comes back: the pieces of a string's inside. No program in sight. -/
import Derived.Test.YthknielnhmoobaaGreatDoorPure
namespace Go.Proofs.YthknielnhmoobaaGreatDoor
open Go.Lib

/-- t stands in s at place i. -/
def Stands (s : ByteArray) (i : Nat) (t : ByteArray) : Prop := i + t.size ≤ s.size ∧ ∀ k, k < t.size → bt s (i + k) = bt t k
/-- The piece t means the units a, wherever it stands. -/
def Means (t : ByteArray) (a : List Nat) : Prop := ∀ s i, Stands s i t → ∃ m, m ≤ t.size ∧ ∀ k u, tteF s (k + m) i u = tteF s k (i + t.size) (u ++ a)
theorem bt_get {s : ByteArray} {k : Nat} (h : k < s.size) : (s.get! k).toNat = bt s k := by unfold bt; rw [if_pos h]
theorem bt_append_left {t1 t2 : ByteArray} {k : Nat} (h : k < t1.size) : bt (t1 ++ t2) k = bt t1 k := by
  rw [← bt_get h, ← bt_get (by rw [ByteArray.size_append]; omega), Utf8W.get!_of_lt _ _ h, Utf8W.get!_of_lt _ _ (by rw [ByteArray.size_append]; omega), ByteArray.getElem_append_left h]
theorem bt_append_right {t1 t2 : ByteArray} {k : Nat} (h : k < t2.size) : bt (t1 ++ t2) (t1.size + k) = bt t2 k := by
  rw [← bt_get h, ← bt_get (by rw [ByteArray.size_append]; omega), Utf8W.get!_of_lt _ _ h, Utf8W.get!_of_lt _ _ (by rw [ByteArray.size_append]; omega), ByteArray.getElem_append_right (by omega)]
  simp
theorem Stands.left {s t1 t2 : ByteArray} {i : Nat} (h : Stands s i (t1 ++ t2)) : Stands s i t1 := by
  obtain ⟨h1, h2⟩ := h
  rw [ByteArray.size_append] at h1 h2
  exact ⟨by omega, fun k hk => by rw [h2 k (by omega), bt_append_left hk]⟩
theorem Stands.right {s t1 t2 : ByteArray} {i : Nat} (h : Stands s i (t1 ++ t2)) : Stands s (i + t1.size) t2 := by
  obtain ⟨h1, h2⟩ := h
  rw [ByteArray.size_append] at h1 h2
  exact ⟨by omega, fun k hk => by rw [show i + t1.size + k = i + (t1.size + k) by omega, h2 (t1.size + k) (by omega), bt_append_right hk]⟩
theorem Means.nil : Means ⟨#[]⟩ [] := fun s i _ => ⟨0, Nat.zero_le _, fun k u => by rw [List.append_nil]; rfl⟩
theorem Means.append {t1 t2 : ByteArray} {a1 a2 : List Nat} (h1 : Means t1 a1) (h2 : Means t2 a2) : Means (t1 ++ t2) (a1 ++ a2) := by
  intro s i h
  obtain ⟨m1, l1, e1⟩ := h1 s i h.left
  obtain ⟨m2, l2, e2⟩ := h2 s _ h.right
  refine ⟨m2 + m1, by rw [ByteArray.size_append]; omega, fun k u => ?_⟩
  rw [← Nat.add_assoc, e1, e2, ByteArray.size_append, List.append_assoc, Nat.add_assoc]
theorem means_whole {t : ByteArray} {a : List Nat} (h : Means t a) : tteF t (t.size + 1) 0 [] = .right a := by
  obtain ⟨m, hm, e⟩ := h t 0 ⟨by omega, fun k _ => by rw [Nat.zero_add]⟩
  have := e (t.size - m + 1) []
  rw [show t.size - m + 1 + m = t.size + 1 by omega] at this
  rw [this]
  unfold tteF
  rw [if_pos (by omega), List.nil_append]

theorem size1 (a : UInt8) : (ByteArray.mk #[a]).size = 1 := rfl
theorem size2 (a b : UInt8) : (ByteArray.mk #[a, b]).size = 2 := rfl
theorem size3 (a b c : UInt8) : (ByteArray.mk #[a, b, c]).size = 3 := rfl
theorem size4 (a b c d : UInt8) : (ByteArray.mk #[a, b, c, d]).size = 4 := rfl
theorem u8n {n : Nat} (h : n < 256) : (UInt8.ofNat n).toNat = n := by simp; omega
theorem stands1 {s : ByteArray} {i n : Nat} (hn : n < 256) (h : Stands s i ⟨#[UInt8.ofNat n]⟩) : bt s i = n ∧ i + 1 ≤ s.size := by
  refine ⟨?_, h.1⟩
  have := h.2 0 (by rw [size1]; omega)
  rw [Nat.add_zero] at this
  rw [this]
  exact u8n hn
theorem stands2 {s : ByteArray} {i n m : Nat} (hn : n < 256) (hm : m < 256) (h : Stands s i ⟨#[UInt8.ofNat n, UInt8.ofNat m]⟩) : bt s i = n ∧ bt s (i + 1) = m ∧ i + 2 ≤ s.size := by
  refine ⟨?_, ?_, h.1⟩
  · have := h.2 0 (by rw [size2]; omega)
    rw [Nat.add_zero] at this
    rw [this]; exact u8n hn
  · rw [h.2 1 (by rw [size2]; omega)]; exact u8n hm
theorem stands3 {s : ByteArray} {i n m l : Nat} (hn : n < 256) (hm : m < 256) (hl : l < 256) (h : Stands s i ⟨#[UInt8.ofNat n, UInt8.ofNat m, UInt8.ofNat l]⟩) : bt s i = n ∧ bt s (i + 1) = m ∧ bt s (i + 2) = l ∧ i + 3 ≤ s.size := by
  refine ⟨?_, ?_, ?_, h.1⟩
  · have := h.2 0 (by rw [size3]; omega)
    rw [Nat.add_zero] at this
    rw [this]; exact u8n hn
  · rw [h.2 1 (by rw [size3]; omega)]; exact u8n hm
  · rw [h.2 2 (by rw [size3]; omega)]; exact u8n hl
theorem stands4 {s : ByteArray} {i n m l o : Nat} (hn : n < 256) (hm : m < 256) (hl : l < 256) (ho : o < 256) (h : Stands s i ⟨#[UInt8.ofNat n, UInt8.ofNat m, UInt8.ofNat l, UInt8.ofNat o]⟩) : bt s i = n ∧ bt s (i + 1) = m ∧ bt s (i + 2) = l ∧ bt s (i + 3) = o ∧ i + 4 ≤ s.size := by
  refine ⟨?_, ?_, ?_, ?_, h.1⟩
  · have := h.2 0 (by rw [size4]; omega)
    rw [Nat.add_zero] at this
    rw [this]; exact u8n hn
  · rw [h.2 1 (by rw [size4]; omega)]; exact u8n hm
  · rw [h.2 2 (by rw [size4]; omega)]; exact u8n hl
  · rw [h.2 3 (by rw [size4]; omega)]; exact u8n ho
/-- A character that is one: no half of a pair. -/
def Good (p : Nat) : Prop := p < 55296 ∨ (57344 ≤ p ∧ p ≤ 1114111)
theorem encode_1 {p : Nat} (h : p < 128) : Utf8.encode (p : Int) = ⟨#[UInt8.ofNat p]⟩ := by
  have hv : Utf8.valid (p : Int) = true := by simp [Utf8.valid]; omega
  unfold Utf8.encode
  simp only [hv, if_true, Int.toNat_natCast]
  rw [if_pos (by omega)]
theorem encode_2 {p : Nat} (h : 128 ≤ p) (h1 : p < 2048) : Utf8.encode (p : Int) = ⟨#[UInt8.ofNat (192 + p / 64), UInt8.ofNat (128 + p % 64)]⟩ := by
  have hv : Utf8.valid (p : Int) = true := by simp [Utf8.valid]; omega
  unfold Utf8.encode
  simp only [hv, if_true, Int.toNat_natCast]
  rw [if_neg (by omega), if_pos (by omega)]
theorem encode_3 {p : Nat} (h : 2048 ≤ p) (h1 : p < 65536) (hg : Good p) : Utf8.encode (p : Int) = ⟨#[UInt8.ofNat (224 + p / 4096), UInt8.ofNat (128 + p / 64 % 64), UInt8.ofNat (128 + p % 64)]⟩ := by
  have hv : Utf8.valid (p : Int) = true := by unfold Good at hg; simp [Utf8.valid]; omega
  unfold Utf8.encode
  simp only [hv, if_true, Int.toNat_natCast]
  rw [if_neg (by omega), if_neg (by omega), if_pos (by omega)]
theorem encode_4 {p : Nat} (h : 65536 ≤ p) (hg : Good p) : Utf8.encode (p : Int) = ⟨#[UInt8.ofNat (240 + p / 262144), UInt8.ofNat (128 + p / 4096 % 64), UInt8.ofNat (128 + p / 64 % 64), UInt8.ofNat (128 + p % 64)]⟩ := by
  have hv : Utf8.valid (p : Int) = true := by unfold Good at hg; simp [Utf8.valid]; omega
  unfold Utf8.encode
  simp only [hv, if_true, Int.toNat_natCast]
  rw [if_neg (by omega), if_neg (by omega), if_neg (by omega)]
theorem rn_decodeN {s : ByteArray} {i : Nat} (h : i < s.size) : rn s i = decodeN (s.size - i) (bt s i) (s.get! (i + 1)).toNat (s.get! (i + 2)).toNat (s.get! (i + 3)).toNat := by
  unfold rn; rw [if_pos h, decode_at, bt_get h]
/-- What was encoded is decoded. -/
theorem rn_encode {s : ByteArray} {i p : Nat} (hg : Good p) (h : Stands s i (Utf8.encode (p : Int))) : rn s i = (p, (Utf8.encode (p : Int)).size) := by
  have hg' := hg
  unfold Good at hg
  by_cases h1 : p < 128
  · rw [encode_1 h1] at h ⊢
    obtain ⟨b0, hs⟩ := stands1 (by omega) h
    rw [rn_of_byte (by omega) (by omega), b0, size1]
  by_cases h2 : p < 2048
  · rw [encode_2 (by omega) h2] at h ⊢
    obtain ⟨b0, b1, hs⟩ := stands2 (by omega) (by omega) h
    rw [rn_decodeN (by omega), b0, bt_get (by omega), b1, size2]
    unfold decodeN
    rw [if_neg (by omega), if_pos (by omega), if_pos (by omega)]
    apply Prod.ext
    · show _ = p; omega
    · rfl
  by_cases h3 : p < 65536
  · rw [encode_3 (by omega) h3 hg'] at h ⊢
    obtain ⟨b0, b1, b2, hs⟩ := stands3 (by omega) (by omega) (by omega) h
    rw [rn_decodeN (by omega), b0, bt_get (by omega), b1, bt_get (by omega), b2, size3]
    unfold decodeN
    rw [if_neg (by omega), if_neg (by omega), if_pos (by omega), if_pos (by omega)]
    apply Prod.ext
    · show _ = p; omega
    · rfl
  · rw [encode_4 (by omega) hg'] at h ⊢
    obtain ⟨b0, b1, b2, b3, hs⟩ := stands4 (by omega) (by omega) (by omega) (by omega) h
    rw [rn_decodeN (by omega), b0, bt_get (by omega), b1, bt_get (by omega), b2, bt_get (by omega), b3, size4]
    unfold decodeN
    rw [if_neg (by omega), if_neg (by omega), if_neg (by omega), if_pos (by omega), if_pos (by omega)]
    apply Prod.ext
    · show _ = p; omega
    · rfl
theorem encode_pos (p : Int) : 1 ≤ (Utf8.encode p).size := by
  unfold Utf8.encode
  simp only
  repeat' split
  all_goals first | (rw [size1]; omega) | (rw [size2]; omega) | (rw [size3]; omega) | (rw [size4]; omega)
theorem encode_le (p : Int) : (Utf8.encode p).size ≤ 4 := by
  unfold Utf8.encode
  simp only
  repeat' split
  all_goals first | (rw [size1]; omega) | (rw [size2]; omega) | (rw [size3]; omega) | (rw [size4]; omega)
/-- A character as it is. -/
theorem means_plain {p : Nat} (hg : Good p) (h13 : p ≠ 13) (h92 : p ≠ 92) : Means (Utf8.encode (p : Int)) (unitsOf p) := by
  intro s i h
  have hr := rn_encode hg h
  have hp := encode_pos (p : Int)
  have hs := h.1
  refine ⟨1, hp, fun k u => ?_⟩
  rw [tteF, if_neg (by omega), hr]
  simp only
  rw [if_neg h13, if_pos h92]
/-- A backslash and what is behind it. -/
theorem means_esc {t : ByteArray} {a : List Nat} (h2 : 2 ≤ t.size) (h : ∀ s i, Stands s i t → bt s i = 92 ∧ escF s (i + 1) = .right a (i + t.size)) : Means t a := by
  intro s i hs
  obtain ⟨hb, he⟩ := h s i hs
  have hz := hs.1
  have hr : rn s i = (92, 1) := by rw [rn_of_byte (by omega) (by omega), hb]
  refine ⟨1, by omega, fun k u => ?_⟩
  rw [tteF, if_neg (by omega), hr]
  simp only
  rw [if_neg (by omega), if_neg (by omega), if_neg (by omega), he]

/-- Bytes as a list. -/
def bytesL (t : ByteArray) : List Nat := t.data.toList.map UInt8.toNat
theorem bytesL_length (t : ByteArray) : (bytesL t).length = t.size := by
  unfold bytesL
  rw [List.length_map, Array.length_toList]
  rfl
theorem bytesL_append (a b : ByteArray) : bytesL (a ++ b) = bytesL a ++ bytesL b := by
  unfold bytesL
  rw [ByteArray.data_append, Array.toList_append, List.map_append]
theorem bytesL_get (t : ByteArray) (k : Nat) (h : k < t.size) : (bytesL t)[k]'(by rw [bytesL_length]; exact h) = bt t k := by
  rw [← bt_get h, Utf8W.get!_of_lt _ _ h]
  simp only [bytesL, List.getElem_map, Array.getElem_toList]
  rfl
/-- The number that hexadecimal digits write. -/
def hexL : List Nat → Nat → Option Nat
  | [], v => some v
  | b :: l, v => match hexv b with | none => none | some d => hexL l (16 * v + d)
theorem hexL_append (l m : List Nat) : ∀ v p, hexL l v = some p → hexL (l ++ m) v = hexL m p := by
  induction l with
  | nil => intro v p h; simp only [hexL, Option.some.injEq] at h; subst h; rfl
  | cons b l ih =>
    intro v p h
    simp only [hexL, List.cons_append] at h ⊢
    cases hb : hexv b with
    | none => rw [hb] at h; cases h
    | some d => rw [hb] at h; exact ih _ _ h
theorem hexL_ge (l : List Nat) : ∀ v p, hexL l v = some p → v ≤ p := by
  induction l with
  | nil => intro v p h; simp only [hexL, Option.some.injEq] at h; omega
  | cons b l ih =>
    intro v p h
    simp only [hexL] at h
    cases hb : hexv b with
    | none => rw [hb] at h; cases h
    | some d => rw [hb] at h; have := ih _ _ h; omega
theorem digitsF_hexL {s : ByteArray} (l : List Nat) : ∀ i v p, (∀ k (h : k < l.length), bt s (i + k) = l[k]) → hexL l v = some p → digitsF s l.length i v = some (p, i + l.length) := by
  induction l with
  | nil => intro i v p _ h; simp only [hexL, Option.some.injEq] at h; subst h; rfl
  | cons b l ih =>
    intro i v p hk h
    simp only [hexL] at h
    have h0 : bt s i = b := hk 0 (by simp)
    simp only [List.length_cons, digitsF, h0]
    cases hb : hexv b with
    | none => rw [hb] at h; cases h
    | some d =>
      rw [hb] at h
      simp only
      rw [ih (i + 1) _ p (fun k hk' => by rw [show i + 1 + k = i + (k + 1) by omega, hk (k + 1) (by simp; omega)]; rfl) h]
      rw [show i + 1 + l.length = i + (l.length + 1) by omega]
theorem braceF_hexL {s : ByteArray} (l : List Nat) : ∀ i v p f b, (∀ k (h : k < l.length), bt s (i + k) = l[k]) → hexL l v = some p → p ≤ 1114111 → bt s (i + l.length) = 125 → (b = true → l ≠ []) → l.length < f → braceF s f i v b = some (p, i + l.length + 1) := by
  induction l with
  | nil =>
    intro i v p f b _ h hp he hb hf
    simp only [hexL, Option.some.injEq] at h
    subst h
    cases f with
    | zero => simp at hf
    | succ f =>
      have he' : bt s i = 125 := he
      rw [braceF, if_pos he']
      cases b with
      | true => exact absurd rfl (hb rfl)
      | false => rfl
  | cons c l ih =>
    intro i v p f b hk h hp he hb hf
    simp only [hexL] at h
    have h0 : bt s i = c := hk 0 (by simp)
    cases f with
    | zero => simp at hf
    | succ f =>
      cases hc : hexv c with
      | none => rw [hc] at h; cases h
      | some d =>
        rw [hc] at h
        simp only at h
        have hge := hexL_ge _ _ _ h
        have hne : ¬ c = 125 := by rintro rfl; simp [hexv] at hc
        rw [braceF, h0, if_neg hne, hc]
        simp only
        rw [if_neg (by omega)]
        simp only [List.length_cons] at he hf
        rw [ih (i + 1) _ p f false (fun k hk' => by rw [show i + 1 + k = i + (k + 1) by omega, hk (k + 1) (by simp; omega)]; rfl) h hp (by rw [← he]; congr 1; omega) (fun h => by cases h) (by omega)]
        simp only [List.length_cons, Option.some.injEq, Prod.mk.injEq, true_and]
        omega
/-- Small letters made great ones. -/
def upB (b : Nat) : Nat := if 97 ≤ b then b - 32 else b
theorem hexv_up {b d : Nat} (h : hexv b = some d) : hexv (upB b) = some d := by
  unfold hexv at h
  unfold upB
  split at h
  · rw [if_neg (by omega)]; unfold hexv; rw [if_pos (by omega)]; exact h
  split at h
  · rw [if_pos (by omega)]; unfold hexv; rw [if_neg (by omega), if_neg (by omega), if_pos (by omega)]
    simp only [Option.some.injEq] at h ⊢; omega
  split at h
  · rw [if_neg (by omega)]; unfold hexv; rw [if_neg (by omega), if_neg (by omega), if_pos (by omega)]; exact h
  · cases h
theorem hexL_up (l : List Nat) : ∀ v p, hexL l v = some p → hexL (l.map upB) v = some p := by
  induction l with
  | nil => intro v p h; exact h
  | cons b l ih =>
    intro v p h
    simp only [hexL, List.map_cons] at h ⊢
    cases hb : hexv b with
    | none => rw [hb] at h; cases h
    | some d => rw [hb] at h; rw [hexv_up hb]; exact ih _ _ h
theorem hexL_zero (l : List Nat) : hexL (48 :: l) 0 = hexL l 0 := by
  have h : hexv 48 = some 0 := by decide
  simp only [hexL, h]
/-- t: hexadecimal digits that write p. -/
def HexT (t : ByteArray) (p : Nat) : Prop := hexL (bytesL t) 0 = some p
theorem stands_bytes {s t : ByteArray} {i : Nat} (h : Stands s i t) : ∀ k (hk : k < (bytesL t).length), bt s (i + k) = (bytesL t)[k] := by
  intro k hk
  have hk' : k < t.size := by rw [bytesL_length] at hk; exact hk
  rw [bytesL_get t k hk', h.2 k hk']
theorem pre2 {s t : ByteArray} {i a b : Nat} (ha : a < 256) (hb : b < 256) (h : Stands s i (⟨#[UInt8.ofNat a, UInt8.ofNat b]⟩ ++ t)) : bt s i = a ∧ bt s (i + 1) = b ∧ Stands s (i + 2) t := by
  obtain ⟨b0, b1, _⟩ := stands2 ha hb h.left
  exact ⟨b0, b1, h.right⟩
theorem escF_x {s : ByteArray} {i p j : Nat} (hi : i < s.size) (hb : bt s i = 120) (hd : digitsF s 2 (i + 1) 0 = some (p, j)) : escF s i = .right (unitsOf p) j := by
  have hr : rn s i = (120, 1) := by rw [rn_of_byte hi (by omega), hb]
  unfold escF
  rw [if_neg (by omega), hr]
  simp [simpleF, isLn, hd, ofPoint]
theorem escF_u {s : ByteArray} {i p j : Nat} (hi : i < s.size) (hb : bt s i = 117) (hd : pointF s (i + 1) = some (p, j)) : escF s i = .right (unitsOf p) j := by
  have hr : rn s i = (117, 1) := by rw [rn_of_byte hi (by omega), hb]
  unfold escF
  rw [if_neg (by omega), hr]
  simp [simpleF, isLn, hd, ofPoint]
/-- backslash, x, two digits -/
theorem means_x {t : ByteArray} {p : Nat} (ht : HexT t p) (h2 : t.size = 2) : Means (⟨#[92, 120]⟩ ++ t) (unitsOf p) := by
  refine means_esc (by rw [ByteArray.size_append, size2]; omega) fun s i h => ?_
  obtain ⟨b0, b1, hs⟩ := pre2 (a := 92) (b := 120) (by omega) (by omega) h
  have hz := hs.1
  refine ⟨b0, ?_⟩
  have hd := digitsF_hexL (bytesL t) (i + 2) 0 p (stands_bytes hs) ht
  rw [bytesL_length, h2] at hd
  rw [escF_x (p := p) (j := i + 2 + 2) (by omega) b1 hd, ByteArray.size_append, size2, h2]
/-- backslash, u, four digits -/
theorem means_u {t : ByteArray} {p : Nat} (ht : HexT t p) (h2 : t.size = 4) : Means (⟨#[92, 117]⟩ ++ t) (unitsOf p) := by
  refine means_esc (by rw [ByteArray.size_append, size2]; omega) fun s i h => ?_
  obtain ⟨b0, b1, hs⟩ := pre2 (a := 92) (b := 117) (by omega) (by omega) h
  have hz := hs.1
  refine ⟨b0, ?_⟩
  have hd := digitsF_hexL (bytesL t) (i + 2) 0 p (stands_bytes hs) ht
  rw [bytesL_length, h2] at hd
  have hne : ¬ bt s (i + 1 + 1) = 123 := by
    intro e
    rw [show i + 1 + 1 = i + 2 by omega] at e
    rw [show (4 : Nat) = 3 + 1 from rfl, digitsF, e] at hd
    have hx : hexv 123 = none := by decide
    rw [hx] at hd
    cases hd
  have hp : pointF s (i + 1 + 1) = some (p, i + 2 + 4) := by unfold pointF; rw [if_neg hne, show i + 1 + 1 = i + 2 by omega, hd]
  rw [escF_u (p := p) (j := i + 2 + 4) (by omega) b1 hp, ByteArray.size_append, size2, h2]
/-- backslash, u, digits in braces -/
theorem means_b {t : ByteArray} {p : Nat} (ht : HexT t p) (h2 : 1 ≤ t.size) (hp : p ≤ 1114111) : Means (⟨#[92, 117, 123]⟩ ++ t ++ ⟨#[125]⟩) (unitsOf p) := by
  refine means_esc (by rw [ByteArray.size_append, ByteArray.size_append, size3]; omega) fun s i h => ?_
  obtain ⟨b0, b1, b2, _⟩ := stands3 (n := 92) (m := 117) (l := 123) (by omega) (by omega) (by omega) h.left.left
  have hs := h.left.right
  have he := (stands1 (n := 125) (by omega) h.right)
  rw [ByteArray.size_append, size3] at he
  rw [size3] at hs
  have hz := hs.1
  refine ⟨b0, ?_⟩
  have hne : bytesL t ≠ [] := by intro e; have := bytesL_length t; rw [e] at this; simp at this; omega
  have hd := braceF_hexL (bytesL t) (i + 3) 0 p (s.size + 1) true (stands_bytes hs) ht hp (by rw [bytesL_length, ← he.1]; congr 1; omega) (fun _ => hne) (by rw [bytesL_length]; omega)
  rw [bytesL_length] at hd
  have hp : pointF s (i + 1 + 1) = some (p, i + 3 + t.size + 1) := by unfold pointF; rw [if_pos b2, show i + 1 + 1 + 1 = i + 3 by omega, hd]
  rw [escF_u (p := p) (j := i + 3 + t.size + 1) (by omega) b1 hp, ByteArray.size_append, ByteArray.size_append, size3, size1]
  congr 1
  omega
/-- backslash and a sign that means itself -/
theorem means_self {p : Nat} (h : p = 34 ∨ p = 39 ∨ p = 92 ∨ p = 36) : Means (⟨#[92]⟩ ++ Utf8.encode (p : Int)) (unitsOf p) := by
  rw [encode_1 (by omega)]
  refine means_esc (by rw [ByteArray.size_append, size1, size1]; omega) fun s i hs => ?_
  have h0 := (stands1 (n := 92) (by omega) hs.left).1
  obtain ⟨h1, hz⟩ := stands1 (n := p) (by omega) hs.right
  rw [size1] at h1 hz
  refine ⟨h0, ?_⟩
  have hr : rn s (i + 1) = (p, 1) := by rw [rn_of_byte (by omega) (by omega), h1]
  unfold escF
  rw [if_neg (by omega), hr]
  rcases h with rfl | rfl | rfl | rfl <;> simp [simpleF, isLn] <;> rfl
theorem means_n : Means ⟨#[92, 110]⟩ [10] := by
  refine means_esc (by decide) fun s i hs => ?_
  obtain ⟨h0, h1, hz⟩ := stands2 (n := 92) (m := 110) (by omega) (by omega) hs
  have hr : rn s (i + 1) = (110, 1) := by rw [rn_of_byte (by omega) (by omega), h1]
  refine ⟨h0, ?_⟩
  unfold escF
  rw [if_neg (by omega), hr]
  simp [simpleF] <;> rfl
theorem means_t : Means ⟨#[92, 116]⟩ [9] := by
  refine means_esc (by decide) fun s i hs => ?_
  obtain ⟨h0, h1, hz⟩ := stands2 (n := 92) (m := 116) (by omega) (by omega) hs
  have hr : rn s (i + 1) = (116, 1) := by rw [rn_of_byte (by omega) (by omega), h1]
  refine ⟨h0, ?_⟩
  unfold escF
  rw [if_neg (by omega), hr]
  simp [simpleF] <;> rfl
theorem means_line : Means ⟨#[92, 10]⟩ [] := by
  refine means_esc (by decide) fun s i hs => ?_
  obtain ⟨h0, h1, hz⟩ := stands2 (n := 92) (m := 10) (by omega) (by omega) hs
  have hr : rn s (i + 1) = (10, 1) := by rw [rn_of_byte (by omega) (by omega), h1]
  refine ⟨h0, ?_⟩
  unfold escF
  rw [if_neg (by omega), hr]
  simp [simpleF, isLn] <;> rfl
theorem means_crlf : Means ⟨#[92, 13, 10]⟩ [] := by
  refine means_esc (by decide) fun s i hs => ?_
  obtain ⟨h0, h1, h2, hz⟩ := stands3 (n := 92) (m := 13) (l := 10) (by omega) (by omega) (by omega) hs
  have hr : rn s (i + 1) = (13, 1) := by rw [rn_of_byte (by omega) (by omega), h1]
  have h2' : bt s (i + 1 + 1) = 10 := h2
  refine ⟨h0, ?_⟩
  unfold escF
  rw [if_neg (by omega), hr]
  simp [simpleF, h2'] <;> rfl
theorem means_ls : Means ⟨#[92, 226, 128, 168]⟩ [] := by
  refine means_esc (by decide) fun s i hs => ?_
  have hs2 : Stands s i (⟨#[UInt8.ofNat 92]⟩ ++ Utf8.encode ((8232 : Nat) : Int)) := hs
  have h0 := (stands1 (n := 92) (by omega) hs2.left).1
  have hr : rn s (i + 1) = (8232, 3) := rn_encode (p := 8232) (by unfold Good; omega) hs2.right
  have hz := hs.1
  rw [size4] at hz
  refine ⟨h0, ?_⟩
  unfold escF
  rw [if_neg (by omega), hr]
  simp [simpleF, isLn] <;> rfl
theorem means_crbs : Means ⟨#[92, 13, 92, 10]⟩ [] := by
  have h1 : Means ⟨#[92, 10]⟩ [] := means_line
  intro s i hs
  obtain ⟨b0, b1, b2, b3, hz⟩ := stands4 (n := 92) (m := 13) (l := 92) (o := 10) (by omega) (by omega) (by omega) (by omega) hs
  obtain ⟨m, hm, e⟩ := h1 s (i + 2) ⟨by rw [size2]; omega, fun k hk => by
    rw [size2] at hk
    have : k = 0 ∨ k = 1 := by omega
    rcases this with rfl | rfl
    · rw [Nat.add_zero, b2]; rfl
    · rw [show i + 2 + 1 = i + 3 by omega, b3]; rfl⟩
  rw [size2] at hm
  have hr0 : rn s i = (92, 1) := by rw [rn_of_byte (by omega) (by omega), b0]
  have hr : rn s (i + 1) = (13, 1) := by rw [rn_of_byte (by omega) (by omega), b1]
  have hb : bt s (i + 1 + 1) ≠ 10 := by rw [show i + 1 + 1 = i + 2 by omega, b2]; omega
  have he : escF s (i + 1) = .right [] (i + 2) := by
    unfold escF
    rw [if_neg (by omega), hr]
    simp [simpleF, isLn, hb]
  refine ⟨m + 1, by rw [size4]; omega, fun k u => ?_⟩
  rw [← Nat.add_assoc, tteF, if_neg (by omega), hr0]
  simp only
  rw [if_neg (by omega), if_neg (by omega), if_neg (by omega), he]
  simp only
  rw [e, size2, size4, List.append_nil, List.append_nil]
end Go.Proofs.YthknielnhmoobaaGreatDoor
