/- The great loop of Go's decoder of escapes, where the text is right. -/
import Derived.Test.YthknielnhmoobaaGreatDoorTn
namespace Go.Proofs.YthknielnhmoobaaGreatDoor
open Go.RowKit Go.Lib
theorem tteR_end {s : ByteArray} {k i : Nat} {u r : List Nat} (h : tteF s k i u = .right r) (hi : s.size ≤ i) : u = r := by
  cases k with
  | zero => cases h
  | succ k => unfold tteF at h; rw [if_pos hi] at h; cases h; rfl
theorem tteR_go {s : ByteArray} {k i c n : Nat} {u r : List Nat} (h : tteF s k i u = .right r) (hi : i < s.size) (hrn : rn s i = (c, n)) :
    (c = 13 ∧ bt s (i + n) = 10 ∧ ∃ k', tteF s k' (i + n + 1) (u ++ [10]) = .right r) ∨ (c = 13 ∧ bt s (i + n) ≠ 10 ∧ ∃ k', tteF s k' (i + n) (u ++ [10]) = .right r)
      ∨ (c ≠ 13 ∧ c ≠ 92 ∧ ∃ k', tteF s k' (i + n) (u ++ unitsOf c) = .right r) ∨ (c = 92 ∧ ∃ a j, escF s (i + n) = .right a j ∧ ∃ k', tteF s k' j (u ++ a) = .right r) := by
  cases k with
  | zero => cases h
  | succ k =>
    unfold tteF at h
    rw [if_neg (by omega), hrn] at h
    simp only at h
    by_cases h13 : c = 13
    · rw [if_pos h13] at h
      by_cases hb : bt s (i + n) = 10
      · rw [if_pos hb] at h; exact .inl ⟨h13, hb, k, h⟩
      · rw [if_neg hb] at h; exact .inr (.inl ⟨h13, hb, k, h⟩)
    · rw [if_neg h13] at h
      by_cases h92 : c = 92
      · rw [if_neg (fun k => k h92)] at h
        split at h
        · cases h
        · cases he : escF s (i + n) with
          | right a j => rw [he] at h; exact .inr (.inr (.inr ⟨h92, a, j, rfl, k, h⟩))
          | wrong => rw [he] at h; cases h
          | opn => rw [he] at h; cases h
      · rw [if_pos h92] at h; exact .inr (.inr (.inl ⟨h13, h92, k, h⟩))
set_option maxRecDepth 100000 in
theorem tte_loop {X st : Nat} {s : ByteArray} {rep : Bool} {w : World} {f : Nat → Value} {wr : World} {v : Value} {u r : List Nat} {i k B : Nat} {Q : Exit → Act → World → Prop} (e : TEnv X st s w B) (h : At X st s rep w f wr v u i) (hu : u.length ≤ 2 * i) (ht : tteF s k i u = .right r)
    (hq : ∀ g w' v', At X st s rep w g w' v' r s.size → Q (.exit 0) (mk 567 g) w') : (sub B29 [1, 1, 1, 0, 0]).wp Tryz.prog Q (mk 567 f) wr := by
  have hs := e.hs
  conv => arg 2; whnf
  refine fr_loop 12 s.size rfl (fun f w' => ∃ (i k : Nat) (u : List Nat) (v : Value), At X st s rep w f w' v u i ∧ u.length ≤ 2 * i ∧ tteF s k i u = .right r) ⟨i, k, u, v, h, hu, ht⟩ ?_
  clear h hu ht f wr u v i k
  rintro f wr ⟨i, k, u, v, h, hu, ht⟩
  have hsum : num (f 12) = i := by rw [h.h12, num_int]
  have hi := h.hi
  have hnext : ∀ j u2, (∃ k', tteF s k' j u2 = .right r) → i < j → u2.length ≤ 2 * j → ∀ g w' v', At X st s rep w g w' v' u2 j → Exit.then (fun a' w' => ∃ f', a' = mk 567 f' ∧ (∃ (i k : Nat) (u : List Nat) (v : Value), At X st s rep w f' w' v u i ∧ u.length ≤ 2 * i ∧ tteF s k i u = .right r) ∧ s.size - num (f' 12) < s.size - num (f 12)) Q .normal (mk 567 g) w' := by
    rintro j u2 ⟨k', ht'⟩ hij hul g w' v' hag
    refine to_then ⟨g, rfl, ⟨j, k', u2, v', hag, hul, ht'⟩, ?_⟩
    rw [hsum, hag.h12, num_int]
    have := hag.hi
    omega
  by_cases hlt : i < s.size
  · obtain ⟨c, n, hrn⟩ : ∃ c n, rn s i = (c, n) := ⟨_, _, rfl⟩
    have hle := rn_le (s := s) (i := i) hi
    rw [hrn] at hle
    have hpos := rn_pos hlt
    rw [hrn] at hpos
    have hc := rn_rune s i
    rw [hrn] at hc
    simp only at hle hpos hc
    rcases tteR_go ht hlt hrn with ⟨h13, hb, ht'⟩ | ⟨h13, hb, ht'⟩ | ⟨h13, h92, ht'⟩ | ⟨h92, a, j, hesc, ht'⟩
    · have hlt2 : i + n < s.size := bt_lt_size (b := 9) hb
      exact round_cr_a e h hlt hrn hle hpos h13 (by omega) hlt2 hb (hnext _ _ ht' (by omega) (by simp; omega))
    · by_cases hlt2 : i + n < s.size
      · exact round_cr_b e h hlt hrn hle hpos h13 (by omega) hlt2 hb (hnext _ _ ht' (by omega) (by simp; omega))
      · exact round_cr_c e h hlt hrn hle hpos h13 (by omega) (by omega) (hnext _ _ ht' (by omega) (by simp; omega))
    · have hul := unitsOf_len c
      exact round_plain e h hlt hrn hle hpos hc h13 h92 (by omega) (hnext _ _ ht' (by omega) (by simp; omega))
    · obtain ⟨hb, hn⟩ := rune_byte hrn (by omega)
      have hel := escF_le hesc
      exact round_esc e h hlt hrn hle (by omega) h92 (by rw [show i + n - 1 = i by omega, hb, h92]) (by omega) hesc (hnext _ _ ht' (by omega) (by simp; omega))
  · have hu2 := tteR_end ht (by omega)
    subst hu2
    refine round_end e h (by omega) (fun g hg => to_thenX (hq g wr v ?_))
    have : i = s.size := by omega
    rw [← this]; exact hg
end Go.Proofs.YthknielnhmoobaaGreatDoor
