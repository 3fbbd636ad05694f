/- The walk of Go's decoder of escapes: a part. Printed by gen_tte2.py. -/
import Derived.Test.YtolgapijpejpoaaDoorVw
namespace Go.Proofs.YtolgapijpejpoaaDoor
open Go.RowKit Go.Lib
set_option maxRecDepth 100000 in
theorem loop_xw {X st : Nat} {s : ByteArray} {w : World} {f : Nat → Value} {wr : World} {v : Value} {u : List Nat} {i B : Nat} {B0 : Nat → Prop} {Q : Exit → Act → World → Prop} (e : TEnv X st s w B) (hb0 : OffAny B0) (h : At X st s true w f wr v u i)
    (h25 : f 25 = .int .i32 ((0 : Nat) : Int)) (h26 : f 26 = .int .i64 ((0 : Nat) : Int)) (hdg : digitsF s 2 i 0 = none) (hq : WQ B0 w Q) :
    (sub B29 [1, 1, 1, 0, 0, 0, 1, 0, 1, 1, 0, 1, 0, 1, 1, 1, 0, 1, 1, 1, 0, 1, 1, 1, 1, 1, 1, 1, 1, 1, 1, 1, 1, 1, 1, 1, 1, 1, 0, 1, 1, 0, 1, 0]).wp Tryd.prog Q (mk 567 f) wr := by
  have hml : s.size ≤ maxLen := by have := e.hs; unfold maxLen; omega
  have hs := e.hs; have hst := e.hst; have hi := h.hi
  conv => arg 2; whnf
  refine fr_loop 26 2 rfl (fun f w' => ∃ (i j x : Nat), At X st s true w f w' v u i ∧ f 25 = .int .i32 (x : Int) ∧ f 26 = .int .i64 (j : Int) ∧ j ≤ 2 ∧ x < 16 ^ j ∧ digitsF s (2 - j) i x = none) ⟨i, 0, 0, h, h25, h26, by omega, by decide, hdg⟩ ?_
  clear h h25 h26 hdg hi
  rintro f wq ⟨i, j, x, h, h25, h26, hj, hx, hdg⟩
  have hi := h.hi
  have hsum : num (f 26) = j := by rw [h26, num_int]
  by_cases hj2 : j = 2
  · subst hj2
    simp [digitsF] at hdg
  · obtain ⟨m, hm⟩ : ∃ m, 2 - j = m + 1 := ⟨2 - j - 1, by omega⟩
    rw [hm] at hdg
    unfold digitsF at hdg
    have hxx : x ≤ 255 := by
      have : (16 : Nat) ^ j ≤ 16 ^ 1 := Nat.pow_le_pow_right (by omega) (by omega)
      omega
    cases hd : hexv (bt s i) with
    | none =>
      obtain ⟨c, n, hrn⟩ : ∃ c n, rn s i = (c, n) := ⟨_, _, rfl⟩
      have hle := rn_le (s := s) (i := i) (by omega)
      rw [hrn] at hle
      simp only at hle
      obtain ⟨hno1, hno2, hno3⟩ := nodigit hrn hd
      refine fr_seq ?_
      refine fr_seq ?_
      refine fr_region ?_
      refine fr_move (.int .i64 ((j : Nat) : Int)) h26 ?_
      refine fr_lss .i64 3 ((j : Nat) : Int) 2 true rfl rfl rfl (by exact ltT (by omega)) ?_
      refine fr_end ?_
      refine to_then ?_
      refine fr_true rfl ?_
      refine wp_skip ?_
      refine to_then ?_
      refine fr_seq ?_
      refine wp_block ?_
      refine fr_seq ?_
      refine fr_region ?_
      refine fr_move ((.string s)) h.h2 ?_
      refine fr_move (.int .i64 ((i : Nat) : Int)) h.h12 ?_
      refine fr_slice_from 9 s (i) rfl rfl rfl (by omega) hml ?_
      refine fr_dec s (i) B (c) (n) hrn rfl (by omega) (h.tabs e) _ ?_
      intro w1 hb
      replace h := h.world hb
      clear hb
      refine fr_move ((.tuple #[.int .i32 ((c : Nat) : Int), .int .i64 ((n : Nat) : Int)])) rfl ?_
      refine fr_extract 0 _ (.int .i32 ((c : Nat) : Int)) rfl rfl ?_
      refine fr_extract 1 _ (.int .i64 ((n : Nat) : Int)) rfl rfl ?_
      refine fr_assign (.int .i32 ((c : Nat) : Int)) rfl ?_
      refine fr_assign (.int .i64 ((n : Nat) : Int)) rfl ?_
      refine fr_end ?_
      refine to_then ?_
      refine fr_seq ?_
      refine fr_region ?_
      refine fr_move (.int .i64 ((i : Nat) : Int)) h.h12 ?_
      refine fr_move (.int .i64 ((n : Nat) : Int)) rfl ?_
      refine fr_add .i64 3 ((i : Nat) : Int) ((n : Nat) : Int) ((i + n : Nat) : Int) rfl rfl rfl (by exact w64' (by omega) (by omega) (by omega)) ?_
      refine fr_assign (.int .i64 ((i + n : Nat) : Int)) rfl ?_
      refine fr_end ?_
      refine to_then ?_
      refine fr_seq ?_
      refine fr_region ?_
      refine fr_move (.int .i32 ((c : Nat) : Int)) rfl ?_
      refine fr_end ?_
      refine to_then ?_
      refine wp_block ?_
      refine fr_seq ?_
      refine fr_seq ?_
      refine fr_region ?_
      refine fr_eq .i32 21 ((c : Nat) : Int) 48 false rfl rfl rfl (by exact eqF (by omega)) ?_
      refine fr_assign (.bool false) rfl ?_
      refine fr_end ?_
      refine to_then ?_
      refine fr_false rfl ?_
      refine fr_seq ?_
      refine fr_region ?_
      refine fr_eq .i32 21 ((c : Nat) : Int) 49 false rfl rfl rfl (by exact eqF (by omega)) ?_
      refine fr_assign (.bool false) rfl ?_
      refine fr_end ?_
      refine to_then ?_
      refine fr_false rfl ?_
      refine fr_seq ?_
      refine fr_region ?_
      refine fr_eq .i32 21 ((c : Nat) : Int) 50 false rfl rfl rfl (by exact eqF (by omega)) ?_
      refine fr_assign (.bool false) rfl ?_
      refine fr_end ?_
      refine to_then ?_
      refine fr_false rfl ?_
      refine fr_seq ?_
      refine fr_region ?_
      refine fr_eq .i32 21 ((c : Nat) : Int) 51 false rfl rfl rfl (by exact eqF (by omega)) ?_
      refine fr_assign (.bool false) rfl ?_
      refine fr_end ?_
      refine to_then ?_
      refine fr_false rfl ?_
      refine fr_seq ?_
      refine fr_region ?_
      refine fr_eq .i32 21 ((c : Nat) : Int) 52 false rfl rfl rfl (by exact eqF (by omega)) ?_
      refine fr_assign (.bool false) rfl ?_
      refine fr_end ?_
      refine to_then ?_
      refine fr_false rfl ?_
      refine fr_seq ?_
      refine fr_region ?_
      refine fr_eq .i32 21 ((c : Nat) : Int) 53 false rfl rfl rfl (by exact eqF (by omega)) ?_
      refine fr_assign (.bool false) rfl ?_
      refine fr_end ?_
      refine to_then ?_
      refine fr_false rfl ?_
      refine fr_seq ?_
      refine fr_region ?_
      refine fr_eq .i32 21 ((c : Nat) : Int) 54 false rfl rfl rfl (by exact eqF (by omega)) ?_
      refine fr_assign (.bool false) rfl ?_
      refine fr_end ?_
      refine to_then ?_
      refine fr_false rfl ?_
      refine fr_seq ?_
      refine fr_region ?_
      refine fr_eq .i32 21 ((c : Nat) : Int) 55 false rfl rfl rfl (by exact eqF (by omega)) ?_
      refine fr_assign (.bool false) rfl ?_
      refine fr_end ?_
      refine to_then ?_
      refine fr_false rfl ?_
      refine fr_seq ?_
      refine fr_region ?_
      refine fr_eq .i32 21 ((c : Nat) : Int) 56 false rfl rfl rfl (by exact eqF (by omega)) ?_
      refine fr_assign (.bool false) rfl ?_
      refine fr_end ?_
      refine to_then ?_
      refine fr_false rfl ?_
      refine fr_region ?_
      refine fr_eq .i32 21 ((c : Nat) : Int) 57 false rfl rfl rfl (by exact eqF (by omega)) ?_
      refine fr_assign (.bool false) rfl ?_
      refine fr_end ?_
      refine to_then ?_
      refine fr_false rfl ?_
      refine fr_seq ?_
      refine fr_seq ?_
      refine fr_region ?_
      refine fr_eq .i32 21 ((c : Nat) : Int) 97 false rfl rfl rfl (by exact eqF (by omega)) ?_
      refine fr_assign (.bool false) rfl ?_
      refine fr_end ?_
      refine to_then ?_
      refine fr_false rfl ?_
      refine fr_seq ?_
      refine fr_region ?_
      refine fr_eq .i32 21 ((c : Nat) : Int) 98 false rfl rfl rfl (by exact eqF (by omega)) ?_
      refine fr_assign (.bool false) rfl ?_
      refine fr_end ?_
      refine to_then ?_
      refine fr_false rfl ?_
      refine fr_seq ?_
      refine fr_region ?_
      refine fr_eq .i32 21 ((c : Nat) : Int) 99 false rfl rfl rfl (by exact eqF (by omega)) ?_
      refine fr_assign (.bool false) rfl ?_
      refine fr_end ?_
      refine to_then ?_
      refine fr_false rfl ?_
      refine fr_seq ?_
      refine fr_region ?_
      refine fr_eq .i32 21 ((c : Nat) : Int) 100 false rfl rfl rfl (by exact eqF (by omega)) ?_
      refine fr_assign (.bool false) rfl ?_
      refine fr_end ?_
      refine to_then ?_
      refine fr_false rfl ?_
      refine fr_seq ?_
      refine fr_region ?_
      refine fr_eq .i32 21 ((c : Nat) : Int) 101 false rfl rfl rfl (by exact eqF (by omega)) ?_
      refine fr_assign (.bool false) rfl ?_
      refine fr_end ?_
      refine to_then ?_
      refine fr_false rfl ?_
      refine fr_region ?_
      refine fr_eq .i32 21 ((c : Nat) : Int) 102 false rfl rfl rfl (by exact eqF (by omega)) ?_
      refine fr_assign (.bool false) rfl ?_
      refine fr_end ?_
      refine to_then ?_
      refine fr_false rfl ?_
      refine fr_seq ?_
      refine fr_seq ?_
      refine fr_region ?_
      refine fr_eq .i32 21 ((c : Nat) : Int) 65 false rfl rfl rfl (by exact eqF (by omega)) ?_
      refine fr_assign (.bool false) rfl ?_
      refine fr_end ?_
      refine to_then ?_
      refine fr_false rfl ?_
      refine fr_seq ?_
      refine fr_region ?_
      refine fr_eq .i32 21 ((c : Nat) : Int) 66 false rfl rfl rfl (by exact eqF (by omega)) ?_
      refine fr_assign (.bool false) rfl ?_
      refine fr_end ?_
      refine to_then ?_
      refine fr_false rfl ?_
      refine fr_seq ?_
      refine fr_region ?_
      refine fr_eq .i32 21 ((c : Nat) : Int) 67 false rfl rfl rfl (by exact eqF (by omega)) ?_
      refine fr_assign (.bool false) rfl ?_
      refine fr_end ?_
      refine to_then ?_
      refine fr_false rfl ?_
      refine fr_seq ?_
      refine fr_region ?_
      refine fr_eq .i32 21 ((c : Nat) : Int) 68 false rfl rfl rfl (by exact eqF (by omega)) ?_
      refine fr_assign (.bool false) rfl ?_
      refine fr_end ?_
      refine to_then ?_
      refine fr_false rfl ?_
      refine fr_seq ?_
      refine fr_region ?_
      refine fr_eq .i32 21 ((c : Nat) : Int) 69 false rfl rfl rfl (by exact eqF (by omega)) ?_
      refine fr_assign (.bool false) rfl ?_
      refine fr_end ?_
      refine to_then ?_
      refine fr_false rfl ?_
      refine fr_region ?_
      refine fr_eq .i32 21 ((c : Nat) : Int) 70 false rfl rfl rfl (by exact eqF (by omega)) ?_
      refine fr_assign (.bool false) rfl ?_
      refine fr_end ?_
      refine to_then ?_
      refine fr_false rfl ?_
      refine fr_seq ?_
      refine fr_region ?_
      refine fr_move (.int .i64 ((st : Nat) : Int)) h.h1 ?_
      refine fr_move (.int .i64 ((i + n : Nat) : Int)) rfl ?_
      refine fr_add .i64 3 ((st : Nat) : Int) ((i + n : Nat) : Int) ((st + i + n : Nat) : Int) rfl rfl rfl (by exact w64' (by omega) (by omega) (by omega)) ?_
      refine fr_move (.int .i64 ((n : Nat) : Int)) rfl ?_
      refine fr_sub .i64 3 ((st + i + n : Nat) : Int) ((n : Nat) : Int) (((st + i + n : Nat) : Int) - ((n : Nat) : Int)) rfl rfl rfl (by exact w64' (by omega) (by omega) (by omega)) ?_
      refine fr_assign ((.slice none 0 0)) rfl ?_
      refine fr_assign (.bool false) rfl ?_
      refine fr_assign (.int .i64 (((st + i + n : Nat) : Int) - ((n : Nat) : Int))) rfl ?_
      refine fr_end ?_
      refine to_then ?_
      refine wp_ret ?_
      refine to_blockR ?_
      refine to_blockR ?_
      refine to_thenR ?_
      exact hq.thn.ret _ _ _ rfl rfl rfl (Off.of hb0 h.below)
    | some d =>
      rw [hd] at hdg
      simp only at hdg
      obtain ⟨c, hc⟩ : ∃ c, bt s i = c := ⟨_, rfl⟩
      rw [hc] at hd
      have hc3 := hexv_cases hd
      have hlt : i < s.size := by
        rcases Nat.lt_or_ge i s.size with h' | h'
        · exact h'
        · have : bt s i = 0 := by unfold bt; rw [if_neg (by omega)]
          omega
      have hrn : rn s i = (c, 1) := by rw [rn_of_byte hlt (by omega), hc]
      clear hc
      refine fr_seq ?_
      refine fr_seq ?_
      refine fr_region ?_
      refine fr_move (.int .i64 ((j : Nat) : Int)) h26 ?_
      refine fr_lss .i64 3 ((j : Nat) : Int) 2 true rfl rfl rfl (by exact ltT (by omega)) ?_
      refine fr_end ?_
      refine to_then ?_
      refine fr_true rfl ?_
      refine wp_skip ?_
      refine to_then ?_
      refine fr_seq ?_
      refine wp_block ?_
      refine fr_seq ?_
      refine fr_region ?_
      refine fr_move ((.string s)) h.h2 ?_
      refine fr_move (.int .i64 ((i : Nat) : Int)) h.h12 ?_
      refine fr_slice_from 9 s (i) rfl rfl rfl (by omega) hml ?_
      refine fr_dec s (i) B (c) (1) hrn rfl (by omega) (h.tabs e) _ ?_
      intro w1 hb
      replace h := h.world hb
      clear hb
      refine fr_move ((.tuple #[.int .i32 ((c : Nat) : Int), .int .i64 ((1 : Nat) : Int)])) rfl ?_
      refine fr_extract 0 _ (.int .i32 ((c : Nat) : Int)) rfl rfl ?_
      refine fr_extract 1 _ (.int .i64 ((1 : Nat) : Int)) rfl rfl ?_
      refine fr_assign (.int .i32 ((c : Nat) : Int)) rfl ?_
      refine fr_assign (.int .i64 ((1 : Nat) : Int)) rfl ?_
      refine fr_end ?_
      refine to_then ?_
      refine fr_seq ?_
      refine fr_region ?_
      refine fr_move (.int .i64 ((i : Nat) : Int)) h.h12 ?_
      refine fr_move (.int .i64 ((1 : Nat) : Int)) rfl ?_
      refine fr_add .i64 3 ((i : Nat) : Int) ((1 : Nat) : Int) ((i + 1 : Nat) : Int) rfl rfl rfl (by exact w64' (by omega) (by omega) (by omega)) ?_
      refine fr_assign (.int .i64 ((i + 1 : Nat) : Int)) rfl ?_
      refine fr_end ?_
      refine to_then ?_
      refine fr_seq ?_
      refine fr_region ?_
      refine fr_move (.int .i32 ((c : Nat) : Int)) rfl ?_
      refine fr_end ?_
      refine to_then ?_
      refine hex9 (c := c) (d := d) (v := x) rfl rfl h25 hd (by omega) ?_
      intro g hk hgv
      replace h : At X st s true w g w1 v u (i + 1) := ⟨(hk 0 rfl).trans h.h0, (hk 1 rfl).trans h.h1, (hk 2 rfl).trans h.h2, (hk 3 rfl).trans h.h3, (hk 11 rfl).trans h.h11, (hk 12 rfl).trans rfl, (by omega), h.hn, h.row, h.below⟩
      replace h26 := (hk 26 rfl).trans h26
      refine to_blockN ?_
      refine to_then ?_
      refine fr_region ?_
      refine fr_move (.int .i64 ((j : Nat) : Int)) h26 ?_
      refine fr_add .i64 3 ((j : Nat) : Int) 1 ((j + 1 : Nat) : Int) rfl rfl rfl (by exact w64' (by omega) (by omega) (by omega)) ?_
      refine fr_assign (.int .i64 ((j + 1 : Nat) : Int)) rfl ?_
      refine fr_end ?_
      refine ⟨_, rfl, ⟨i + 1, j + 1, 16 * x + d, ⟨h.h0, h.h1, h.h2, h.h3, h.h11, h.h12, h.hi, h.hn, h.row, h.below⟩, hgv, rfl, by omega, ?_, ?_⟩, ?_⟩
      · rw [Nat.pow_succ]; omega
      · rw [show 2 - (j + 1) = m by omega]; exact hdg
      · rw [hsum]
        show 2 - num (.int .i64 ((j + 1 : Nat) : Int)) < 2 - j
        rw [num_int]; omega
set_option maxRecDepth 100000 in
theorem esc_xw {X st : Nat} {s : ByteArray} {w : World} {f : Nat → Value} {wr : World} {v : Value} {u : List Nat} {i B : Nat} {B0 : Nat → Prop} {Q : Exit → Act → World → Prop} (e : TEnv X st s w B) (hb0 : OffAny B0) (h : At X st s true w f wr v u i)
    (hdg : digitsF s 2 i 0 = none) (hq : WQ B0 w Q) :
    (sub B29 [1, 1, 1, 0, 0, 0, 1, 0, 1, 1, 0, 1, 0, 1, 1, 1, 0, 1, 1, 1, 0, 1, 1, 1, 1, 1, 1, 1, 1, 1, 1, 1, 1, 1, 1, 1, 1, 1, 0]).wp Tryd.prog Q (mk 567 f) wr := by
  have hml : s.size ≤ maxLen := by have := e.hs; unfold maxLen; omega
  have hs := e.hs; have hst := e.hst; have hi := h.hi
  conv => arg 2; whnf
  refine fr_seq ?_
  refine fr_seq ?_
  refine fr_region ?_
  refine fr_move ((.pointer (some ⟨X, 0, none⟩))) h.h0 ?_
  refine fr_nilCheck _ rfl ?_
  refine fr_json X rfl ?_
  refine fr_load_json X 68 2 rfl (h.json e) ?_
  refine fr_eq .u8 96 2 0 false rfl rfl rfl (by exact eqF (by omega)) ?_
  refine fr_end ?_
  refine to_then ?_
  refine fr_false rfl ?_
  refine wp_skip ?_
  refine to_then ?_
  refine fr_seq ?_
  refine fr_region ?_
  refine fr_assign (.int .i32 0) rfl ?_
  refine fr_end ?_
  refine to_then ?_
  refine fr_seq ?_
  refine fr_seq ?_
  refine fr_region ?_
  refine fr_assign (.int .i64 0) rfl ?_
  refine fr_end ?_
  refine to_then ?_
  refine wp_block ?_
  exact loop_xw e hb0 ⟨h.h0, h.h1, h.h2, h.h3, h.h11, h.h12, h.hi, h.hn, h.row, h.below⟩ rfl rfl hdg hq.thn.blk
set_option maxRecDepth 100000 in
theorem loop_uw {X st : Nat} {s : ByteArray} {w : World} {f : Nat → Value} {wr : World} {v : Value} {u : List Nat} {i B : Nat} {B0 : Nat → Prop} {Q : Exit → Act → World → Prop} {k0 c0 n0 : Nat} (e : TEnv X st s w B) (hb0 : OffAny B0) (h : At X st s true w f wr v u i)
    (h29 : f 29 = .int .i32 ((0 : Nat) : Int)) (h30 : f 30 = .int .i32 (c0 : Int)) (h31 : f 31 = .int .i64 (n0 : Int)) (h35 : f 35 = .int .i64 ((0 : Nat) : Int)) (hk0 : k0 ≤ s.size) (hrn0 : rn s k0 = (c0, n0)) (hi0 : i = k0 + n0) (hdg : digitsF s 4 k0 0 = none) (hq : WQ B0 w Q) :
    (sub B29 [1, 1, 1, 0, 0, 0, 1, 0, 1, 1, 0, 1, 0, 1, 1, 1, 0, 1, 1, 1, 0, 1, 1, 1, 1, 1, 1, 1, 1, 1, 1, 1, 1, 1, 1, 1, 1, 1, 1, 1, 0, 1, 1, 1, 0, 1, 1, 1, 0]).wp Tryd.prog Q (mk 567 f) wr := by
  have hml : s.size ≤ maxLen := by have := e.hs; unfold maxLen; omega
  have hs := e.hs; have hst := e.hst; have hi := h.hi
  conv => arg 2; whnf
  refine fr_loop 35 4 rfl (fun f w' => ∃ (i k c n j x : Nat), At X st s true w f w' v u i ∧ f 29 = .int .i32 (x : Int) ∧ f 30 = .int .i32 (c : Int) ∧ f 31 = .int .i64 (n : Int) ∧ f 35 = .int .i64 (j : Int) ∧ j < 4 ∧ x < 16 ^ j ∧ rn s k = (c, n) ∧ i = k + n ∧ k ≤ s.size ∧ digitsF s (4 - j) k x = none) ⟨i, k0, c0, n0, 0, 0, h, h29, h30, h31, h35, by omega, by decide, hrn0, hi0, hk0, hdg⟩ ?_
  clear h h29 h30 h31 h35 hdg hi hrn0 hi0 hk0
  rintro f wq ⟨i, k, c, n, j, x, h, h29, h30, h31, h35, hj, hx, hrn, hik, hks, hdg⟩
  have hi := h.hi
  have hsum : num (f 35) = j := by rw [h35, num_int]
  obtain ⟨m, hm⟩ : ∃ m, 4 - j = m + 1 := ⟨4 - j - 1, by omega⟩
  rw [hm] at hdg
  unfold digitsF at hdg
  cases hd : hexv (bt s k) with
  | none =>
    obtain ⟨hno1, hno2, hno3⟩ := nodigit hrn hd
    refine fr_seq ?_
    refine fr_seq ?_
    refine fr_region ?_
    refine fr_move (.int .i64 ((j : Nat) : Int)) h35 ?_
    refine fr_lss .i64 3 ((j : Nat) : Int) 4 true rfl rfl rfl (by exact ltT (by omega)) ?_
    refine fr_end ?_
    refine to_then ?_
    refine fr_true rfl ?_
    refine wp_skip ?_
    refine to_then ?_
    refine fr_seq ?_
    refine wp_block ?_
    refine fr_seq ?_
    refine fr_seq ?_
    refine fr_region ?_
    refine fr_move (.int .i32 ((c : Nat) : Int)) h30 ?_
    refine fr_end ?_
    refine to_then ?_
    refine wp_block ?_
    refine fr_seq ?_
    refine fr_seq ?_
    refine fr_region ?_
    refine fr_eq .i32 21 ((c : Nat) : Int) 48 false rfl rfl rfl (by exact eqF (by omega)) ?_
    refine fr_assign (.bool false) rfl ?_
    refine fr_end ?_
    refine to_then ?_
    refine fr_false rfl ?_
    refine fr_seq ?_
    refine fr_region ?_
    refine fr_eq .i32 21 ((c : Nat) : Int) 49 false rfl rfl rfl (by exact eqF (by omega)) ?_
    refine fr_assign (.bool false) rfl ?_
    refine fr_end ?_
    refine to_then ?_
    refine fr_false rfl ?_
    refine fr_seq ?_
    refine fr_region ?_
    refine fr_eq .i32 21 ((c : Nat) : Int) 50 false rfl rfl rfl (by exact eqF (by omega)) ?_
    refine fr_assign (.bool false) rfl ?_
    refine fr_end ?_
    refine to_then ?_
    refine fr_false rfl ?_
    refine fr_seq ?_
    refine fr_region ?_
    refine fr_eq .i32 21 ((c : Nat) : Int) 51 false rfl rfl rfl (by exact eqF (by omega)) ?_
    refine fr_assign (.bool false) rfl ?_
    refine fr_end ?_
    refine to_then ?_
    refine fr_false rfl ?_
    refine fr_seq ?_
    refine fr_region ?_
    refine fr_eq .i32 21 ((c : Nat) : Int) 52 false rfl rfl rfl (by exact eqF (by omega)) ?_
    refine fr_assign (.bool false) rfl ?_
    refine fr_end ?_
    refine to_then ?_
    refine fr_false rfl ?_
    refine fr_seq ?_
    refine fr_region ?_
    refine fr_eq .i32 21 ((c : Nat) : Int) 53 false rfl rfl rfl (by exact eqF (by omega)) ?_
    refine fr_assign (.bool false) rfl ?_
    refine fr_end ?_
    refine to_then ?_
    refine fr_false rfl ?_
    refine fr_seq ?_
    refine fr_region ?_
    refine fr_eq .i32 21 ((c : Nat) : Int) 54 false rfl rfl rfl (by exact eqF (by omega)) ?_
    refine fr_assign (.bool false) rfl ?_
    refine fr_end ?_
    refine to_then ?_
    refine fr_false rfl ?_
    refine fr_seq ?_
    refine fr_region ?_
    refine fr_eq .i32 21 ((c : Nat) : Int) 55 false rfl rfl rfl (by exact eqF (by omega)) ?_
    refine fr_assign (.bool false) rfl ?_
    refine fr_end ?_
    refine to_then ?_
    refine fr_false rfl ?_
    refine fr_seq ?_
    refine fr_region ?_
    refine fr_eq .i32 21 ((c : Nat) : Int) 56 false rfl rfl rfl (by exact eqF (by omega)) ?_
    refine fr_assign (.bool false) rfl ?_
    refine fr_end ?_
    refine to_then ?_
    refine fr_false rfl ?_
    refine fr_region ?_
    refine fr_eq .i32 21 ((c : Nat) : Int) 57 false rfl rfl rfl (by exact eqF (by omega)) ?_
    refine fr_assign (.bool false) rfl ?_
    refine fr_end ?_
    refine to_then ?_
    refine fr_false rfl ?_
    refine fr_seq ?_
    refine fr_seq ?_
    refine fr_region ?_
    refine fr_eq .i32 21 ((c : Nat) : Int) 97 false rfl rfl rfl (by exact eqF (by omega)) ?_
    refine fr_assign (.bool false) rfl ?_
    refine fr_end ?_
    refine to_then ?_
    refine fr_false rfl ?_
    refine fr_seq ?_
    refine fr_region ?_
    refine fr_eq .i32 21 ((c : Nat) : Int) 98 false rfl rfl rfl (by exact eqF (by omega)) ?_
    refine fr_assign (.bool false) rfl ?_
    refine fr_end ?_
    refine to_then ?_
    refine fr_false rfl ?_
    refine fr_seq ?_
    refine fr_region ?_
    refine fr_eq .i32 21 ((c : Nat) : Int) 99 false rfl rfl rfl (by exact eqF (by omega)) ?_
    refine fr_assign (.bool false) rfl ?_
    refine fr_end ?_
    refine to_then ?_
    refine fr_false rfl ?_
    refine fr_seq ?_
    refine fr_region ?_
    refine fr_eq .i32 21 ((c : Nat) : Int) 100 false rfl rfl rfl (by exact eqF (by omega)) ?_
    refine fr_assign (.bool false) rfl ?_
    refine fr_end ?_
    refine to_then ?_
    refine fr_false rfl ?_
    refine fr_seq ?_
    refine fr_region ?_
    refine fr_eq .i32 21 ((c : Nat) : Int) 101 false rfl rfl rfl (by exact eqF (by omega)) ?_
    refine fr_assign (.bool false) rfl ?_
    refine fr_end ?_
    refine to_then ?_
    refine fr_false rfl ?_
    refine fr_region ?_
    refine fr_eq .i32 21 ((c : Nat) : Int) 102 false rfl rfl rfl (by exact eqF (by omega)) ?_
    refine fr_assign (.bool false) rfl ?_
    refine fr_end ?_
    refine to_then ?_
    refine fr_false rfl ?_
    refine fr_seq ?_
    refine fr_seq ?_
    refine fr_region ?_
    refine fr_eq .i32 21 ((c : Nat) : Int) 65 false rfl rfl rfl (by exact eqF (by omega)) ?_
    refine fr_assign (.bool false) rfl ?_
    refine fr_end ?_
    refine to_then ?_
    refine fr_false rfl ?_
    refine fr_seq ?_
    refine fr_region ?_
    refine fr_eq .i32 21 ((c : Nat) : Int) 66 false rfl rfl rfl (by exact eqF (by omega)) ?_
    refine fr_assign (.bool false) rfl ?_
    refine fr_end ?_
    refine to_then ?_
    refine fr_false rfl ?_
    refine fr_seq ?_
    refine fr_region ?_
    refine fr_eq .i32 21 ((c : Nat) : Int) 67 false rfl rfl rfl (by exact eqF (by omega)) ?_
    refine fr_assign (.bool false) rfl ?_
    refine fr_end ?_
    refine to_then ?_
    refine fr_false rfl ?_
    refine fr_seq ?_
    refine fr_region ?_
    refine fr_eq .i32 21 ((c : Nat) : Int) 68 false rfl rfl rfl (by exact eqF (by omega)) ?_
    refine fr_assign (.bool false) rfl ?_
    refine fr_end ?_
    refine to_then ?_
    refine fr_false rfl ?_
    refine fr_seq ?_
    refine fr_region ?_
    refine fr_eq .i32 21 ((c : Nat) : Int) 69 false rfl rfl rfl (by exact eqF (by omega)) ?_
    refine fr_assign (.bool false) rfl ?_
    refine fr_end ?_
    refine to_then ?_
    refine fr_false rfl ?_
    refine fr_region ?_
    refine fr_eq .i32 21 ((c : Nat) : Int) 70 false rfl rfl rfl (by exact eqF (by omega)) ?_
    refine fr_assign (.bool false) rfl ?_
    refine fr_end ?_
    refine to_then ?_
    refine fr_false rfl ?_
    refine fr_seq ?_
    refine fr_region ?_
    refine fr_move (.int .i64 ((st : Nat) : Int)) h.h1 ?_
    refine fr_move (.int .i64 ((i : Nat) : Int)) h.h12 ?_
    refine fr_add .i64 3 ((st : Nat) : Int) ((i : Nat) : Int) ((st + i : Nat) : Int) rfl rfl rfl (by exact w64' (by omega) (by omega) (by omega)) ?_
    refine fr_move (.int .i64 ((n : Nat) : Int)) h31 ?_
    refine fr_sub .i64 3 ((st + i : Nat) : Int) ((n : Nat) : Int) (((st + i : Nat) : Int) - ((n : Nat) : Int)) rfl rfl rfl (by exact w64' (by omega) (by omega) (by omega)) ?_
    refine fr_assign ((.slice none 0 0)) rfl ?_
    refine fr_assign (.bool false) rfl ?_
    refine fr_assign (.int .i64 (((st + i : Nat) : Int) - ((n : Nat) : Int))) rfl ?_
    refine fr_end ?_
    refine to_then ?_
    refine wp_ret ?_
    refine to_blockR ?_
    refine to_thenR ?_
    refine to_blockR ?_
    refine to_thenR ?_
    exact hq.thn.ret _ _ _ rfl rfl rfl (Off.of hb0 h.below)
  | some d =>
    rw [hd] at hdg
    simp only at hdg
    have hlt : k < s.size := by
      rcases Nat.lt_or_ge k s.size with h' | h'
      · exact h'
      · have : bt s k = 0 := by unfold bt; rw [if_neg (by omega)]
        rw [this] at hd; cases hd
    have hc3 := hexv_cases hd
    have hrn2 := rn_of_byte hlt (by omega)
    rw [hrn] at hrn2
    obtain ⟨rfl, rfl⟩ : c = bt s k ∧ n = 1 := by simpa using hrn2
    obtain ⟨c, hc⟩ : ∃ c, bt s k = c := ⟨_, rfl⟩
    rw [hc] at hd h30 hc3
    have hj3 : j < 3 := by
      rcases Nat.lt_or_ge j 3 with h' | h'
      · exact h'
      · have hm0 : m = 0 := by omega
        rw [hm0] at hdg
        simp [digitsF] at hdg
    have hxx : x ≤ 4095 := by
      have : (16 : Nat) ^ j ≤ 16 ^ 3 := Nat.pow_le_pow_right (by omega) (by omega)
      omega
    have hxn : 16 * x + d < 16 ^ (j + 1) := by rw [Nat.pow_succ]; omega
    clear hc hrn hrn2
    obtain ⟨c', n', hrn'⟩ : ∃ c' n', rn s i = (c', n') := ⟨_, _, rfl⟩
    have hle := rn_le (s := s) (i := i) hi
    rw [hrn'] at hle
    simp only at hle
    refine fr_seq ?_
    refine fr_seq ?_
    refine fr_region ?_
    refine fr_move (.int .i64 ((j : Nat) : Int)) h35 ?_
    refine fr_lss .i64 3 ((j : Nat) : Int) 4 true rfl rfl rfl (by exact ltT (by omega)) ?_
    refine fr_end ?_
    refine to_then ?_
    refine fr_true rfl ?_
    refine wp_skip ?_
    refine to_then ?_
    refine fr_seq ?_
    refine wp_block ?_
    refine fr_seq ?_
    refine fr_seq ?_
    refine fr_region ?_
    refine fr_move (.int .i32 ((c : Nat) : Int)) h30 ?_
    refine fr_end ?_
    refine to_then ?_
    refine hex15 (c := c) (d := d) (v := x) rfl h30 h29 hd (by omega) ?_
    intro g hk hgv
    replace h : At X st s true w g wq v u i := ⟨(hk 0 rfl).trans h.h0, (hk 1 rfl).trans h.h1, (hk 2 rfl).trans h.h2, (hk 3 rfl).trans h.h3, (hk 11 rfl).trans h.h11, (hk 12 rfl).trans h.h12, h.hi, h.hn, h.row, h.below⟩
    replace h35 := (hk 35 rfl).trans h35
    replace h30 := (hk 30 rfl).trans h30
    refine to_then ?_
    refine fr_seq ?_
    refine fr_region ?_
    refine fr_move (.int .i64 ((j : Nat) : Int)) h35 ?_
    refine fr_lss .i64 3 ((j : Nat) : Int) 3 true rfl rfl rfl (by exact ltT (by omega)) ?_
    refine fr_end ?_
    refine to_then ?_
    refine fr_true rfl ?_
    refine fr_seq ?_
    refine fr_region ?_
    refine fr_move ((.string s)) h.h2 ?_
    refine fr_move (.int .i64 ((i : Nat) : Int)) h.h12 ?_
    refine fr_slice_from 9 s (i) rfl rfl rfl (by omega) hml ?_
    refine fr_dec s (i) B (c') (n') hrn' rfl (by omega) (h.tabs e) _ ?_
    intro w1 hb
    replace h := h.world hb
    clear hb
    refine fr_move ((.tuple #[.int .i32 ((c' : Nat) : Int), .int .i64 ((n' : Nat) : Int)])) rfl ?_
    refine fr_extract 0 _ (.int .i32 ((c' : Nat) : Int)) rfl rfl ?_
    refine fr_extract 1 _ (.int .i64 ((n' : Nat) : Int)) rfl rfl ?_
    refine fr_assign (.int .i32 ((c' : Nat) : Int)) rfl ?_
    refine fr_assign (.int .i64 ((n' : Nat) : Int)) rfl ?_
    refine fr_end ?_
    refine to_then ?_
    refine fr_region ?_
    refine fr_move (.int .i64 ((i : Nat) : Int)) h.h12 ?_
    refine fr_move (.int .i64 ((n' : Nat) : Int)) rfl ?_
    refine fr_add .i64 3 ((i : Nat) : Int) ((n' : Nat) : Int) ((i + n' : Nat) : Int) rfl rfl rfl (by exact w64' (by omega) (by omega) (by omega)) ?_
    refine fr_assign (.int .i64 ((i + n' : Nat) : Int)) rfl ?_
    refine fr_end ?_
    refine to_blockN ?_
    refine to_then ?_
    refine fr_region ?_
    refine fr_move (.int .i64 ((j : Nat) : Int)) h35 ?_
    refine fr_add .i64 3 ((j : Nat) : Int) 1 ((j + 1 : Nat) : Int) rfl rfl rfl (by exact w64' (by omega) (by omega) (by omega)) ?_
    refine fr_assign (.int .i64 ((j + 1 : Nat) : Int)) rfl ?_
    refine fr_end ?_
    refine ⟨_, rfl, ⟨i + n', i, c', n', j + 1, 16 * x + d, ⟨h.h0, h.h1, h.h2, h.h3, h.h11, rfl, by omega, h.hn, h.row, h.below⟩, hgv, rfl, rfl, rfl, by omega, hxn, hrn', rfl, hi, ?_⟩, ?_⟩
    · rw [show 4 - (j + 1) = m by omega, hik]; exact hdg
    · rw [hsum]
      show 4 - num (.int .i64 ((j + 1 : Nat) : Int)) < 4 - j
      rw [num_int]; omega
end Go.Proofs.YtolgapijpejpoaaDoor
