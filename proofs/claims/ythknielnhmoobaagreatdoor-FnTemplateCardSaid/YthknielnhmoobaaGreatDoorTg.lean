/- The walk of Go's decoder of escapes: a part. Printed by gen_tte2.py. -/
import Derived.Test.YthknielnhmoobaaGreatDoorTd
namespace Go.Proofs.YthknielnhmoobaaGreatDoor
open Go.RowKit Go.Lib
set_option maxRecDepth 100000 in
theorem loop_u {X st : Nat} {s : ByteArray} {rep : Bool} {w : World} {f : Nat → Value} {wr : World} {v : Value} {u : List Nat} {i B : Nat} {Q : Exit → Act → World → Prop} {k0 c0 n0 pp q : Nat} (e : TEnv X st s w B) (h : At X st s rep w f wr v u i)
    (h29 : f 29 = .int .i32 ((0 : Nat) : Int)) (h30 : f 30 = .int .i32 (c0 : Int)) (h35 : f 35 = .int .i64 ((0 : Nat) : Int)) (hk0 : k0 ≤ s.size) (hrn0 : rn s k0 = (c0, n0)) (hi0 : i = k0 + n0) (hdg : digitsF s 4 k0 0 = some (pp, q))
    (hq : ∀ g w' , At X st s rep w g w' v u q → g 29 = .int .i32 (pp : Int) → Q (.exit 13) (mk 567 g) w') :
    (sub B29 [1, 1, 1, 0, 0, 0, 1, 0, 1, 1, 0, 1, 0, 1, 1, 1, 0, 1, 1, 1, 0, 1, 1, 1, 1, 1, 1, 1, 1, 1, 1, 1, 1, 1, 1, 1, 1, 1, 1, 1, 0, 1, 1, 1, 0, 1, 1, 1, 0]).wp Tryz.prog Q (mk 567 f) wr := by
  have hml : s.size ≤ maxLen := by have := e.hs; unfold maxLen; omega
  have hs := e.hs; have hst := e.hst; have hi := h.hi
  conv => arg 2; whnf
  refine fr_loop 35 4 rfl (fun f w' => ∃ (i k c n j x : Nat), At X st s rep w f w' v u i ∧ f 29 = .int .i32 (x : Int) ∧ f 30 = .int .i32 (c : Int) ∧ f 35 = .int .i64 (j : Int) ∧ j ≤ 4 ∧ x < 16 ^ j ∧ (j < 4 → rn s k = (c, n) ∧ i = k + n ∧ k ≤ s.size ∧ digitsF s (4 - j) k x = some (pp, q)) ∧ (j = 4 → x = pp ∧ i = q)) ⟨i, k0, c0, n0, 0, 0, h, h29, h30, h35, by omega, by decide, fun _ => ⟨hrn0, hi0, hk0, hdg⟩, fun h => by omega⟩ ?_
  clear h h29 h30 h35 hdg hi hrn0 hi0 hk0
  rintro f wq ⟨i, k, c, n, j, x, h, h29, h30, h35, hj, hx, hne, he⟩
  have hi := h.hi
  have hsum : num (f 35) = j := by rw [h35, num_int]
  by_cases hj4 : j = 4
  · subst hj4
    obtain ⟨rfl, rfl⟩ := he rfl
    refine fr_seq ?_
    refine fr_seq ?_
    refine fr_region ?_
    refine fr_move (.int .i64 ((4 : Nat) : Int)) h35 ?_
    refine fr_lss .i64 3 ((4 : Nat) : Int) 4 false rfl rfl rfl (by exact ltF (by omega)) ?_
    refine fr_end ?_
    refine to_then ?_
    refine fr_false rfl ?_
    refine wp_exit ?_
    refine to_thenX ?_
    exact hq _ _ ⟨h.h0, h.h1, h.h2, h.h3, h.h11, h.h12, h.hi, h.hn, h.row, h.below⟩ h29
  · obtain ⟨hrn, hik, hks, hdg⟩ := hne (by omega)
    clear hne he
    obtain ⟨m, hm⟩ : ∃ m, 4 - j = m + 1 := ⟨4 - j - 1, by omega⟩
    rw [hm] at hdg
    unfold digitsF at hdg
    cases hd : hexv (bt s k) with
    | none => rw [hd] at hdg; cases hdg
    | some d =>
      rw [hd] at hdg
      simp only at hdg
      have hlt : k < s.size := by
        rcases Nat.lt_or_ge k s.size with h' | h'
        · exact h'
        · have : bt s k = 0 := by unfold bt; rw [if_neg (by omega)]
          rw [this] at hd; cases hd
      have hc3 := hexv_cases hd
      have hrn2 := rn_of_byte hlt (by omega)
      rw [hrn] at hrn2
      obtain ⟨rfl, rfl⟩ : c = bt s k ∧ n = 1 := by simpa using hrn2
      obtain ⟨c, hc⟩ : ∃ c, bt s k = c := ⟨_, rfl⟩
      rw [hc] at hd h30 hc3
      have hxx : x ≤ 4095 := by
        have : (16 : Nat) ^ j ≤ 16 ^ 3 := Nat.pow_le_pow_right (by omega) (by omega)
        omega
      have hxn : 16 * x + d < 16 ^ (j + 1) := by rw [Nat.pow_succ]; omega
      clear hc hrn hrn2
      by_cases hj3 : j < 3
      · obtain ⟨c', n', hrn'⟩ : ∃ c' n', rn s i = (c', n') := ⟨_, _, rfl⟩
        have hle := rn_le (s := s) (i := i) hi
        rw [hrn'] at hle
        simp only at hle
        refine fr_seq ?_
        refine fr_seq ?_
        refine fr_region ?_
        refine fr_move (.int .i64 ((j : Nat) : Int)) h35 ?_
        refine fr_lss .i64 3 ((j : Nat) : Int) 4 true rfl rfl rfl (by exact ltT (by omega)) ?_
        refine fr_end ?_
        refine to_then ?_
        refine fr_true rfl ?_
        refine wp_skip ?_
        refine to_then ?_
        refine fr_seq ?_
        refine wp_block ?_
        refine fr_seq ?_
        refine fr_seq ?_
        refine fr_region ?_
        refine fr_move (.int .i32 ((c : Nat) : Int)) h30 ?_
        refine fr_end ?_
        refine to_then ?_
        refine hex15 (c := c) (d := d) (v := x) rfl h30 h29 hd (by omega) ?_
        intro g hk hgv
        replace h : At X st s rep w g wq v u i := ⟨(hk 0 rfl).trans h.h0, (hk 1 rfl).trans h.h1, (hk 2 rfl).trans h.h2, (hk 3 rfl).trans h.h3, (hk 11 rfl).trans h.h11, (hk 12 rfl).trans h.h12, h.hi, h.hn, h.row, h.below⟩
        replace h35 := (hk 35 rfl).trans h35
        replace h30 := (hk 30 rfl).trans h30
        refine to_then ?_
        refine fr_seq ?_
        refine fr_region ?_
        refine fr_move (.int .i64 ((j : Nat) : Int)) h35 ?_
        refine fr_lss .i64 3 ((j : Nat) : Int) 3 true rfl rfl rfl (by exact ltT (by omega)) ?_
        refine fr_end ?_
        refine to_then ?_
        refine fr_true rfl ?_
        refine fr_seq ?_
        refine fr_region ?_
        refine fr_move ((.string s)) h.h2 ?_
        refine fr_move (.int .i64 ((i : Nat) : Int)) h.h12 ?_
        refine fr_slice_from 9 s (i) rfl rfl rfl (by omega) hml ?_
        refine fr_dec s (i) B (c') (n') hrn' rfl (by omega) (h.tabs e) _ ?_
        intro w1 hb
        replace h := h.world hb
        clear hb
        refine fr_move ((.tuple #[.int .i32 ((c' : Nat) : Int), .int .i64 ((n' : Nat) : Int)])) rfl ?_
        refine fr_extract 0 _ (.int .i32 ((c' : Nat) : Int)) rfl rfl ?_
        refine fr_extract 1 _ (.int .i64 ((n' : Nat) : Int)) rfl rfl ?_
        refine fr_assign (.int .i32 ((c' : Nat) : Int)) rfl ?_
        refine fr_assign (.int .i64 ((n' : Nat) : Int)) rfl ?_
        refine fr_end ?_
        refine to_then ?_
        refine fr_region ?_
        refine fr_move (.int .i64 ((i : Nat) : Int)) h.h12 ?_
        refine fr_move (.int .i64 ((n' : Nat) : Int)) rfl ?_
        refine fr_add .i64 3 ((i : Nat) : Int) ((n' : Nat) : Int) ((i + n' : Nat) : Int) rfl rfl rfl (by exact w64' (by omega) (by omega) (by omega)) ?_
        refine fr_assign (.int .i64 ((i + n' : Nat) : Int)) rfl ?_
        refine fr_end ?_
        refine to_blockN ?_
        refine to_then ?_
        refine fr_region ?_
        refine fr_move (.int .i64 ((j : Nat) : Int)) h35 ?_
        refine fr_add .i64 3 ((j : Nat) : Int) 1 ((j + 1 : Nat) : Int) rfl rfl rfl (by exact w64' (by omega) (by omega) (by omega)) ?_
        refine fr_assign (.int .i64 ((j + 1 : Nat) : Int)) rfl ?_
        refine fr_end ?_
        refine ⟨_, rfl, ⟨i + n', i, c', n', j + 1, 16 * x + d, ⟨h.h0, h.h1, h.h2, h.h3, h.h11, rfl, by omega, h.hn, h.row, h.below⟩, hgv, rfl, rfl, by omega, hxn, fun _ => ⟨hrn', rfl, hi, ?_⟩, fun h => by omega⟩, ?_⟩
        · rw [show 4 - (j + 1) = m by omega, hik]; exact hdg
        · rw [hsum]
          show 4 - num (.int .i64 ((j + 1 : Nat) : Int)) < 4 - j
          rw [num_int]; omega
      · obtain rfl : j = 3 := by omega
        obtain rfl : m = 0 := by omega
        have hdg2 : 16 * x + d = pp ∧ k + 1 = q := by simpa [digitsF] using hdg
        refine fr_seq ?_
        refine fr_seq ?_
        refine fr_region ?_
        refine fr_move (.int .i64 ((3 : Nat) : Int)) h35 ?_
        refine fr_lss .i64 3 ((3 : Nat) : Int) 4 true rfl rfl rfl (by exact ltT (by omega)) ?_
        refine fr_end ?_
        refine to_then ?_
        refine fr_true rfl ?_
        refine wp_skip ?_
        refine to_then ?_
        refine fr_seq ?_
        refine wp_block ?_
        refine fr_seq ?_
        refine fr_seq ?_
        refine fr_region ?_
        refine fr_move (.int .i32 ((c : Nat) : Int)) h30 ?_
        refine fr_end ?_
        refine to_then ?_
        refine hex15 (c := c) (d := d) (v := x) rfl h30 h29 hd (by omega) ?_
        intro g hk hgv
        replace h : At X st s rep w g wq v u i := ⟨(hk 0 rfl).trans h.h0, (hk 1 rfl).trans h.h1, (hk 2 rfl).trans h.h2, (hk 3 rfl).trans h.h3, (hk 11 rfl).trans h.h11, (hk 12 rfl).trans h.h12, h.hi, h.hn, h.row, h.below⟩
        replace h35 := (hk 35 rfl).trans h35
        replace h30 := (hk 30 rfl).trans h30
        refine to_then ?_
        refine fr_seq ?_
        refine fr_region ?_
        refine fr_move (.int .i64 ((3 : Nat) : Int)) h35 ?_
        refine fr_lss .i64 3 ((3 : Nat) : Int) 3 false rfl rfl rfl (by exact ltF (by omega)) ?_
        refine fr_end ?_
        refine to_then ?_
        refine fr_false rfl ?_
        refine wp_skip ?_
        refine to_blockN ?_
        refine to_then ?_
        refine fr_region ?_
        refine fr_move (.int .i64 ((3 : Nat) : Int)) h35 ?_
        refine fr_add .i64 3 ((3 : Nat) : Int) 1 ((3 + 1 : Nat) : Int) rfl rfl rfl (by exact w64' (by omega) (by omega) (by omega)) ?_
        refine fr_assign (.int .i64 ((3 + 1 : Nat) : Int)) rfl ?_
        refine fr_end ?_
        refine ⟨_, rfl, ⟨i, 0, c, 0, 3 + 1, 16 * x + d, ⟨h.h0, h.h1, h.h2, h.h3, h.h11, h.h12, h.hi, h.hn, h.row, h.below⟩, hgv, h30, rfl, by omega, hxn, fun h => by omega, fun _ => ⟨hdg2.1, hik.trans hdg2.2⟩⟩, ?_⟩
        · rw [hsum]
          show 4 - num (.int .i64 ((3 + 1 : Nat) : Int)) < 4 - 3
          rw [num_int]; omega
end Go.Proofs.YthknielnhmoobaaGreatDoor
