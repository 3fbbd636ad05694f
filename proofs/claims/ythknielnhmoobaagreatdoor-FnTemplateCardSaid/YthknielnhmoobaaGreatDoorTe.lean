/- The walk of Go's decoder of escapes: a part. Printed by gen_tte2.py. -/
import Derived.Test.YthknielnhmoobaaGreatDoorTc
import Derived.Test.YthknielnhmoobaaGreatDoorTt
namespace Go.Proofs.YthknielnhmoobaaGreatDoor
open Go.RowKit Go.Lib
set_option maxRecDepth 100000 in
theorem loop_x {X st : Nat} {s : ByteArray} {rep : Bool} {w : World} {f : Nat → Value} {wr : World} {v : Value} {u : List Nat} {i B : Nat} {Q : Exit → Act → World → Prop} {pp q : Nat} (e : TEnv X st s w B) (h : At X st s rep w f wr v u i)
    (h25 : f 25 = .int .i32 ((0 : Nat) : Int)) (h26 : f 26 = .int .i64 ((0 : Nat) : Int)) (hdg : digitsF s 2 i 0 = some (pp, q))
    (hq : ∀ g w' , At X st s rep w g w' v u q → g 25 = .int .i32 (pp : Int) → Q (.exit 7) (mk 567 g) w') :
    (sub B29 [1, 1, 1, 0, 0, 0, 1, 0, 1, 1, 0, 1, 0, 1, 1, 1, 0, 1, 1, 1, 0, 1, 1, 1, 1, 1, 1, 1, 1, 1, 1, 1, 1, 1, 1, 1, 1, 1, 0, 1, 1, 0, 1, 0]).wp Tryz.prog Q (mk 567 f) wr := by
  have hml : s.size ≤ maxLen := by have := e.hs; unfold maxLen; omega
  have hs := e.hs; have hst := e.hst; have hi := h.hi
  conv => arg 2; whnf
  refine fr_loop 26 2 rfl (fun f w' => ∃ (i j x : Nat), At X st s rep w f w' v u i ∧ f 25 = .int .i32 (x : Int) ∧ f 26 = .int .i64 (j : Int) ∧ j ≤ 2 ∧ x < 16 ^ j ∧ digitsF s (2 - j) i x = some (pp, q)) ⟨i, 0, 0, h, h25, h26, by omega, by decide, hdg⟩ ?_
  clear h h25 h26 hdg hi
  rintro f wq ⟨i, j, x, h, h25, h26, hj, hx, hdg⟩
  have hi := h.hi
  have hsum : num (f 26) = j := by rw [h26, num_int]
  by_cases hj2 : j = 2
  · subst hj2
    obtain ⟨rfl, rfl⟩ : x = pp ∧ i = q := by simpa [digitsF] using hdg
    refine fr_seq ?_
    refine fr_seq ?_
    refine fr_region ?_
    refine fr_move (.int .i64 ((2 : Nat) : Int)) h26 ?_
    refine fr_lss .i64 3 ((2 : Nat) : Int) 2 false rfl rfl rfl (by exact ltF (by omega)) ?_
    refine fr_end ?_
    refine to_then ?_
    refine fr_false rfl ?_
    refine wp_exit ?_
    refine to_thenX ?_
    exact hq _ _ ⟨h.h0, h.h1, h.h2, h.h3, h.h11, h.h12, h.hi, h.hn, h.row, h.below⟩ h25
  · obtain ⟨m, hm⟩ : ∃ m, 2 - j = m + 1 := ⟨2 - j - 1, by omega⟩
    rw [hm] at hdg
    unfold digitsF at hdg
    cases hd : hexv (bt s i) with
    | none => rw [hd] at hdg; cases hdg
    | some d =>
      rw [hd] at hdg
      simp only at hdg
      obtain ⟨c, hc⟩ : ∃ c, bt s i = c := ⟨_, rfl⟩
      rw [hc] at hd
      have hxx : x ≤ 255 := by
        have : (16 : Nat) ^ j ≤ 16 ^ 1 := Nat.pow_le_pow_right (by omega) (by omega)
        omega
      have hc3 := hexv_cases hd
      have hlt : i < s.size := by
        rcases Nat.lt_or_ge i s.size with h' | h'
        · exact h'
        · have : bt s i = 0 := by unfold bt; rw [if_neg (by omega)]
          omega
      have hrn : rn s i = (c, 1) := by rw [rn_of_byte hlt (by omega), hc]
      clear hc
      refine fr_seq ?_
      refine fr_seq ?_
      refine fr_region ?_
      refine fr_move (.int .i64 ((j : Nat) : Int)) h26 ?_
      refine fr_lss .i64 3 ((j : Nat) : Int) 2 true rfl rfl rfl (by exact ltT (by omega)) ?_
      refine fr_end ?_
      refine to_then ?_
      refine fr_true rfl ?_
      refine wp_skip ?_
      refine to_then ?_
      refine fr_seq ?_
      refine wp_block ?_
      refine fr_seq ?_
      refine fr_region ?_
      refine fr_move ((.string s)) h.h2 ?_
      refine fr_move (.int .i64 ((i : Nat) : Int)) h.h12 ?_
      refine fr_slice_from 9 s (i) rfl rfl rfl (by omega) hml ?_
      refine fr_dec s (i) B (c) (1) hrn rfl (by omega) (h.tabs e) _ ?_
      intro w1 hb
      replace h := h.world hb
      clear hb
      refine fr_move ((.tuple #[.int .i32 ((c : Nat) : Int), .int .i64 ((1 : Nat) : Int)])) rfl ?_
      refine fr_extract 0 _ (.int .i32 ((c : Nat) : Int)) rfl rfl ?_
      refine fr_extract 1 _ (.int .i64 ((1 : Nat) : Int)) rfl rfl ?_
      refine fr_assign (.int .i32 ((c : Nat) : Int)) rfl ?_
      refine fr_assign (.int .i64 ((1 : Nat) : Int)) rfl ?_
      refine fr_end ?_
      refine to_then ?_
      refine fr_seq ?_
      refine fr_region ?_
      refine fr_move (.int .i64 ((i : Nat) : Int)) h.h12 ?_
      refine fr_move (.int .i64 ((1 : Nat) : Int)) rfl ?_
      refine fr_add .i64 3 ((i : Nat) : Int) ((1 : Nat) : Int) ((i + 1 : Nat) : Int) rfl rfl rfl (by exact w64' (by omega) (by omega) (by omega)) ?_
      refine fr_assign (.int .i64 ((i + 1 : Nat) : Int)) rfl ?_
      refine fr_end ?_
      refine to_then ?_
      refine fr_seq ?_
      refine fr_region ?_
      refine fr_move (.int .i32 ((c : Nat) : Int)) rfl ?_
      refine fr_end ?_
      refine to_then ?_
      refine hex9 (c := c) (d := d) (v := x) rfl rfl h25 hd (by omega) ?_
      intro g hk hgv
      replace h : At X st s rep w g w1 v u (i + 1) := ⟨(hk 0 rfl).trans h.h0, (hk 1 rfl).trans h.h1, (hk 2 rfl).trans h.h2, (hk 3 rfl).trans h.h3, (hk 11 rfl).trans h.h11, (hk 12 rfl).trans rfl, (by omega), h.hn, h.row, h.below⟩
      replace h26 := (hk 26 rfl).trans h26
      refine to_blockN ?_
      refine to_then ?_
      refine fr_region ?_
      refine fr_move (.int .i64 ((j : Nat) : Int)) h26 ?_
      refine fr_add .i64 3 ((j : Nat) : Int) 1 ((j + 1 : Nat) : Int) rfl rfl rfl (by exact w64' (by omega) (by omega) (by omega)) ?_
      refine fr_assign (.int .i64 ((j + 1 : Nat) : Int)) rfl ?_
      refine fr_end ?_
      refine ⟨_, rfl, ⟨i + 1, j + 1, 16 * x + d, ⟨h.h0, h.h1, h.h2, h.h3, h.h11, h.h12, h.hi, h.hn, h.row, h.below⟩, hgv, rfl, by omega, ?_, ?_⟩, ?_⟩
      · rw [Nat.pow_succ]; omega
      · rw [show 2 - (j + 1) = m by omega]; exact hdg
      · rw [hsum]
        show 2 - num (.int .i64 ((j + 1 : Nat) : Int)) < 2 - j
        rw [num_int]; omega
end Go.Proofs.YthknielnhmoobaaGreatDoor
