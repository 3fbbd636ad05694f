/- The walk of Go's decoder of escapes: a part. Printed by gen_tte2.py. -/
import Derived.Test.YthknielnhmoobaaGreatDoorTd
namespace Go.Proofs.YthknielnhmoobaaGreatDoor
open Go.RowKit Go.Lib
set_option maxRecDepth 100000 in
theorem loop_b {X st : Nat} {s : ByteArray} {rep : Bool} {w : World} {f : Nat → Value} {wr : World} {v : Value} {u : List Nat} {i B : Nat} {Q : Exit → Act → World → Prop} {k0 pp q : Nat} (e : TEnv X st s w B) (h : At X st s rep w f wr v u i)
    (h29 : f 29 = .int .i32 ((0 : Nat) : Int)) (h33 : f 33 = .bool true) (h34 : f 34 = .bool false) (hdg : braceF s k0 i 0 true = some (pp, q))
    (hq : ∀ g w' , At X st s rep w g w' v u q → g 29 = .int .i32 (pp : Int) → g 34 = .bool false → Q (.exit 10) (mk 567 g) w') :
    (sub B29 [1, 1, 1, 0, 0, 0, 1, 0, 1, 1, 0, 1, 0, 1, 1, 1, 0, 1, 1, 1, 0, 1, 1, 1, 1, 1, 1, 1, 1, 1, 1, 1, 1, 1, 1, 1, 1, 1, 1, 1, 0, 1, 1, 1, 0, 1, 0, 0, 1, 1, 1, 1, 1, 0, 0]).wp Tryz.prog Q (mk 567 f) wr := by
  have hml : s.size ≤ maxLen := by have := e.hs; unfold maxLen; omega
  have hs := e.hs; have hst := e.hst; have hi := h.hi
  conv => arg 2; whnf
  refine fr_loop 12 s.size rfl (fun f w' => ∃ (i k x : Nat) (b : Bool), At X st s rep w f w' v u i ∧ f 29 = .int .i32 (x : Int) ∧ f 33 = .bool b ∧ f 34 = .bool false ∧ x ≤ 1114111 ∧ braceF s k i x b = some (pp, q)) ⟨i, k0, 0, true, h, h29, h33, h34, by omega, hdg⟩ ?_
  clear h h29 h33 h34 hdg hi
  rintro f wq ⟨i, k, x, b, h, h29, h33, h34, hx, hdg⟩
  have hi := h.hi
  have hsum : num (f 12) = i := by rw [h.h12, num_int]
  cases k with
  | zero => cases hdg
  | succ k =>
    unfold braceF at hdg
    by_cases h125 : bt s i = 125
    · rw [if_pos h125] at hdg
      have hlt : i < s.size := by
        rcases Nat.lt_or_ge i s.size with h' | h'
        · exact h'
        · have : bt s i = 0 := by unfold bt; rw [if_neg (by omega)]
          omega
      obtain ⟨c, hc⟩ : ∃ c, bt s i = c := ⟨_, rfl⟩
      have hrn : rn s i = (c, 1) := by rw [rn_of_byte hlt (by omega), hc]
      rw [hc] at h125
      clear hc
      cases b with
      | true => cases hdg
      | false =>
        obtain ⟨rfl, rfl⟩ : x = pp ∧ i + 1 = q := by simpa using hdg
        refine wp_block ?_
        refine fr_seq ?_
        refine fr_region ?_
        refine fr_move ((.string s)) h.h2 ?_
        refine fr_move (.int .i64 ((i : Nat) : Int)) h.h12 ?_
        refine fr_slice_from 9 s (i) rfl rfl rfl (by omega) hml ?_
        refine fr_dec s (i) B (c) (1) hrn rfl (by omega) (h.tabs e) _ ?_
        intro w1 hb
        replace h := h.world hb
        clear hb
        refine fr_move ((.tuple #[.int .i32 ((c : Nat) : Int), .int .i64 ((1 : Nat) : Int)])) rfl ?_
        refine fr_extract 0 _ (.int .i32 ((c : Nat) : Int)) rfl rfl ?_
        refine fr_extract 1 _ (.int .i64 ((1 : Nat) : Int)) rfl rfl ?_
        refine fr_assign (.int .i32 ((c : Nat) : Int)) rfl ?_
        refine fr_assign (.int .i64 ((1 : Nat) : Int)) rfl ?_
        refine fr_end ?_
        refine to_then ?_
        refine fr_seq ?_
        refine fr_region ?_
        refine fr_move (.int .i64 ((i : Nat) : Int)) h.h12 ?_
        refine fr_move (.int .i64 ((1 : Nat) : Int)) rfl ?_
        refine fr_add .i64 3 ((i : Nat) : Int) ((1 : Nat) : Int) ((i + 1 : Nat) : Int) rfl rfl rfl (by exact w64' (by omega) (by omega) (by omega)) ?_
        refine fr_assign (.int .i64 ((i + 1 : Nat) : Int)) rfl ?_
        refine fr_end ?_
        refine to_then ?_
        refine fr_seq ?_
        refine fr_seq ?_
        refine fr_region ?_
        refine fr_move (.int .i32 ((c : Nat) : Int)) rfl ?_
        refine fr_end ?_
        refine to_then ?_
        refine wp_block ?_
        refine fr_seq ?_
        refine fr_seq ?_
        refine fr_region ?_
        refine fr_eq .i32 21 ((c : Nat) : Int) 48 false rfl rfl rfl (by exact eqF (by omega)) ?_
        refine fr_assign (.bool false) rfl ?_
        refine fr_end ?_
        refine to_then ?_
        refine fr_false rfl ?_
        refine fr_seq ?_
        refine fr_region ?_
        refine fr_eq .i32 21 ((c : Nat) : Int) 49 false rfl rfl rfl (by exact eqF (by omega)) ?_
        refine fr_assign (.bool false) rfl ?_
        refine fr_end ?_
        refine to_then ?_
        refine fr_false rfl ?_
        refine fr_seq ?_
        refine fr_region ?_
        refine fr_eq .i32 21 ((c : Nat) : Int) 50 false rfl rfl rfl (by exact eqF (by omega)) ?_
        refine fr_assign (.bool false) rfl ?_
        refine fr_end ?_
        refine to_then ?_
        refine fr_false rfl ?_
        refine fr_seq ?_
        refine fr_region ?_
        refine fr_eq .i32 21 ((c : Nat) : Int) 51 false rfl rfl rfl (by exact eqF (by omega)) ?_
        refine fr_assign (.bool false) rfl ?_
        refine fr_end ?_
        refine to_then ?_
        refine fr_false rfl ?_
        refine fr_seq ?_
        refine fr_region ?_
        refine fr_eq .i32 21 ((c : Nat) : Int) 52 false rfl rfl rfl (by exact eqF (by omega)) ?_
        refine fr_assign (.bool false) rfl ?_
        refine fr_end ?_
        refine to_then ?_
        refine fr_false rfl ?_
        refine fr_seq ?_
        refine fr_region ?_
        refine fr_eq .i32 21 ((c : Nat) : Int) 53 false rfl rfl rfl (by exact eqF (by omega)) ?_
        refine fr_assign (.bool false) rfl ?_
        refine fr_end ?_
        refine to_then ?_
        refine fr_false rfl ?_
        refine fr_seq ?_
        refine fr_region ?_
        refine fr_eq .i32 21 ((c : Nat) : Int) 54 false rfl rfl rfl (by exact eqF (by omega)) ?_
        refine fr_assign (.bool false) rfl ?_
        refine fr_end ?_
        refine to_then ?_
        refine fr_false rfl ?_
        refine fr_seq ?_
        refine fr_region ?_
        refine fr_eq .i32 21 ((c : Nat) : Int) 55 false rfl rfl rfl (by exact eqF (by omega)) ?_
        refine fr_assign (.bool false) rfl ?_
        refine fr_end ?_
        refine to_then ?_
        refine fr_false rfl ?_
        refine fr_seq ?_
        refine fr_region ?_
        refine fr_eq .i32 21 ((c : Nat) : Int) 56 false rfl rfl rfl (by exact eqF (by omega)) ?_
        refine fr_assign (.bool false) rfl ?_
        refine fr_end ?_
        refine to_then ?_
        refine fr_false rfl ?_
        refine fr_region ?_
        refine fr_eq .i32 21 ((c : Nat) : Int) 57 false rfl rfl rfl (by exact eqF (by omega)) ?_
        refine fr_assign (.bool false) rfl ?_
        refine fr_end ?_
        refine to_then ?_
        refine fr_false rfl ?_
        refine fr_seq ?_
        refine fr_seq ?_
        refine fr_region ?_
        refine fr_eq .i32 21 ((c : Nat) : Int) 97 false rfl rfl rfl (by exact eqF (by omega)) ?_
        refine fr_assign (.bool false) rfl ?_
        refine fr_end ?_
        refine to_then ?_
        refine fr_false rfl ?_
        refine fr_seq ?_
        refine fr_region ?_
        refine fr_eq .i32 21 ((c : Nat) : Int) 98 false rfl rfl rfl (by exact eqF (by omega)) ?_
        refine fr_assign (.bool false) rfl ?_
        refine fr_end ?_
        refine to_then ?_
        refine fr_false rfl ?_
        refine fr_seq ?_
        refine fr_region ?_
        refine fr_eq .i32 21 ((c : Nat) : Int) 99 false rfl rfl rfl (by exact eqF (by omega)) ?_
        refine fr_assign (.bool false) rfl ?_
        refine fr_end ?_
        refine to_then ?_
        refine fr_false rfl ?_
        refine fr_seq ?_
        refine fr_region ?_
        refine fr_eq .i32 21 ((c : Nat) : Int) 100 false rfl rfl rfl (by exact eqF (by omega)) ?_
        refine fr_assign (.bool false) rfl ?_
        refine fr_end ?_
        refine to_then ?_
        refine fr_false rfl ?_
        refine fr_seq ?_
        refine fr_region ?_
        refine fr_eq .i32 21 ((c : Nat) : Int) 101 false rfl rfl rfl (by exact eqF (by omega)) ?_
        refine fr_assign (.bool false) rfl ?_
        refine fr_end ?_
        refine to_then ?_
        refine fr_false rfl ?_
        refine fr_region ?_
        refine fr_eq .i32 21 ((c : Nat) : Int) 102 false rfl rfl rfl (by exact eqF (by omega)) ?_
        refine fr_assign (.bool false) rfl ?_
        refine fr_end ?_
        refine to_then ?_
        refine fr_false rfl ?_
        refine fr_seq ?_
        refine fr_seq ?_
        refine fr_region ?_
        refine fr_eq .i32 21 ((c : Nat) : Int) 65 false rfl rfl rfl (by exact eqF (by omega)) ?_
        refine fr_assign (.bool false) rfl ?_
        refine fr_end ?_
        refine to_then ?_
        refine fr_false rfl ?_
        refine fr_seq ?_
        refine fr_region ?_
        refine fr_eq .i32 21 ((c : Nat) : Int) 66 false rfl rfl rfl (by exact eqF (by omega)) ?_
        refine fr_assign (.bool false) rfl ?_
        refine fr_end ?_
        refine to_then ?_
        refine fr_false rfl ?_
        refine fr_seq ?_
        refine fr_region ?_
        refine fr_eq .i32 21 ((c : Nat) : Int) 67 false rfl rfl rfl (by exact eqF (by omega)) ?_
        refine fr_assign (.bool false) rfl ?_
        refine fr_end ?_
        refine to_then ?_
        refine fr_false rfl ?_
        refine fr_seq ?_
        refine fr_region ?_
        refine fr_eq .i32 21 ((c : Nat) : Int) 68 false rfl rfl rfl (by exact eqF (by omega)) ?_
        refine fr_assign (.bool false) rfl ?_
        refine fr_end ?_
        refine to_then ?_
        refine fr_false rfl ?_
        refine fr_seq ?_
        refine fr_region ?_
        refine fr_eq .i32 21 ((c : Nat) : Int) 69 false rfl rfl rfl (by exact eqF (by omega)) ?_
        refine fr_assign (.bool false) rfl ?_
        refine fr_end ?_
        refine to_then ?_
        refine fr_false rfl ?_
        refine fr_region ?_
        refine fr_eq .i32 21 ((c : Nat) : Int) 70 false rfl rfl rfl (by exact eqF (by omega)) ?_
        refine fr_assign (.bool false) rfl ?_
        refine fr_end ?_
        refine to_then ?_
        refine fr_false rfl ?_
        refine fr_seq ?_
        refine fr_region ?_
        refine fr_eq .i32 21 ((c : Nat) : Int) 125 true rfl rfl rfl (by exact eqT (by omega)) ?_
        refine fr_assign (.bool true) rfl ?_
        refine fr_end ?_
        refine to_then ?_
        refine fr_true rfl ?_
        refine fr_seq ?_
        refine fr_seq ?_
        refine fr_region ?_
        refine fr_move (.bool false) h33 ?_
        refine fr_end ?_
        refine to_then ?_
        refine fr_false rfl ?_
        refine wp_skip ?_
        refine to_then ?_
        refine wp_exit ?_
        refine to_blockY rfl ?_
        refine to_thenX ?_
        refine to_blockY rfl ?_
        exact hq _ _ ⟨h.h0, h.h1, h.h2, h.h3, h.h11, rfl, by omega, h.hn, h.row, h.below⟩ h29 h34
    · rw [if_neg h125] at hdg
      cases hd : hexv (bt s i) with
      | none => rw [hd] at hdg; cases hdg
      | some d =>
        rw [hd] at hdg
        simp only at hdg
        have hlt : i < s.size := by
          rcases Nat.lt_or_ge i s.size with h' | h'
          · exact h'
          · have : bt s i = 0 := by unfold bt; rw [if_neg (by omega)]
            rw [this] at hd; cases hd
        have hc3 := hexv_cases hd
        split at hdg
        · cases hdg
        · rename_i hin
          obtain ⟨c, hc⟩ : ∃ c, bt s i = c := ⟨_, rfl⟩
          have hrn : rn s i = (c, 1) := by rw [rn_of_byte hlt (by omega), hc]
          rw [hc] at hd hc3 h125
          clear hc
          refine wp_block ?_
          refine fr_seq ?_
          refine fr_region ?_
          refine fr_move ((.string s)) h.h2 ?_
          refine fr_move (.int .i64 ((i : Nat) : Int)) h.h12 ?_
          refine fr_slice_from 9 s (i) rfl rfl rfl (by omega) hml ?_
          refine fr_dec s (i) B (c) (1) hrn rfl (by omega) (h.tabs e) _ ?_
          intro w1 hb
          replace h := h.world hb
          clear hb
          refine fr_move ((.tuple #[.int .i32 ((c : Nat) : Int), .int .i64 ((1 : Nat) : Int)])) rfl ?_
          refine fr_extract 0 _ (.int .i32 ((c : Nat) : Int)) rfl rfl ?_
          refine fr_extract 1 _ (.int .i64 ((1 : Nat) : Int)) rfl rfl ?_
          refine fr_assign (.int .i32 ((c : Nat) : Int)) rfl ?_
          refine fr_assign (.int .i64 ((1 : Nat) : Int)) rfl ?_
          refine fr_end ?_
          refine to_then ?_
          refine fr_seq ?_
          refine fr_region ?_
          refine fr_move (.int .i64 ((i : Nat) : Int)) h.h12 ?_
          refine fr_move (.int .i64 ((1 : Nat) : Int)) rfl ?_
          refine fr_add .i64 3 ((i : Nat) : Int) ((1 : Nat) : Int) ((i + 1 : Nat) : Int) rfl rfl rfl (by exact w64' (by omega) (by omega) (by omega)) ?_
          refine fr_assign (.int .i64 ((i + 1 : Nat) : Int)) rfl ?_
          refine fr_end ?_
          refine to_then ?_
          refine fr_seq ?_
          refine fr_seq ?_
          refine fr_region ?_
          refine fr_move (.int .i32 ((c : Nat) : Int)) rfl ?_
          refine fr_end ?_
          refine to_then ?_
          refine hex12 (c := c) (d := d) (v := x) rfl rfl h29 hd (by omega) ?_
          intro g hk hgv
          replace h : At X st s rep w g w1 v u (i + 1) := ⟨(hk 0 rfl).trans h.h0, (hk 1 rfl).trans h.h1, (hk 2 rfl).trans h.h2, (hk 3 rfl).trans h.h3, (hk 11 rfl).trans h.h11, (hk 12 rfl).trans rfl, (by omega), h.hn, h.row, h.below⟩
          replace h34 := (hk 34 rfl).trans h34
          refine to_then ?_
          refine fr_seq ?_
          refine fr_seq ?_
          refine fr_region ?_
          refine fr_move (.int .i32 ((16 * x + d : Nat) : Int)) hgv ?_
          refine fr_gtr .i32 21 ((16 * x + d : Nat) : Int) 1114111 false rfl rfl rfl (by exact ltF (by omega)) ?_
          refine fr_end ?_
          refine to_then ?_
          refine fr_false rfl ?_
          refine wp_skip ?_
          refine to_then ?_
          refine fr_region ?_
          refine fr_assign (.bool false) rfl ?_
          refine fr_end ?_
          refine to_blockN ?_
          refine ⟨_, rfl, ⟨i + 1, k, 16 * x + d, false, ⟨h.h0, h.h1, h.h2, h.h3, h.h11, h.h12, h.hi, h.hn, h.row, h.below⟩, hgv, rfl, h34, by omega, hdg⟩, ?_⟩
          rw [hsum]
          show s.size - num (g 12) < s.size - i
          rw [h.h12, num_int]; omega
end Go.Proofs.YthknielnhmoobaaGreatDoor
