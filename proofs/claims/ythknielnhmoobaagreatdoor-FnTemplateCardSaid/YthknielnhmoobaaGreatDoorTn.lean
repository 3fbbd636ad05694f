/- The walk of Go's decoder of escapes: a part. Printed by gen_tte2.py. -/
import Derived.Test.YthknielnhmoobaaGreatDoorTm
import Derived.Test.YthknielnhmoobaaGreatDoorTl
namespace Go.Proofs.YthknielnhmoobaaGreatDoor
open Go.RowKit Go.Lib
set_option maxRecDepth 100000 in
theorem round_end {X st : Nat} {s : ByteArray} {rep : Bool} {w : World} {f : Nat → Value} {wr : World} {v : Value} {u : List Nat} {i B : Nat} {Q : Exit → Act → World → Prop} (e : TEnv X st s w B) (h : At X st s rep w f wr v u i)
    (hge : s.size ≤ i) (hdone : ∀ g, At X st s rep w g wr v u i → Q (.exit 0) (mk 567 g) wr) :
    (sub B29 [1, 1, 1, 0, 0, 0]).wp Tryz.prog Q (mk 567 f) wr := by
  have hml : s.size ≤ maxLen := by have := e.hs; unfold maxLen; omega
  have hs := e.hs; have hst := e.hst; have hi := h.hi
  conv => arg 2; whnf
  refine fr_seq ?_
  refine fr_seq ?_
  refine fr_region ?_
  refine fr_move (.int .i64 ((i : Nat) : Int)) h.h12 ?_
  refine fr_move ((.string s)) h.h2 ?_
  refine fr_len s rfl hml ?_
  refine fr_lss .i64 3 ((i : Nat) : Int) ((s.size : Nat) : Int) false rfl rfl rfl (by exact ltF (by omega)) ?_
  refine fr_end ?_
  refine to_then ?_
  refine fr_false rfl ?_
  refine wp_exit ?_
  refine to_thenX ?_
  exact hdone _ ⟨h.h0, h.h1, h.h2, h.h3, h.h11, h.h12, h.hi, h.hn, h.row, h.below⟩
set_option maxRecDepth 100000 in
theorem round_cr_a {X st : Nat} {s : ByteArray} {rep : Bool} {w : World} {f : Nat → Value} {wr : World} {v : Value} {u : List Nat} {i c n B : Nat} {Q : Exit → Act → World → Prop} (e : TEnv X st s w B) (h : At X st s rep w f wr v u i)
    (hlt : i < s.size) (hrn : rn s i = (c, n)) (hle : i + n ≤ s.size) (hn : 1 ≤ n) (hc : c = 13) (hu : u.length ≤ 4398046511104) (hlt2 : i + n < s.size) (hb : bt s (i + n) = 10) (hnext : ∀ g w' v', At X st s rep w g w' v' (u ++ [10]) (i + n + 1) → Q .normal (mk 567 g) w') :
    (sub B29 [1, 1, 1, 0, 0, 0]).wp Tryz.prog Q (mk 567 f) wr := by
  have hml : s.size ≤ maxLen := by have := e.hs; unfold maxLen; omega
  have hs := e.hs; have hst := e.hst; have hi := h.hi
  conv => arg 2; whnf
  refine fr_seq ?_
  refine fr_seq ?_
  refine fr_region ?_
  refine fr_move (.int .i64 ((i : Nat) : Int)) h.h12 ?_
  refine fr_move ((.string s)) h.h2 ?_
  refine fr_len s rfl hml ?_
  refine fr_lss .i64 3 ((i : Nat) : Int) ((s.size : Nat) : Int) true rfl rfl rfl (by exact ltT (by omega)) ?_
  refine fr_end ?_
  refine to_then ?_
  refine fr_true rfl ?_
  refine wp_skip ?_
  refine to_then ?_
  refine wp_block ?_
  refine fr_seq ?_
  refine fr_region ?_
  refine fr_move ((.string s)) h.h2 ?_
  refine fr_move (.int .i64 ((i : Nat) : Int)) h.h12 ?_
  refine fr_slice_from 9 s (i) rfl rfl rfl (by omega) hml ?_
  refine fr_dec s (i) B (c) (n) hrn rfl (by omega) (h.tabs e) _ ?_
  intro w1 hb
  replace h := h.world hb
  clear hb
  refine fr_move ((.tuple #[.int .i32 ((c : Nat) : Int), .int .i64 ((n : Nat) : Int)])) rfl ?_
  refine fr_extract 0 _ (.int .i32 ((c : Nat) : Int)) rfl rfl ?_
  refine fr_extract 1 _ (.int .i64 ((n : Nat) : Int)) rfl rfl ?_
  refine fr_assign (.int .i32 ((c : Nat) : Int)) rfl ?_
  refine fr_assign (.int .i64 ((n : Nat) : Int)) rfl ?_
  refine fr_end ?_
  refine to_then ?_
  refine fr_seq ?_
  refine fr_region ?_
  refine fr_move (.int .i64 ((i : Nat) : Int)) h.h12 ?_
  refine fr_move (.int .i64 ((n : Nat) : Int)) rfl ?_
  refine fr_add .i64 3 ((i : Nat) : Int) ((n : Nat) : Int) ((i + n : Nat) : Int) rfl rfl rfl (by exact w64' (by omega) (by omega) (by omega)) ?_
  refine fr_assign (.int .i64 ((i + n : Nat) : Int)) rfl ?_
  refine fr_end ?_
  refine to_then ?_
  refine fr_seq ?_
  refine fr_seq ?_
  refine fr_region ?_
  refine fr_move (.int .i32 ((c : Nat) : Int)) rfl ?_
  refine fr_end ?_
  refine to_then ?_
  refine wp_block ?_
  refine fr_seq ?_
  refine fr_region ?_
  refine fr_eq .i32 21 ((c : Nat) : Int) 13 true rfl rfl rfl (by exact eqT (by omega)) ?_
  refine fr_assign (.bool true) rfl ?_
  refine fr_end ?_
  refine to_then ?_
  refine fr_true rfl ?_
  refine fr_seq ?_
  refine fr_seq ?_
  refine fr_region ?_
  refine fr_move (.int .i64 ((i + n : Nat) : Int)) rfl ?_
  refine fr_move ((.string s)) h.h2 ?_
  refine fr_len s rfl hml ?_
  refine fr_lss .i64 3 ((i + n : Nat) : Int) ((s.size : Nat) : Int) true rfl rfl rfl (by exact ltT (by omega)) ?_
  refine fr_move (.bool true) rfl ?_
  refine fr_move_g ((.string s)) rfl rfl rfl h.h2 ?_
  refine fr_move_g (.int .i64 ((i + n : Nat) : Int)) rfl rfl rfl rfl ?_
  refine fr_index_g s _ (i + n) rfl rfl rfl rfl rfl rfl (by omega) hml ?_
  refine fr_eq_g .u8 5 ((bt s (i + n) : Nat) : Int) 10 true rfl rfl rfl rfl rfl rfl (by exact eqT (by omega)) ?_
  refine fr_pick true (.bool true) rfl rfl ?_
  refine fr_end ?_
  refine to_then ?_
  refine fr_true rfl ?_
  refine fr_region ?_
  refine fr_move (.int .i64 ((i + n : Nat) : Int)) rfl ?_
  refine fr_add .i64 3 ((i + n : Nat) : Int) 1 ((i + n + 1 : Nat) : Int) rfl rfl rfl (by exact w64' (by omega) (by omega) (by omega)) ?_
  refine fr_assign (.int .i64 ((i + n + 1 : Nat) : Int)) rfl ?_
  refine fr_end ?_
  refine to_then ?_
  refine fr_seq ?_
  refine fr_region ?_
  refine fr_move (v) h.h11 ?_
  refine fr_build1 10 rfl ?_
  refine fr_append1 w.heap.size u (10) rfl rfl h.row h.hn h.below h.size (by omega) ?_
  intro v9 w2 hrow9 hn9 hb9
  refine fr_assign (v9) rfl ?_
  refine fr_end ?_
  refine to_then ?_
  refine wp_exit ?_
  refine to_blockY rfl ?_
  refine to_thenX ?_
  refine to_blockX ?_
  exact hnext _ _ v9 ⟨h.h0, h.h1, h.h2, h.h3, rfl, rfl, (by omega), hn9, hrow9, hb9⟩
set_option maxRecDepth 100000 in
theorem round_cr_b {X st : Nat} {s : ByteArray} {rep : Bool} {w : World} {f : Nat → Value} {wr : World} {v : Value} {u : List Nat} {i c n B : Nat} {Q : Exit → Act → World → Prop} (e : TEnv X st s w B) (h : At X st s rep w f wr v u i)
    (hlt : i < s.size) (hrn : rn s i = (c, n)) (hle : i + n ≤ s.size) (hn : 1 ≤ n) (hc : c = 13) (hu : u.length ≤ 4398046511104) (hlt2 : i + n < s.size) (hb : bt s (i + n) ≠ 10) (hnext : ∀ g w' v', At X st s rep w g w' v' (u ++ [10]) (i + n) → Q .normal (mk 567 g) w') :
    (sub B29 [1, 1, 1, 0, 0, 0]).wp Tryz.prog Q (mk 567 f) wr := by
  have hml : s.size ≤ maxLen := by have := e.hs; unfold maxLen; omega
  have hs := e.hs; have hst := e.hst; have hi := h.hi
  conv => arg 2; whnf
  refine fr_seq ?_
  refine fr_seq ?_
  refine fr_region ?_
  refine fr_move (.int .i64 ((i : Nat) : Int)) h.h12 ?_
  refine fr_move ((.string s)) h.h2 ?_
  refine fr_len s rfl hml ?_
  refine fr_lss .i64 3 ((i : Nat) : Int) ((s.size : Nat) : Int) true rfl rfl rfl (by exact ltT (by omega)) ?_
  refine fr_end ?_
  refine to_then ?_
  refine fr_true rfl ?_
  refine wp_skip ?_
  refine to_then ?_
  refine wp_block ?_
  refine fr_seq ?_
  refine fr_region ?_
  refine fr_move ((.string s)) h.h2 ?_
  refine fr_move (.int .i64 ((i : Nat) : Int)) h.h12 ?_
  refine fr_slice_from 9 s (i) rfl rfl rfl (by omega) hml ?_
  refine fr_dec s (i) B (c) (n) hrn rfl (by omega) (h.tabs e) _ ?_
  intro w1 hb
  replace h := h.world hb
  clear hb
  refine fr_move ((.tuple #[.int .i32 ((c : Nat) : Int), .int .i64 ((n : Nat) : Int)])) rfl ?_
  refine fr_extract 0 _ (.int .i32 ((c : Nat) : Int)) rfl rfl ?_
  refine fr_extract 1 _ (.int .i64 ((n : Nat) : Int)) rfl rfl ?_
  refine fr_assign (.int .i32 ((c : Nat) : Int)) rfl ?_
  refine fr_assign (.int .i64 ((n : Nat) : Int)) rfl ?_
  refine fr_end ?_
  refine to_then ?_
  refine fr_seq ?_
  refine fr_region ?_
  refine fr_move (.int .i64 ((i : Nat) : Int)) h.h12 ?_
  refine fr_move (.int .i64 ((n : Nat) : Int)) rfl ?_
  refine fr_add .i64 3 ((i : Nat) : Int) ((n : Nat) : Int) ((i + n : Nat) : Int) rfl rfl rfl (by exact w64' (by omega) (by omega) (by omega)) ?_
  refine fr_assign (.int .i64 ((i + n : Nat) : Int)) rfl ?_
  refine fr_end ?_
  refine to_then ?_
  refine fr_seq ?_
  refine fr_seq ?_
  refine fr_region ?_
  refine fr_move (.int .i32 ((c : Nat) : Int)) rfl ?_
  refine fr_end ?_
  refine to_then ?_
  refine wp_block ?_
  refine fr_seq ?_
  refine fr_region ?_
  refine fr_eq .i32 21 ((c : Nat) : Int) 13 true rfl rfl rfl (by exact eqT (by omega)) ?_
  refine fr_assign (.bool true) rfl ?_
  refine fr_end ?_
  refine to_then ?_
  refine fr_true rfl ?_
  refine fr_seq ?_
  refine fr_seq ?_
  refine fr_region ?_
  refine fr_move (.int .i64 ((i + n : Nat) : Int)) rfl ?_
  refine fr_move ((.string s)) h.h2 ?_
  refine fr_len s rfl hml ?_
  refine fr_lss .i64 3 ((i + n : Nat) : Int) ((s.size : Nat) : Int) true rfl rfl rfl (by exact ltT (by omega)) ?_
  refine fr_move (.bool true) rfl ?_
  refine fr_move_g ((.string s)) rfl rfl rfl h.h2 ?_
  refine fr_move_g (.int .i64 ((i + n : Nat) : Int)) rfl rfl rfl rfl ?_
  refine fr_index_g s _ (i + n) rfl rfl rfl rfl rfl rfl (by omega) hml ?_
  refine fr_eq_g .u8 5 ((bt s (i + n) : Nat) : Int) 10 false rfl rfl rfl rfl rfl rfl (by exact eqF (by omega)) ?_
  refine fr_pick true (.bool false) rfl rfl ?_
  refine fr_end ?_
  refine to_then ?_
  refine fr_false rfl ?_
  refine wp_skip ?_
  refine to_then ?_
  refine fr_seq ?_
  refine fr_region ?_
  refine fr_move (v) h.h11 ?_
  refine fr_build1 10 rfl ?_
  refine fr_append1 w.heap.size u (10) rfl rfl h.row h.hn h.below h.size (by omega) ?_
  intro v9 w2 hrow9 hn9 hb9
  refine fr_assign (v9) rfl ?_
  refine fr_end ?_
  refine to_then ?_
  refine wp_exit ?_
  refine to_blockY rfl ?_
  refine to_thenX ?_
  refine to_blockX ?_
  exact hnext _ _ v9 ⟨h.h0, h.h1, h.h2, h.h3, rfl, rfl, (by omega), hn9, hrow9, hb9⟩
set_option maxRecDepth 100000 in
theorem round_cr_c {X st : Nat} {s : ByteArray} {rep : Bool} {w : World} {f : Nat → Value} {wr : World} {v : Value} {u : List Nat} {i c n B : Nat} {Q : Exit → Act → World → Prop} (e : TEnv X st s w B) (h : At X st s rep w f wr v u i)
    (hlt : i < s.size) (hrn : rn s i = (c, n)) (hle : i + n ≤ s.size) (hn : 1 ≤ n) (hc : c = 13) (hu : u.length ≤ 4398046511104) (hge : s.size ≤ i + n) (hnext : ∀ g w' v', At X st s rep w g w' v' (u ++ [10]) (i + n) → Q .normal (mk 567 g) w') :
    (sub B29 [1, 1, 1, 0, 0, 0]).wp Tryz.prog Q (mk 567 f) wr := by
  have hml : s.size ≤ maxLen := by have := e.hs; unfold maxLen; omega
  have hs := e.hs; have hst := e.hst; have hi := h.hi
  conv => arg 2; whnf
  refine fr_seq ?_
  refine fr_seq ?_
  refine fr_region ?_
  refine fr_move (.int .i64 ((i : Nat) : Int)) h.h12 ?_
  refine fr_move ((.string s)) h.h2 ?_
  refine fr_len s rfl hml ?_
  refine fr_lss .i64 3 ((i : Nat) : Int) ((s.size : Nat) : Int) true rfl rfl rfl (by exact ltT (by omega)) ?_
  refine fr_end ?_
  refine to_then ?_
  refine fr_true rfl ?_
  refine wp_skip ?_
  refine to_then ?_
  refine wp_block ?_
  refine fr_seq ?_
  refine fr_region ?_
  refine fr_move ((.string s)) h.h2 ?_
  refine fr_move (.int .i64 ((i : Nat) : Int)) h.h12 ?_
  refine fr_slice_from 9 s (i) rfl rfl rfl (by omega) hml ?_
  refine fr_dec s (i) B (c) (n) hrn rfl (by omega) (h.tabs e) _ ?_
  intro w1 hb
  replace h := h.world hb
  clear hb
  refine fr_move ((.tuple #[.int .i32 ((c : Nat) : Int), .int .i64 ((n : Nat) : Int)])) rfl ?_
  refine fr_extract 0 _ (.int .i32 ((c : Nat) : Int)) rfl rfl ?_
  refine fr_extract 1 _ (.int .i64 ((n : Nat) : Int)) rfl rfl ?_
  refine fr_assign (.int .i32 ((c : Nat) : Int)) rfl ?_
  refine fr_assign (.int .i64 ((n : Nat) : Int)) rfl ?_
  refine fr_end ?_
  refine to_then ?_
  refine fr_seq ?_
  refine fr_region ?_
  refine fr_move (.int .i64 ((i : Nat) : Int)) h.h12 ?_
  refine fr_move (.int .i64 ((n : Nat) : Int)) rfl ?_
  refine fr_add .i64 3 ((i : Nat) : Int) ((n : Nat) : Int) ((i + n : Nat) : Int) rfl rfl rfl (by exact w64' (by omega) (by omega) (by omega)) ?_
  refine fr_assign (.int .i64 ((i + n : Nat) : Int)) rfl ?_
  refine fr_end ?_
  refine to_then ?_
  refine fr_seq ?_
  refine fr_seq ?_
  refine fr_region ?_
  refine fr_move (.int .i32 ((c : Nat) : Int)) rfl ?_
  refine fr_end ?_
  refine to_then ?_
  refine wp_block ?_
  refine fr_seq ?_
  refine fr_region ?_
  refine fr_eq .i32 21 ((c : Nat) : Int) 13 true rfl rfl rfl (by exact eqT (by omega)) ?_
  refine fr_assign (.bool true) rfl ?_
  refine fr_end ?_
  refine to_then ?_
  refine fr_true rfl ?_
  refine fr_seq ?_
  refine fr_seq ?_
  refine fr_region ?_
  refine fr_move (.int .i64 ((i + n : Nat) : Int)) rfl ?_
  refine fr_move ((.string s)) h.h2 ?_
  refine fr_len s rfl hml ?_
  refine fr_lss .i64 3 ((i + n : Nat) : Int) ((s.size : Nat) : Int) false rfl rfl rfl (by exact ltF (by omega)) ?_
  refine fr_move (.bool false) rfl ?_
  refine fr_skip 4 58 true false rfl rfl rfl rfl ?_
  refine fr_skip 4 58 true false rfl rfl rfl rfl ?_
  refine fr_skip 4 58 true false rfl rfl rfl rfl ?_
  refine fr_skip 4 58 true false rfl rfl rfl rfl ?_
  refine fr_pick false (.bool false) rfl rfl ?_
  refine fr_end ?_
  refine to_then ?_
  refine fr_false rfl ?_
  refine wp_skip ?_
  refine to_then ?_
  refine fr_seq ?_
  refine fr_region ?_
  refine fr_move (v) h.h11 ?_
  refine fr_build1 10 rfl ?_
  refine fr_append1 w.heap.size u (10) rfl rfl h.row h.hn h.below h.size (by omega) ?_
  intro v9 w2 hrow9 hn9 hb9
  refine fr_assign (v9) rfl ?_
  refine fr_end ?_
  refine to_then ?_
  refine wp_exit ?_
  refine to_blockY rfl ?_
  refine to_thenX ?_
  refine to_blockX ?_
  exact hnext _ _ v9 ⟨h.h0, h.h1, h.h2, h.h3, rfl, rfl, (by omega), hn9, hrow9, hb9⟩
set_option maxRecDepth 100000 in
theorem round_plain {X st : Nat} {s : ByteArray} {rep : Bool} {w : World} {f : Nat → Value} {wr : World} {v : Value} {u : List Nat} {i c n B : Nat} {Q : Exit → Act → World → Prop} (e : TEnv X st s w B) (h : At X st s rep w f wr v u i)
    (hlt : i < s.size) (hrn : rn s i = (c, n)) (hle : i + n ≤ s.size) (hn : 1 ≤ n) (hc : c ≤ 1114111) (hc13 : c ≠ 13) (hc92 : c ≠ 92) (hu : u.length ≤ 4398046511104) (hnext : ∀ g w' v', At X st s rep w g w' v' (u ++ unitsOf c) (i + n) → Q .normal (mk 567 g) w') :
    (sub B29 [1, 1, 1, 0, 0, 0]).wp Tryz.prog Q (mk 567 f) wr := by
  have hml : s.size ≤ maxLen := by have := e.hs; unfold maxLen; omega
  have hs := e.hs; have hst := e.hst; have hi := h.hi
  conv => arg 2; whnf
  refine fr_seq ?_
  refine fr_seq ?_
  refine fr_region ?_
  refine fr_move (.int .i64 ((i : Nat) : Int)) h.h12 ?_
  refine fr_move ((.string s)) h.h2 ?_
  refine fr_len s rfl hml ?_
  refine fr_lss .i64 3 ((i : Nat) : Int) ((s.size : Nat) : Int) true rfl rfl rfl (by exact ltT (by omega)) ?_
  refine fr_end ?_
  refine to_then ?_
  refine fr_true rfl ?_
  refine wp_skip ?_
  refine to_then ?_
  refine wp_block ?_
  refine fr_seq ?_
  refine fr_region ?_
  refine fr_move ((.string s)) h.h2 ?_
  refine fr_move (.int .i64 ((i : Nat) : Int)) h.h12 ?_
  refine fr_slice_from 9 s (i) rfl rfl rfl (by omega) hml ?_
  refine fr_dec s (i) B (c) (n) hrn rfl (by omega) (h.tabs e) _ ?_
  intro w1 hb
  replace h := h.world hb
  clear hb
  refine fr_move ((.tuple #[.int .i32 ((c : Nat) : Int), .int .i64 ((n : Nat) : Int)])) rfl ?_
  refine fr_extract 0 _ (.int .i32 ((c : Nat) : Int)) rfl rfl ?_
  refine fr_extract 1 _ (.int .i64 ((n : Nat) : Int)) rfl rfl ?_
  refine fr_assign (.int .i32 ((c : Nat) : Int)) rfl ?_
  refine fr_assign (.int .i64 ((n : Nat) : Int)) rfl ?_
  refine fr_end ?_
  refine to_then ?_
  refine fr_seq ?_
  refine fr_region ?_
  refine fr_move (.int .i64 ((i : Nat) : Int)) h.h12 ?_
  refine fr_move (.int .i64 ((n : Nat) : Int)) rfl ?_
  refine fr_add .i64 3 ((i : Nat) : Int) ((n : Nat) : Int) ((i + n : Nat) : Int) rfl rfl rfl (by exact w64' (by omega) (by omega) (by omega)) ?_
  refine fr_assign (.int .i64 ((i + n : Nat) : Int)) rfl ?_
  refine fr_end ?_
  refine to_then ?_
  refine fr_seq ?_
  refine fr_seq ?_
  refine fr_region ?_
  refine fr_move (.int .i32 ((c : Nat) : Int)) rfl ?_
  refine fr_end ?_
  refine to_then ?_
  refine wp_block ?_
  refine fr_seq ?_
  refine fr_region ?_
  refine fr_eq .i32 21 ((c : Nat) : Int) 13 false rfl rfl rfl (by exact eqF (by omega)) ?_
  refine fr_assign (.bool false) rfl ?_
  refine fr_end ?_
  refine to_then ?_
  refine fr_false rfl ?_
  refine fr_seq ?_
  refine fr_region ?_
  refine fr_eq .i32 21 ((c : Nat) : Int) 92 false rfl rfl rfl (by exact eqF (by omega)) ?_
  refine fr_assign (.bool false) rfl ?_
  refine fr_end ?_
  refine to_then ?_
  refine fr_false rfl ?_
  refine wp_skip ?_
  refine to_blockN ?_
  refine to_then ?_
  refine tail (c := c) e ⟨h.h0, h.h1, h.h2, h.h3, h.h11, rfl, hle, h.hn, h.row, h.below⟩ rfl (by omega) (by omega) ?_
  intro g w9 v9 hag
  refine to_blockN ?_
  exact hnext _ _ v9 hag
set_option maxRecDepth 100000 in
theorem round_esc {X st : Nat} {s : ByteArray} {rep : Bool} {w : World} {f : Nat → Value} {wr : World} {v : Value} {u : List Nat} {i c n j B : Nat} {a : List Nat} {Q : Exit → Act → World → Prop} (e : TEnv X st s w B) (h : At X st s rep w f wr v u i)
    (hlt : i < s.size) (hrn : rn s i = (c, n)) (hle : i + n ≤ s.size) (hn : n = 1) (hc : c = 92) (hb92 : bt s (i + n - 1) = 92) (hu : u.length ≤ 4398046511104) (hesc : escF s (i + n) = .right a j) (hnext : ∀ g w' v', At X st s rep w g w' v' (u ++ a) j → Q .normal (mk 567 g) w') :
    (sub B29 [1, 1, 1, 0, 0, 0]).wp Tryz.prog Q (mk 567 f) wr := by
  have hml : s.size ≤ maxLen := by have := e.hs; unfold maxLen; omega
  have hs := e.hs; have hst := e.hst; have hi := h.hi
  conv => arg 2; whnf
  refine fr_seq ?_
  refine fr_seq ?_
  refine fr_region ?_
  refine fr_move (.int .i64 ((i : Nat) : Int)) h.h12 ?_
  refine fr_move ((.string s)) h.h2 ?_
  refine fr_len s rfl hml ?_
  refine fr_lss .i64 3 ((i : Nat) : Int) ((s.size : Nat) : Int) true rfl rfl rfl (by exact ltT (by omega)) ?_
  refine fr_end ?_
  refine to_then ?_
  refine fr_true rfl ?_
  refine wp_skip ?_
  refine to_then ?_
  refine wp_block ?_
  refine fr_seq ?_
  refine fr_region ?_
  refine fr_move ((.string s)) h.h2 ?_
  refine fr_move (.int .i64 ((i : Nat) : Int)) h.h12 ?_
  refine fr_slice_from 9 s (i) rfl rfl rfl (by omega) hml ?_
  refine fr_dec s (i) B (c) (n) hrn rfl (by omega) (h.tabs e) _ ?_
  intro w1 hb
  replace h := h.world hb
  clear hb
  refine fr_move ((.tuple #[.int .i32 ((c : Nat) : Int), .int .i64 ((n : Nat) : Int)])) rfl ?_
  refine fr_extract 0 _ (.int .i32 ((c : Nat) : Int)) rfl rfl ?_
  refine fr_extract 1 _ (.int .i64 ((n : Nat) : Int)) rfl rfl ?_
  refine fr_assign (.int .i32 ((c : Nat) : Int)) rfl ?_
  refine fr_assign (.int .i64 ((n : Nat) : Int)) rfl ?_
  refine fr_end ?_
  refine to_then ?_
  refine fr_seq ?_
  refine fr_region ?_
  refine fr_move (.int .i64 ((i : Nat) : Int)) h.h12 ?_
  refine fr_move (.int .i64 ((n : Nat) : Int)) rfl ?_
  refine fr_add .i64 3 ((i : Nat) : Int) ((n : Nat) : Int) ((i + n : Nat) : Int) rfl rfl rfl (by exact w64' (by omega) (by omega) (by omega)) ?_
  refine fr_assign (.int .i64 ((i + n : Nat) : Int)) rfl ?_
  refine fr_end ?_
  refine to_then ?_
  refine fr_seq ?_
  refine fr_seq ?_
  refine fr_region ?_
  refine fr_move (.int .i32 ((c : Nat) : Int)) rfl ?_
  refine fr_end ?_
  refine to_then ?_
  refine wp_block ?_
  refine fr_seq ?_
  refine fr_region ?_
  refine fr_eq .i32 21 ((c : Nat) : Int) 13 false rfl rfl rfl (by exact eqF (by omega)) ?_
  refine fr_assign (.bool false) rfl ?_
  refine fr_end ?_
  refine to_then ?_
  refine fr_false rfl ?_
  refine fr_seq ?_
  refine fr_region ?_
  refine fr_eq .i32 21 ((c : Nat) : Int) 92 true rfl rfl rfl (by exact eqT (by omega)) ?_
  refine fr_assign (.bool true) rfl ?_
  refine fr_end ?_
  refine to_then ?_
  refine fr_true rfl ?_
  refine esc_right (n1 := n) (j := j) (a := a) e ⟨h.h0, h.h1, h.h2, h.h3, h.h11, rfl, hle, h.hn, h.row, h.below⟩ rfl (by omega) (by omega) hb92 hu hesc ⟨?_, ?_⟩
  · intro g w9 v9 hag
    refine to_blockY rfl ?_
    refine to_thenX ?_
    refine to_blockX ?_
    exact hnext _ _ v9 hag
  · intro g w9 v9 c9 hag h13 hc9 ha9
    refine to_blockN ?_
    refine to_then ?_
    refine tail (c := c9) e hag h13 (by omega) (by omega) ?_
    intro g w9 v9 hag
    refine to_blockN ?_
    rw [ha9] at hnext
    exact hnext _ _ v9 hag
end Go.Proofs.YthknielnhmoobaaGreatDoor
