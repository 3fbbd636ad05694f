/- The walk of Go's decoder of escapes: a part. Printed by gen_tte2.py. -/
import Derived.Test.YthknielnhmoobaaGreatDoorTt
namespace Go.Proofs.YthknielnhmoobaaGreatDoor
open Go.RowKit Go.Lib
set_option maxRecDepth 100000 in
theorem esc_simple98 {X st : Nat} {s : ByteArray} {rep : Bool} {w : World} {f : Nat → Value} {wr : World} {v : Value} {u : List Nat} {i B : Nat} {Q : Exit → Act → World → Prop} (e : TEnv X st s w B) (h : At X st s rep w f wr v u i)
    (hu : u.length ≤ 4398046511104) (hq : EscOut X st s rep w u [8] i Q) :
    (sub B29 [1, 1, 1, 0, 0, 0, 1, 0, 1, 1, 0, 1, 0, 1, 1, 1, 0, 1, 1, 1, 0, 1, 0]).wp Tryz.prog Q (mk 567 f) wr := by
  have hml : s.size ≤ maxLen := by have := e.hs; unfold maxLen; omega
  have hs := e.hs; have hst := e.hst; have hi := h.hi
  conv => arg 2; whnf
  refine fr_seq ?_
  refine fr_region ?_
  refine fr_move (v) h.h11 ?_
  refine fr_build1 8 rfl ?_
  refine fr_append1 w.heap.size u (8) rfl rfl h.row h.hn h.below h.size (by omega) ?_
  intro v9 w1 hrow9 hn9 hb9
  refine fr_assign (v9) rfl ?_
  refine fr_end ?_
  refine to_then ?_
  refine wp_exit ?_
  exact hq.go _ _ _ ⟨h.h0, h.h1, h.h2, h.h3, rfl, h.h12, h.hi, hn9, hrow9, hb9⟩
set_option maxRecDepth 100000 in
theorem esc_simple102 {X st : Nat} {s : ByteArray} {rep : Bool} {w : World} {f : Nat → Value} {wr : World} {v : Value} {u : List Nat} {i B : Nat} {Q : Exit → Act → World → Prop} (e : TEnv X st s w B) (h : At X st s rep w f wr v u i)
    (hu : u.length ≤ 4398046511104) (hq : EscOut X st s rep w u [12] i Q) :
    (sub B29 [1, 1, 1, 0, 0, 0, 1, 0, 1, 1, 0, 1, 0, 1, 1, 1, 0, 1, 1, 1, 0, 1, 1, 1, 0]).wp Tryz.prog Q (mk 567 f) wr := by
  have hml : s.size ≤ maxLen := by have := e.hs; unfold maxLen; omega
  have hs := e.hs; have hst := e.hst; have hi := h.hi
  conv => arg 2; whnf
  refine fr_seq ?_
  refine fr_region ?_
  refine fr_move (v) h.h11 ?_
  refine fr_build1 12 rfl ?_
  refine fr_append1 w.heap.size u (12) rfl rfl h.row h.hn h.below h.size (by omega) ?_
  intro v9 w1 hrow9 hn9 hb9
  refine fr_assign (v9) rfl ?_
  refine fr_end ?_
  refine to_then ?_
  refine wp_exit ?_
  exact hq.go _ _ _ ⟨h.h0, h.h1, h.h2, h.h3, rfl, h.h12, h.hi, hn9, hrow9, hb9⟩
set_option maxRecDepth 100000 in
theorem esc_simple110 {X st : Nat} {s : ByteArray} {rep : Bool} {w : World} {f : Nat → Value} {wr : World} {v : Value} {u : List Nat} {i B : Nat} {Q : Exit → Act → World → Prop} (e : TEnv X st s w B) (h : At X st s rep w f wr v u i)
    (hu : u.length ≤ 4398046511104) (hq : EscOut X st s rep w u [10] i Q) :
    (sub B29 [1, 1, 1, 0, 0, 0, 1, 0, 1, 1, 0, 1, 0, 1, 1, 1, 0, 1, 1, 1, 0, 1, 1, 1, 1, 1, 0]).wp Tryz.prog Q (mk 567 f) wr := by
  have hml : s.size ≤ maxLen := by have := e.hs; unfold maxLen; omega
  have hs := e.hs; have hst := e.hst; have hi := h.hi
  conv => arg 2; whnf
  refine fr_seq ?_
  refine fr_region ?_
  refine fr_move (v) h.h11 ?_
  refine fr_build1 10 rfl ?_
  refine fr_append1 w.heap.size u (10) rfl rfl h.row h.hn h.below h.size (by omega) ?_
  intro v9 w1 hrow9 hn9 hb9
  refine fr_assign (v9) rfl ?_
  refine fr_end ?_
  refine to_then ?_
  refine wp_exit ?_
  exact hq.go _ _ _ ⟨h.h0, h.h1, h.h2, h.h3, rfl, h.h12, h.hi, hn9, hrow9, hb9⟩
set_option maxRecDepth 100000 in
theorem esc_simple114 {X st : Nat} {s : ByteArray} {rep : Bool} {w : World} {f : Nat → Value} {wr : World} {v : Value} {u : List Nat} {i B : Nat} {Q : Exit → Act → World → Prop} (e : TEnv X st s w B) (h : At X st s rep w f wr v u i)
    (hu : u.length ≤ 4398046511104) (hq : EscOut X st s rep w u [13] i Q) :
    (sub B29 [1, 1, 1, 0, 0, 0, 1, 0, 1, 1, 0, 1, 0, 1, 1, 1, 0, 1, 1, 1, 0, 1, 1, 1, 1, 1, 1, 1, 0]).wp Tryz.prog Q (mk 567 f) wr := by
  have hml : s.size ≤ maxLen := by have := e.hs; unfold maxLen; omega
  have hs := e.hs; have hst := e.hst; have hi := h.hi
  conv => arg 2; whnf
  refine fr_seq ?_
  refine fr_region ?_
  refine fr_move (v) h.h11 ?_
  refine fr_build1 13 rfl ?_
  refine fr_append1 w.heap.size u (13) rfl rfl h.row h.hn h.below h.size (by omega) ?_
  intro v9 w1 hrow9 hn9 hb9
  refine fr_assign (v9) rfl ?_
  refine fr_end ?_
  refine to_then ?_
  refine wp_exit ?_
  exact hq.go _ _ _ ⟨h.h0, h.h1, h.h2, h.h3, rfl, h.h12, h.hi, hn9, hrow9, hb9⟩
set_option maxRecDepth 100000 in
theorem esc_simple116 {X st : Nat} {s : ByteArray} {rep : Bool} {w : World} {f : Nat → Value} {wr : World} {v : Value} {u : List Nat} {i B : Nat} {Q : Exit → Act → World → Prop} (e : TEnv X st s w B) (h : At X st s rep w f wr v u i)
    (hu : u.length ≤ 4398046511104) (hq : EscOut X st s rep w u [9] i Q) :
    (sub B29 [1, 1, 1, 0, 0, 0, 1, 0, 1, 1, 0, 1, 0, 1, 1, 1, 0, 1, 1, 1, 0, 1, 1, 1, 1, 1, 1, 1, 1, 1, 0]).wp Tryz.prog Q (mk 567 f) wr := by
  have hml : s.size ≤ maxLen := by have := e.hs; unfold maxLen; omega
  have hs := e.hs; have hst := e.hst; have hi := h.hi
  conv => arg 2; whnf
  refine fr_seq ?_
  refine fr_region ?_
  refine fr_move (v) h.h11 ?_
  refine fr_build1 9 rfl ?_
  refine fr_append1 w.heap.size u (9) rfl rfl h.row h.hn h.below h.size (by omega) ?_
  intro v9 w1 hrow9 hn9 hb9
  refine fr_assign (v9) rfl ?_
  refine fr_end ?_
  refine to_then ?_
  refine wp_exit ?_
  exact hq.go _ _ _ ⟨h.h0, h.h1, h.h2, h.h3, rfl, h.h12, h.hi, hn9, hrow9, hb9⟩
set_option maxRecDepth 100000 in
theorem esc_simple118 {X st : Nat} {s : ByteArray} {rep : Bool} {w : World} {f : Nat → Value} {wr : World} {v : Value} {u : List Nat} {i B : Nat} {Q : Exit → Act → World → Prop} (e : TEnv X st s w B) (h : At X st s rep w f wr v u i)
    (hu : u.length ≤ 4398046511104) (hq : EscOut X st s rep w u [11] i Q) :
    (sub B29 [1, 1, 1, 0, 0, 0, 1, 0, 1, 1, 0, 1, 0, 1, 1, 1, 0, 1, 1, 1, 0, 1, 1, 1, 1, 1, 1, 1, 1, 1, 1, 1, 0]).wp Tryz.prog Q (mk 567 f) wr := by
  have hml : s.size ≤ maxLen := by have := e.hs; unfold maxLen; omega
  have hs := e.hs; have hst := e.hst; have hi := h.hi
  conv => arg 2; whnf
  refine fr_seq ?_
  refine fr_seq ?_
  refine fr_region ?_
  refine fr_move ((.pointer (some ⟨X, 0, none⟩))) h.h0 ?_
  refine fr_nilCheck _ rfl ?_
  refine fr_json X rfl ?_
  refine fr_load_json X 68 2 rfl (h.json e) ?_
  refine fr_eq .u8 79 2 0 false rfl rfl rfl (by exact eqF (by omega)) ?_
  refine fr_end ?_
  refine to_then ?_
  refine fr_false rfl ?_
  refine wp_skip ?_
  refine to_then ?_
  refine fr_seq ?_
  refine fr_region ?_
  refine fr_move (v) h.h11 ?_
  refine fr_build1 11 rfl ?_
  refine fr_append1 w.heap.size u (11) rfl rfl h.row h.hn h.below h.size (by omega) ?_
  intro v9 w1 hrow9 hn9 hb9
  refine fr_assign (v9) rfl ?_
  refine fr_end ?_
  refine to_then ?_
  refine wp_exit ?_
  exact hq.go _ _ _ ⟨h.h0, h.h1, h.h2, h.h3, rfl, h.h12, h.hi, hn9, hrow9, hb9⟩
set_option maxRecDepth 100000 in
theorem esc_line {X st : Nat} {s : ByteArray} {rep : Bool} {w : World} {f : Nat → Value} {wr : World} {v : Value} {u : List Nat} {i B : Nat} {Q : Exit → Act → World → Prop} (e : TEnv X st s w B) (h : At X st s rep w f wr v u i)
    (hq : EscOut X st s rep w u [] i Q) :
    (sub B29 [1, 1, 1, 0, 0, 0, 1, 0, 1, 1, 0, 1, 0, 1, 1, 1, 0, 1, 1, 1, 0, 1, 1, 1, 1, 1, 1, 1, 1, 1, 1, 1, 1, 1, 1, 1, 1, 1, 1, 1, 1, 1, 1, 1, 0]).wp Tryz.prog Q (mk 567 f) wr := by
  have hml : s.size ≤ maxLen := by have := e.hs; unfold maxLen; omega
  have hs := e.hs; have hst := e.hst; have hi := h.hi
  conv => arg 2; whnf
  refine fr_seq ?_
  refine fr_seq ?_
  refine fr_region ?_
  refine fr_move ((.pointer (some ⟨X, 0, none⟩))) h.h0 ?_
  refine fr_nilCheck _ rfl ?_
  refine fr_json X rfl ?_
  refine fr_load_json X 68 2 rfl (h.json e) ?_
  refine fr_eq .u8 79 2 0 false rfl rfl rfl (by exact eqF (by omega)) ?_
  refine fr_end ?_
  refine to_then ?_
  refine fr_false rfl ?_
  refine wp_skip ?_
  refine to_then ?_
  refine wp_exit ?_
  refine hq.go _ _ v ?_
  rw [List.append_nil]
  exact ⟨h.h0, h.h1, h.h2, h.h3, h.h11, h.h12, h.hi, h.hn, h.row, h.below⟩
set_option maxRecDepth 100000 in
theorem esc_cr_a {X st : Nat} {s : ByteArray} {rep : Bool} {w : World} {f : Nat → Value} {wr : World} {v : Value} {u : List Nat} {i B : Nat} {Q : Exit → Act → World → Prop} (e : TEnv X st s w B) (h : At X st s rep w f wr v u i)
    (hlt : i < s.size) (hb : bt s i = 10) (hq : EscOut X st s rep w u [] (i + 1) Q) :
    (sub B29 [1, 1, 1, 0, 0, 0, 1, 0, 1, 1, 0, 1, 0, 1, 1, 1, 0, 1, 1, 1, 0, 1, 1, 1, 1, 1, 1, 1, 1, 1, 1, 1, 1, 1, 1, 1, 1, 1, 1, 1, 1, 1, 0]).wp Tryz.prog Q (mk 567 f) wr := by
  have hml : s.size ≤ maxLen := by have := e.hs; unfold maxLen; omega
  have hs := e.hs; have hst := e.hst; have hi := h.hi
  conv => arg 2; whnf
  refine fr_seq ?_
  refine fr_seq ?_
  refine fr_region ?_
  refine fr_move ((.pointer (some ⟨X, 0, none⟩))) h.h0 ?_
  refine fr_nilCheck _ rfl ?_
  refine fr_json X rfl ?_
  refine fr_load_json X 68 2 rfl (h.json e) ?_
  refine fr_eq .u8 79 2 0 false rfl rfl rfl (by exact eqF (by omega)) ?_
  refine fr_end ?_
  refine to_then ?_
  refine fr_false rfl ?_
  refine wp_skip ?_
  refine to_then ?_
  refine fr_seq ?_
  refine fr_seq ?_
  refine fr_region ?_
  refine fr_move (.int .i64 ((i : Nat) : Int)) h.h12 ?_
  refine fr_move ((.string s)) h.h2 ?_
  refine fr_len s rfl hml ?_
  refine fr_lss .i64 3 ((i : Nat) : Int) ((s.size : Nat) : Int) true rfl rfl rfl (by exact ltT (by omega)) ?_
  refine fr_move (.bool true) rfl ?_
  refine fr_move_g ((.string s)) rfl rfl rfl h.h2 ?_
  refine fr_move_g (.int .i64 ((i : Nat) : Int)) rfl rfl rfl h.h12 ?_
  refine fr_index_g s _ (i) rfl rfl rfl rfl rfl rfl (by omega) hml ?_
  refine fr_eq_g .u8 5 ((bt s (i) : Nat) : Int) 10 true rfl rfl rfl rfl rfl rfl (by exact eqT (by omega)) ?_
  refine fr_pick true (.bool true) rfl rfl ?_
  refine fr_end ?_
  refine to_then ?_
  refine fr_true rfl ?_
  refine fr_region ?_
  refine fr_move (.int .i64 ((i : Nat) : Int)) h.h12 ?_
  refine fr_add .i64 3 ((i : Nat) : Int) 1 ((i + 1 : Nat) : Int) rfl rfl rfl (by exact w64' (by omega) (by omega) (by omega)) ?_
  refine fr_assign (.int .i64 ((i + 1 : Nat) : Int)) rfl ?_
  refine fr_end ?_
  refine to_then ?_
  refine wp_exit ?_
  refine hq.go _ _ v ?_
  rw [List.append_nil]
  exact ⟨h.h0, h.h1, h.h2, h.h3, h.h11, rfl, (by omega), h.hn, h.row, h.below⟩
set_option maxRecDepth 100000 in
theorem esc_cr_b {X st : Nat} {s : ByteArray} {rep : Bool} {w : World} {f : Nat → Value} {wr : World} {v : Value} {u : List Nat} {i B : Nat} {Q : Exit → Act → World → Prop} (e : TEnv X st s w B) (h : At X st s rep w f wr v u i)
    (hlt : i < s.size) (hb : bt s i ≠ 10) (hq : EscOut X st s rep w u [] i Q) :
    (sub B29 [1, 1, 1, 0, 0, 0, 1, 0, 1, 1, 0, 1, 0, 1, 1, 1, 0, 1, 1, 1, 0, 1, 1, 1, 1, 1, 1, 1, 1, 1, 1, 1, 1, 1, 1, 1, 1, 1, 1, 1, 1, 1, 0]).wp Tryz.prog Q (mk 567 f) wr := by
  have hml : s.size ≤ maxLen := by have := e.hs; unfold maxLen; omega
  have hs := e.hs; have hst := e.hst; have hi := h.hi
  conv => arg 2; whnf
  refine fr_seq ?_
  refine fr_seq ?_
  refine fr_region ?_
  refine fr_move ((.pointer (some ⟨X, 0, none⟩))) h.h0 ?_
  refine fr_nilCheck _ rfl ?_
  refine fr_json X rfl ?_
  refine fr_load_json X 68 2 rfl (h.json e) ?_
  refine fr_eq .u8 79 2 0 false rfl rfl rfl (by exact eqF (by omega)) ?_
  refine fr_end ?_
  refine to_then ?_
  refine fr_false rfl ?_
  refine wp_skip ?_
  refine to_then ?_
  refine fr_seq ?_
  refine fr_seq ?_
  refine fr_region ?_
  refine fr_move (.int .i64 ((i : Nat) : Int)) h.h12 ?_
  refine fr_move ((.string s)) h.h2 ?_
  refine fr_len s rfl hml ?_
  refine fr_lss .i64 3 ((i : Nat) : Int) ((s.size : Nat) : Int) true rfl rfl rfl (by exact ltT (by omega)) ?_
  refine fr_move (.bool true) rfl ?_
  refine fr_move_g ((.string s)) rfl rfl rfl h.h2 ?_
  refine fr_move_g (.int .i64 ((i : Nat) : Int)) rfl rfl rfl h.h12 ?_
  refine fr_index_g s _ (i) rfl rfl rfl rfl rfl rfl (by omega) hml ?_
  refine fr_eq_g .u8 5 ((bt s (i) : Nat) : Int) 10 false rfl rfl rfl rfl rfl rfl (by exact eqF (by omega)) ?_
  refine fr_pick true (.bool false) rfl rfl ?_
  refine fr_end ?_
  refine to_then ?_
  refine fr_false rfl ?_
  refine wp_skip ?_
  refine to_then ?_
  refine wp_exit ?_
  refine hq.go _ _ v ?_
  rw [List.append_nil]
  exact ⟨h.h0, h.h1, h.h2, h.h3, h.h11, h.h12, h.hi, h.hn, h.row, h.below⟩
set_option maxRecDepth 100000 in
theorem esc_cr_c {X st : Nat} {s : ByteArray} {rep : Bool} {w : World} {f : Nat → Value} {wr : World} {v : Value} {u : List Nat} {i B : Nat} {Q : Exit → Act → World → Prop} (e : TEnv X st s w B) (h : At X st s rep w f wr v u i)
    (hge : s.size ≤ i) (hq : EscOut X st s rep w u [] i Q) :
    (sub B29 [1, 1, 1, 0, 0, 0, 1, 0, 1, 1, 0, 1, 0, 1, 1, 1, 0, 1, 1, 1, 0, 1, 1, 1, 1, 1, 1, 1, 1, 1, 1, 1, 1, 1, 1, 1, 1, 1, 1, 1, 1, 1, 0]).wp Tryz.prog Q (mk 567 f) wr := by
  have hml : s.size ≤ maxLen := by have := e.hs; unfold maxLen; omega
  have hs := e.hs; have hst := e.hst; have hi := h.hi
  conv => arg 2; whnf
  refine fr_seq ?_
  refine fr_seq ?_
  refine fr_region ?_
  refine fr_move ((.pointer (some ⟨X, 0, none⟩))) h.h0 ?_
  refine fr_nilCheck _ rfl ?_
  refine fr_json X rfl ?_
  refine fr_load_json X 68 2 rfl (h.json e) ?_
  refine fr_eq .u8 79 2 0 false rfl rfl rfl (by exact eqF (by omega)) ?_
  refine fr_end ?_
  refine to_then ?_
  refine fr_false rfl ?_
  refine wp_skip ?_
  refine to_then ?_
  refine fr_seq ?_
  refine fr_seq ?_
  refine fr_region ?_
  refine fr_move (.int .i64 ((i : Nat) : Int)) h.h12 ?_
  refine fr_move ((.string s)) h.h2 ?_
  refine fr_len s rfl hml ?_
  refine fr_lss .i64 3 ((i : Nat) : Int) ((s.size : Nat) : Int) false rfl rfl rfl (by exact ltF (by omega)) ?_
  refine fr_move (.bool false) rfl ?_
  refine fr_skip 4 523 true false rfl rfl rfl rfl ?_
  refine fr_skip 4 523 true false rfl rfl rfl rfl ?_
  refine fr_skip 4 523 true false rfl rfl rfl rfl ?_
  refine fr_skip 4 523 true false rfl rfl rfl rfl ?_
  refine fr_pick false (.bool false) rfl rfl ?_
  refine fr_end ?_
  refine to_then ?_
  refine fr_false rfl ?_
  refine wp_skip ?_
  refine to_then ?_
  refine wp_exit ?_
  refine hq.go _ _ v ?_
  rw [List.append_nil]
  exact ⟨h.h0, h.h1, h.h2, h.h3, h.h11, h.h12, h.hi, h.hn, h.row, h.below⟩
set_option maxRecDepth 100000 in
theorem esc_default {X st : Nat} {s : ByteArray} {rep : Bool} {w : World} {f : Nat → Value} {wr : World} {v : Value} {u : List Nat} {i c2 B : Nat} {Q : Exit → Act → World → Prop} (e : TEnv X st s w B) (h : At X st s rep w f wr v u i)
    (h15 : f 15 = .int .i32 (c2 : Int)) (hc : c2 ≤ 1114111) (hq : EscOut X st s rep w u (unitsOf c2) i Q) :
    (sub B29 [1, 1, 1, 0, 0, 0, 1, 0, 1, 1, 0, 1, 0, 1, 1, 1, 0, 1, 1, 1, 0, 1, 1, 1, 1, 1, 1, 1, 1, 1, 1, 1, 1, 1, 1, 1, 1, 1, 1, 1, 1, 1, 1, 1, 1]).wp Tryz.prog Q (mk 567 f) wr := by
  have hml : s.size ≤ maxLen := by have := e.hs; unfold maxLen; omega
  have hs := e.hs; have hst := e.hst; have hi := h.hi
  conv => arg 2; whnf
  refine fr_seq ?_
  refine fr_seq ?_
  refine fr_region ?_
  refine fr_move ((.pointer (some ⟨X, 0, none⟩))) h.h0 ?_
  refine fr_nilCheck _ rfl ?_
  refine fr_json X rfl ?_
  refine fr_load_json X 68 2 rfl (h.json e) ?_
  refine fr_eq .u8 79 2 0 false rfl rfl rfl (by exact eqF (by omega)) ?_
  refine fr_end ?_
  refine to_then ?_
  refine fr_false rfl ?_
  refine wp_skip ?_
  refine to_then ?_
  refine fr_region ?_
  refine fr_move (.int .i32 ((c2 : Nat) : Int)) h15 ?_
  refine fr_assign (.int .i32 ((c2 : Nat) : Int)) rfl ?_
  refine fr_end ?_
  exact hq.mid _ _ _ c2 ⟨h.h0, h.h1, h.h2, h.h3, h.h11, h.h12, h.hi, h.hn, h.row, h.below⟩ rfl hc rfl
end Go.Proofs.YthknielnhmoobaaGreatDoor
