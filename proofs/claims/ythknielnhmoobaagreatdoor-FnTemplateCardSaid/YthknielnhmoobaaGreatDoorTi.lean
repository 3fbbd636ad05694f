/- The walk of Go's decoder of escapes: a part. Printed by gen_tte2.py. -/
import Derived.Test.YthknielnhmoobaaGreatDoorTg
import Derived.Test.YthknielnhmoobaaGreatDoorTh
namespace Go.Proofs.YthknielnhmoobaaGreatDoor
open Go.RowKit Go.Lib
set_option maxRecDepth 100000 in
theorem esc_u_b {X st : Nat} {s : ByteArray} {rep : Bool} {w : World} {f : Nat → Value} {wr : World} {v : Value} {u : List Nat} {i c n n1 n2 k0 pp q B : Nat} {Q : Exit → Act → World → Prop} (e : TEnv X st s w B) (h : At X st s rep w f wr v u i)
    (hc : c = 123) (hrn : rn s i = (c, n)) (hdg : braceF s k0 (i + n) 0 true = some (pp, q)) (h14 : f 14 = .int .i64 (n1 : Int)) (h16 : f 16 = .int .i64 (n2 : Int)) (hn1 : n1 ≤ s.size) (hn2 : n2 ≤ s.size) (hpp : pp ≤ 1114111) (hq : EscOut X st s rep w u (unitsOf pp) q Q) :
    (sub B29 [1, 1, 1, 0, 0, 0, 1, 0, 1, 1, 0, 1, 0, 1, 1, 1, 0, 1, 1, 1, 0, 1, 1, 1, 1, 1, 1, 1, 1, 1, 1, 1, 1, 1, 1, 1, 1, 1, 1, 1, 0]).wp Tryz.prog Q (mk 567 f) wr := by
  have hml : s.size ≤ maxLen := by have := e.hs; unfold maxLen; omega
  have hs := e.hs; have hst := e.hst; have hi := h.hi
  have hle := rn_le (s := s) (i := i) hi
  rw [hrn] at hle
  simp only at hle
  conv => arg 2; whnf
  refine fr_seq ?_
  refine fr_region ?_
  refine fr_assign (.int .i32 0) rfl ?_
  refine fr_end ?_
  refine to_then ?_
  refine fr_seq ?_
  refine fr_region ?_
  refine fr_move ((.string s)) h.h2 ?_
  refine fr_move (.int .i64 ((i : Nat) : Int)) h.h12 ?_
  refine fr_slice_from 9 s (i) rfl rfl rfl (by omega) hml ?_
  refine fr_dec s (i) B (c) (n) hrn rfl (by omega) (h.tabs e) _ ?_
  intro w1 hb
  replace h := h.world hb
  clear hb
  refine fr_move ((.tuple #[.int .i32 ((c : Nat) : Int), .int .i64 ((n : Nat) : Int)])) rfl ?_
  refine fr_extract 0 _ (.int .i32 ((c : Nat) : Int)) rfl rfl ?_
  refine fr_extract 1 _ (.int .i64 ((n : Nat) : Int)) rfl rfl ?_
  refine fr_assign (.int .i32 ((c : Nat) : Int)) rfl ?_
  refine fr_assign (.int .i64 ((n : Nat) : Int)) rfl ?_
  refine fr_end ?_
  refine to_then ?_
  refine fr_seq ?_
  refine fr_region ?_
  refine fr_move (.int .i64 ((i : Nat) : Int)) h.h12 ?_
  refine fr_move (.int .i64 ((n : Nat) : Int)) rfl ?_
  refine fr_add .i64 3 ((i : Nat) : Int) ((n : Nat) : Int) ((i + n : Nat) : Int) rfl rfl rfl (by exact w64' (by omega) (by omega) (by omega)) ?_
  refine fr_assign (.int .i64 ((i + n : Nat) : Int)) rfl ?_
  refine fr_end ?_
  refine to_then ?_
  refine fr_seq ?_
  refine fr_seq ?_
  refine fr_region ?_
  refine fr_move (.int .i32 ((c : Nat) : Int)) rfl ?_
  refine fr_eq .i32 21 ((c : Nat) : Int) 123 true rfl rfl rfl (by exact eqT (by omega)) ?_
  refine fr_end ?_
  refine to_then ?_
  refine fr_true rfl ?_
  refine wp_scope_straight ?_
  refine fr_seq ?_
  refine fr_seq ?_
  refine fr_region ?_
  refine fr_move ((.pointer (some ⟨X, 0, none⟩))) h.h0 ?_
  refine fr_nilCheck _ rfl ?_
  refine fr_json X rfl ?_
  refine fr_load_json X 68 2 rfl (h.json e) ?_
  refine fr_eq .u8 79 2 0 false rfl rfl rfl (by exact eqF (by omega)) ?_
  refine fr_end ?_
  refine to_then ?_
  refine fr_false rfl ?_
  refine wp_skip ?_
  refine to_then ?_
  refine fr_seq ?_
  refine fr_region ?_
  refine fr_move (.int .i64 ((i + n : Nat) : Int)) rfl ?_
  refine fr_move (.int .i64 ((n1 : Nat) : Int)) h14 ?_
  refine fr_sub .i64 3 ((i + n : Nat) : Int) ((n1 : Nat) : Int) (((i + n : Nat) : Int) - ((n1 : Nat) : Int)) rfl rfl rfl (by exact w64' (by omega) (by omega) (by omega)) ?_
  refine fr_move (.int .i64 ((n2 : Nat) : Int)) h16 ?_
  refine fr_sub .i64 3 (((i + n : Nat) : Int) - ((n1 : Nat) : Int)) ((n2 : Nat) : Int) ((((i + n : Nat) : Int) - ((n1 : Nat) : Int)) - ((n2 : Nat) : Int)) rfl rfl rfl (by exact w64' (by omega) (by omega) (by omega)) ?_
  refine fr_move (.int .i64 ((n : Nat) : Int)) rfl ?_
  refine fr_sub .i64 3 ((((i + n : Nat) : Int) - ((n1 : Nat) : Int)) - ((n2 : Nat) : Int)) ((n : Nat) : Int) (((((i + n : Nat) : Int) - ((n1 : Nat) : Int)) - ((n2 : Nat) : Int)) - ((n : Nat) : Int)) rfl rfl rfl (by exact w64' (by omega) (by omega) (by omega)) ?_
  refine fr_assign (.int .i64 (((((i + n : Nat) : Int) - ((n1 : Nat) : Int)) - ((n2 : Nat) : Int)) - ((n : Nat) : Int))) rfl ?_
  refine fr_end ?_
  refine to_then ?_
  refine fr_seq ?_
  refine fr_region ?_
  refine fr_assign (.bool true) rfl ?_
  refine fr_end ?_
  refine to_then ?_
  refine fr_seq ?_
  refine fr_region ?_
  refine fr_assign (.bool false) rfl ?_
  refine fr_end ?_
  refine to_then ?_
  refine fr_seq ?_
  refine wp_label ?_
  refine to_then ?_
  refine fr_seq ?_
  refine wp_block ?_
  refine loop_b e ⟨h.h0, h.h1, h.h2, h.h3, h.h11, rfl, (by omega), h.hn, h.row, h.below⟩ rfl rfl rfl hdg ?_
  clear h
  intro g w9 h hg29 hg34
  refine to_blockX ?_
  refine to_then ?_
  refine fr_seq ?_
  refine fr_region ?_
  refine fr_move (.bool false) hg34 ?_
  refine fr_move (.bool false) rfl ?_
  refine fr_skip 1 425 true false rfl rfl rfl rfl ?_
  refine fr_pick false (.bool false) rfl rfl ?_
  refine fr_end ?_
  refine to_then ?_
  refine fr_false rfl ?_
  refine wp_skip ?_
  refine to_scopeN ?_
  refine to_then ?_
  refine fr_region ?_
  refine fr_move (.int .i32 ((pp : Nat) : Int)) hg29 ?_
  refine fr_assign (.int .i32 ((pp : Nat) : Int)) rfl ?_
  refine fr_end ?_
  exact hq.mid _ _ _ pp ⟨h.h0, h.h1, h.h2, h.h3, h.h11, h.h12, h.hi, h.hn, h.row, h.below⟩ rfl hpp rfl
set_option maxRecDepth 100000 in
theorem esc_u_u {X st : Nat} {s : ByteArray} {rep : Bool} {w : World} {f : Nat → Value} {wr : World} {v : Value} {u : List Nat} {i c n pp q B : Nat} {Q : Exit → Act → World → Prop} (e : TEnv X st s w B) (h : At X st s rep w f wr v u i)
    (hc : c ≠ 123) (hrn : rn s i = (c, n)) (hdg : digitsF s 4 i 0 = some (pp, q)) (hpp : pp ≤ 1114111) (hq : EscOut X st s rep w u (unitsOf pp) q Q) :
    (sub B29 [1, 1, 1, 0, 0, 0, 1, 0, 1, 1, 0, 1, 0, 1, 1, 1, 0, 1, 1, 1, 0, 1, 1, 1, 1, 1, 1, 1, 1, 1, 1, 1, 1, 1, 1, 1, 1, 1, 1, 1, 0]).wp Tryz.prog Q (mk 567 f) wr := by
  have hml : s.size ≤ maxLen := by have := e.hs; unfold maxLen; omega
  have hs := e.hs; have hst := e.hst; have hi := h.hi
  have hle := rn_le (s := s) (i := i) hi
  rw [hrn] at hle
  simp only at hle
  conv => arg 2; whnf
  refine fr_seq ?_
  refine fr_region ?_
  refine fr_assign (.int .i32 0) rfl ?_
  refine fr_end ?_
  refine to_then ?_
  refine fr_seq ?_
  refine fr_region ?_
  refine fr_move ((.string s)) h.h2 ?_
  refine fr_move (.int .i64 ((i : Nat) : Int)) h.h12 ?_
  refine fr_slice_from 9 s (i) rfl rfl rfl (by omega) hml ?_
  refine fr_dec s (i) B (c) (n) hrn rfl (by omega) (h.tabs e) _ ?_
  intro w1 hb
  replace h := h.world hb
  clear hb
  refine fr_move ((.tuple #[.int .i32 ((c : Nat) : Int), .int .i64 ((n : Nat) : Int)])) rfl ?_
  refine fr_extract 0 _ (.int .i32 ((c : Nat) : Int)) rfl rfl ?_
  refine fr_extract 1 _ (.int .i64 ((n : Nat) : Int)) rfl rfl ?_
  refine fr_assign (.int .i32 ((c : Nat) : Int)) rfl ?_
  refine fr_assign (.int .i64 ((n : Nat) : Int)) rfl ?_
  refine fr_end ?_
  refine to_then ?_
  refine fr_seq ?_
  refine fr_region ?_
  refine fr_move (.int .i64 ((i : Nat) : Int)) h.h12 ?_
  refine fr_move (.int .i64 ((n : Nat) : Int)) rfl ?_
  refine fr_add .i64 3 ((i : Nat) : Int) ((n : Nat) : Int) ((i + n : Nat) : Int) rfl rfl rfl (by exact w64' (by omega) (by omega) (by omega)) ?_
  refine fr_assign (.int .i64 ((i + n : Nat) : Int)) rfl ?_
  refine fr_end ?_
  refine to_then ?_
  refine fr_seq ?_
  refine fr_seq ?_
  refine fr_region ?_
  refine fr_move (.int .i32 ((c : Nat) : Int)) rfl ?_
  refine fr_eq .i32 21 ((c : Nat) : Int) 123 false rfl rfl rfl (by exact eqF (by omega)) ?_
  refine fr_end ?_
  refine to_then ?_
  refine fr_false rfl ?_
  refine fr_seq ?_
  refine fr_region ?_
  refine fr_assign (.int .i64 0) rfl ?_
  refine fr_end ?_
  refine to_then ?_
  refine wp_block ?_
  refine loop_u (k0 := i) (c0 := c) (n0 := n) e ⟨h.h0, h.h1, h.h2, h.h3, h.h11, rfl, (by omega), h.hn, h.row, h.below⟩ rfl rfl rfl hi hrn rfl hdg ?_
  clear h
  intro g w9 h hg29
  refine to_blockX ?_
  refine to_then ?_
  refine fr_region ?_
  refine fr_move (.int .i32 ((pp : Nat) : Int)) hg29 ?_
  refine fr_assign (.int .i32 ((pp : Nat) : Int)) rfl ?_
  refine fr_end ?_
  exact hq.mid _ _ _ pp ⟨h.h0, h.h1, h.h2, h.h3, h.h11, h.h12, h.hi, h.hn, h.row, h.below⟩ rfl hpp rfl
end Go.Proofs.YthknielnhmoobaaGreatDoor
