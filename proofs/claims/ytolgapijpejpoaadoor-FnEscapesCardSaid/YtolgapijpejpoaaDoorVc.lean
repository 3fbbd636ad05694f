/- The walk of Go's decoder of escapes: a part. Printed by gen_tte2.py. -/
import Derived.Test.YtolgapijpejpoaaDoorVa
import Derived.Test.YtolgapijpejpoaaDoorVb
import Derived.Test.YtolgapijpejpoaaDoorVs
namespace Go.Proofs.YtolgapijpejpoaaDoor
open Go.RowKit Go.Lib
set_option maxRecDepth 100000 in
theorem esc_uw_u {X st : Nat} {s : ByteArray} {w : World} {f : Nat → Value} {wr : World} {v : Value} {u : List Nat} {i c n B : Nat} {B0 : Nat → Prop} {Q : Exit → Act → World → Prop} (e : TEnv X st s w B) (hb0 : OffAny B0) (h : At X st s true w f wr v u i)
    (hc : c ≠ 123) (hrn : rn s i = (c, n)) (hdg : digitsF s 4 i 0 = none) (hq : WQ B0 w Q) :
    (sub B29 [1, 1, 1, 0, 0, 0, 1, 0, 1, 1, 0, 1, 0, 1, 1, 1, 0, 1, 1, 1, 0, 1, 1, 1, 1, 1, 1, 1, 1, 1, 1, 1, 1, 1, 1, 1, 1, 1, 1, 1, 0]).wp Tryd.prog Q (mk 567 f) wr := by
  have hml : s.size ≤ maxLen := by have := e.hs; unfold maxLen; omega
  have hs := e.hs; have hst := e.hst; have hi := h.hi
  have hle := rn_le (s := s) (i := i) hi
  rw [hrn] at hle
  simp only at hle
  conv => arg 2; whnf
  refine fr_seq ?_
  refine fr_region ?_
  refine fr_assign (.int .i32 0) rfl ?_
  refine fr_end ?_
  refine to_then ?_
  refine fr_seq ?_
  refine fr_region ?_
  refine fr_move ((.string s)) h.h2 ?_
  refine fr_move (.int .i64 ((i : Nat) : Int)) h.h12 ?_
  refine fr_slice_from 9 s (i) rfl rfl rfl (by omega) hml ?_
  refine fr_dec s (i) B (c) (n) hrn rfl (by omega) (h.tabs e) _ ?_
  intro w1 hb
  replace h := h.world hb
  clear hb
  refine fr_move ((.tuple #[.int .i32 ((c : Nat) : Int), .int .i64 ((n : Nat) : Int)])) rfl ?_
  refine fr_extract 0 _ (.int .i32 ((c : Nat) : Int)) rfl rfl ?_
  refine fr_extract 1 _ (.int .i64 ((n : Nat) : Int)) rfl rfl ?_
  refine fr_assign (.int .i32 ((c : Nat) : Int)) rfl ?_
  refine fr_assign (.int .i64 ((n : Nat) : Int)) rfl ?_
  refine fr_end ?_
  refine to_then ?_
  refine fr_seq ?_
  refine fr_region ?_
  refine fr_move (.int .i64 ((i : Nat) : Int)) h.h12 ?_
  refine fr_move (.int .i64 ((n : Nat) : Int)) rfl ?_
  refine fr_add .i64 3 ((i : Nat) : Int) ((n : Nat) : Int) ((i + n : Nat) : Int) rfl rfl rfl (by exact w64' (by omega) (by omega) (by omega)) ?_
  refine fr_assign (.int .i64 ((i + n : Nat) : Int)) rfl ?_
  refine fr_end ?_
  refine to_then ?_
  refine fr_seq ?_
  refine fr_seq ?_
  refine fr_region ?_
  refine fr_move (.int .i32 ((c : Nat) : Int)) rfl ?_
  refine fr_eq .i32 21 ((c : Nat) : Int) 123 false rfl rfl rfl (by exact eqF (by omega)) ?_
  refine fr_end ?_
  refine to_then ?_
  refine fr_false rfl ?_
  refine fr_seq ?_
  refine fr_region ?_
  refine fr_assign (.int .i64 0) rfl ?_
  refine fr_end ?_
  refine to_then ?_
  refine wp_block ?_
  exact loop_uw (k0 := i) (c0 := c) (n0 := n) e hb0 ⟨h.h0, h.h1, h.h2, h.h3, h.h11, rfl, (by omega), h.hn, h.row, h.below⟩ rfl rfl rfl rfl hi hrn rfl hdg hq.thn.blk
set_option maxRecDepth 100000 in
theorem esc_uw_b {X st : Nat} {s : ByteArray} {w : World} {f : Nat → Value} {wr : World} {v : Value} {u : List Nat} {i c B : Nat} {B0 : Nat → Prop} {Q : Exit → Act → World → Prop} {k0 : Nat} (e : TEnv X st s w B) (hb0 : OffAny B0) (h : At X st s true w f wr v u i)
    (hc : c = 123) (hst0 : st = 0) (hs6 : s.size ≤ 1048576) (hi2 : 2 ≤ i) (hrn : rn s i = (c, 1)) (h14 : f 14 = .int .i64 ((1 : Nat) : Int)) (h16 : f 16 = .int .i64 ((1 : Nat) : Int)) (hA : AreOk X B0 w s) (hk0 : s.size < i + 1 + k0) (hdg : braceF s k0 (i + 1) 0 true = none) (hq : WQ B0 w Q) :
    (sub B29 [1, 1, 1, 0, 0, 0, 1, 0, 1, 1, 0, 1, 0, 1, 1, 1, 0, 1, 1, 1, 0, 1, 1, 1, 1, 1, 1, 1, 1, 1, 1, 1, 1, 1, 1, 1, 1, 1, 1, 1, 0]).wp Tryd.prog Q (mk 567 f) wr := by
  have hml : s.size ≤ maxLen := by have := e.hs; unfold maxLen; omega
  have hs := e.hs; have hst := e.hst; have hi := h.hi
  have hle := rn_le (s := s) (i := i) hi
  rw [hrn] at hle
  simp only at hle
  conv => arg 2; whnf
  refine fr_seq ?_
  refine fr_region ?_
  refine fr_assign (.int .i32 0) rfl ?_
  refine fr_end ?_
  refine to_then ?_
  refine fr_seq ?_
  refine fr_region ?_
  refine fr_move ((.string s)) h.h2 ?_
  refine fr_move (.int .i64 ((i : Nat) : Int)) h.h12 ?_
  refine fr_slice_from 9 s (i) rfl rfl rfl (by omega) hml ?_
  refine fr_dec s (i) B (c) (1) hrn rfl (by omega) (h.tabs e) _ ?_
  intro w1 hb
  replace h := h.world hb
  clear hb
  refine fr_move ((.tuple #[.int .i32 ((c : Nat) : Int), .int .i64 ((1 : Nat) : Int)])) rfl ?_
  refine fr_extract 0 _ (.int .i32 ((c : Nat) : Int)) rfl rfl ?_
  refine fr_extract 1 _ (.int .i64 ((1 : Nat) : Int)) rfl rfl ?_
  refine fr_assign (.int .i32 ((c : Nat) : Int)) rfl ?_
  refine fr_assign (.int .i64 ((1 : Nat) : Int)) rfl ?_
  refine fr_end ?_
  refine to_then ?_
  refine fr_seq ?_
  refine fr_region ?_
  refine fr_move (.int .i64 ((i : Nat) : Int)) h.h12 ?_
  refine fr_move (.int .i64 ((1 : Nat) : Int)) rfl ?_
  refine fr_add .i64 3 ((i : Nat) : Int) ((1 : Nat) : Int) ((i + 1 : Nat) : Int) rfl rfl rfl (by exact w64' (by omega) (by omega) (by omega)) ?_
  refine fr_assign (.int .i64 ((i + 1 : Nat) : Int)) rfl ?_
  refine fr_end ?_
  refine to_then ?_
  refine fr_seq ?_
  refine fr_seq ?_
  refine fr_region ?_
  refine fr_move (.int .i32 ((c : Nat) : Int)) rfl ?_
  refine fr_eq .i32 21 ((c : Nat) : Int) 123 true rfl rfl rfl (by exact eqT (by omega)) ?_
  refine fr_end ?_
  refine to_then ?_
  refine fr_true rfl ?_
  refine wp_scope_straight ?_
  refine fr_seq ?_
  refine fr_seq ?_
  refine fr_region ?_
  refine fr_move ((.pointer (some ⟨X, 0, none⟩))) h.h0 ?_
  refine fr_nilCheck _ rfl ?_
  refine fr_json X rfl ?_
  refine fr_load_json X 68 2 rfl (h.json e) ?_
  refine fr_eq .u8 96 2 0 false rfl rfl rfl (by exact eqF (by omega)) ?_
  refine fr_end ?_
  refine to_then ?_
  refine fr_false rfl ?_
  refine wp_skip ?_
  refine to_then ?_
  refine fr_seq ?_
  refine fr_region ?_
  refine fr_move (.int .i64 ((i + 1 : Nat) : Int)) rfl ?_
  refine fr_move (.int .i64 ((1 : Nat) : Int)) h14 ?_
  refine fr_sub .i64 3 ((i + 1 : Nat) : Int) ((1 : Nat) : Int) ((i : Nat) : Int) rfl rfl rfl (by exact w64' (by omega) (by omega) (by omega)) ?_
  refine fr_move (.int .i64 ((1 : Nat) : Int)) h16 ?_
  refine fr_sub .i64 3 ((i : Nat) : Int) ((1 : Nat) : Int) ((i - 1 : Nat) : Int) rfl rfl rfl (by exact w64' (by omega) (by omega) (by omega)) ?_
  refine fr_move (.int .i64 ((1 : Nat) : Int)) rfl ?_
  refine fr_sub .i64 3 ((i - 1 : Nat) : Int) ((1 : Nat) : Int) ((i - 2 : Nat) : Int) rfl rfl rfl (by exact w64' (by omega) (by omega) (by omega)) ?_
  refine fr_assign (.int .i64 ((i - 2 : Nat) : Int)) rfl ?_
  refine fr_end ?_
  refine to_then ?_
  refine fr_seq ?_
  refine fr_region ?_
  refine fr_assign (.bool true) rfl ?_
  refine fr_end ?_
  refine to_then ?_
  refine fr_seq ?_
  refine fr_region ?_
  refine fr_assign (.bool false) rfl ?_
  refine fr_end ?_
  refine to_then ?_
  refine fr_seq ?_
  refine wp_label ?_
  refine to_then ?_
  refine fr_seq ?_
  refine wp_block ?_
  refine loop_bw (k0 := k0) (hs0 := i - 2) e hb0 ⟨h.h0, h.h1, h.h2, h.h3, h.h11, rfl, (by omega), h.hn, h.row, h.below⟩ rfl rfl rfl rfl hk0 hdg hq.thn.scp.thn.blk ?_
  clear h
  intro g w9 q h hg32 hg34
  have hqs := h.hi
  refine to_blockX ?_
  refine to_then ?_
  refine fr_seq ?_
  refine fr_region ?_
  refine fr_move (.bool true) hg34 ?_
  refine fr_move (.bool true) rfl ?_
  refine fr_move_g (.bool true) rfl rfl rfl h.h3 ?_
  refine fr_pick true (.bool true) rfl rfl ?_
  refine fr_end ?_
  refine to_then ?_
  refine fr_true rfl ?_
  refine fr_seq ?_
  refine fr_region ?_
  refine fr_move ((.pointer (some ⟨X, 0, none⟩))) h.h0 ?_
  refine fr_move (.int .i64 ((st : Nat) : Int)) h.h1 ?_
  refine fr_move (.int .i64 ((i - 2 : Nat) : Int)) hg32 ?_
  refine fr_add .i64 3 ((st : Nat) : Int) ((i - 2 : Nat) : Int) ((i - 2 : Nat) : Int) rfl rfl rfl (by exact w64' (by omega) (by omega) (by omega)) ?_
  refine fr_conv 3 21 .i64 .i32 _ ((i - 2 : Nat) : Int) rfl rfl rfl (by exact w32' (by omega) (by omega) (by omega)) ?_
  refine fr_build_loc ((i - 2 : Nat) : Int) rfl ?_
  refine fr_move (.int .i64 ((q : Nat) : Int)) h.h12 ?_
  refine fr_move (.int .i64 ((i - 2 : Nat) : Int)) hg32 ?_
  refine fr_sub .i64 3 ((q : Nat) : Int) ((i - 2 : Nat) : Int) ((q : Int) - ((i - 2 : Nat) : Int)) rfl rfl rfl (by exact w64' (by omega) (by omega) (by omega)) ?_
  refine fr_conv 3 21 .i64 .i32 _ (IntKind.i32.wrap ((q : Int) - ((i - 2 : Nat) : Int))) rfl rfl rfl (by exact rfl) ?_
  refine fr_build_rng ((i - 2 : Nat) : Int) (IntKind.i32.wrap ((q : Int) - ((i - 2 : Nat) : Int))) rfl rfl ?_
  refine fr_are (i - 2) _ _ hA h.below (by omega) rfl rfl rfl _ ?_
  intro va wa hba
  refine fr_end ?_
  refine to_then ?_
  refine fr_region ?_
  refine fr_build_lp _ rfl ?_
  refine fr_iface_lp rfl ?_
  refine fr_panic_lp rfl ?_
  exact hq.thn.scp.pan _ _ (((Off.of hb0 h.below)).trans hba)
end Go.Proofs.YtolgapijpejpoaaDoor
