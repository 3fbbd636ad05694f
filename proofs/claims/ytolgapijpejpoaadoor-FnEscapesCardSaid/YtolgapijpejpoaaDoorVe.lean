/- The walk of Go's decoder of escapes: a part. Printed by gen_tte2.py. -/
import Derived.Test.YtolgapijpejpoaaDoorVd
namespace Go.Proofs.YtolgapijpejpoaaDoor
open Go.RowKit Go.Lib
set_option maxRecDepth 100000 in
theorem esc_wrong {X st : Nat} {s : ByteArray} {w : World} {f : Nat → Value} {wr : World} {v : Value} {u : List Nat} {i B : Nat} {B0 : Nat → Prop} {Q : Exit → Act → World → Prop} (e : TEnv X st s w B) (hb0 : OffAny B0) (h : At X st s true w f wr v u i)
    (h14 : f 14 = .int .i64 ((1 : Nat) : Int)) (h1i : 1 ≤ i) (hA : AreOk X B0 w s) (hst0 : st = 0) (hs6 : s.size ≤ 1048576) (hlts : i < s.size) (hesc : escF s i = .wrong) (hq : WQ B0 w Q) :
    (sub B29 [1, 1, 1, 0, 0, 0, 1, 0, 1, 1, 0, 1, 0, 1, 1, 1, 0]).wp Tryd.prog Q (mk 567 f) wr := by
  have hml : s.size ≤ maxLen := by have := e.hs; unfold maxLen; omega
  have hs := e.hs; have hst := e.hst; have hi := h.hi
  obtain ⟨c2, hrn, hw⟩ := escW_case hesc hlts
  have hle := rn_le (s := s) (i := i) hi
  rw [hrn] at hle
  simp only at hle
  conv => arg 2; whnf
  refine fr_seq ?_
  refine fr_region ?_
  refine fr_move ((.string s)) h.h2 ?_
  refine fr_move (.int .i64 ((i : Nat) : Int)) h.h12 ?_
  refine fr_slice_from 9 s (i) rfl rfl rfl (by omega) hml ?_
  refine fr_dec s (i) B (c2) (1) hrn rfl (by omega) (h.tabs e) _ ?_
  intro w1 hb
  replace h := h.world hb
  clear hb
  refine fr_move ((.tuple #[.int .i32 ((c2 : Nat) : Int), .int .i64 ((1 : Nat) : Int)])) rfl ?_
  refine fr_extract 0 _ (.int .i32 ((c2 : Nat) : Int)) rfl rfl ?_
  refine fr_extract 1 _ (.int .i64 ((1 : Nat) : Int)) rfl rfl ?_
  refine fr_assign (.int .i32 ((c2 : Nat) : Int)) rfl ?_
  refine fr_assign (.int .i64 ((1 : Nat) : Int)) rfl ?_
  refine fr_end ?_
  refine to_then ?_
  refine fr_seq ?_
  refine fr_region ?_
  refine fr_move (.int .i64 ((i : Nat) : Int)) h.h12 ?_
  refine fr_move (.int .i64 ((1 : Nat) : Int)) rfl ?_
  refine fr_add .i64 3 ((i : Nat) : Int) ((1 : Nat) : Int) ((i + 1 : Nat) : Int) rfl rfl rfl (by exact w64' (by omega) (by omega) (by omega)) ?_
  refine fr_assign (.int .i64 ((i + 1 : Nat) : Int)) rfl ?_
  refine fr_end ?_
  refine to_then ?_
  refine fr_seq ?_
  refine fr_region ?_
  refine fr_move (.int .i32 ((c2 : Nat) : Int)) rfl ?_
  refine fr_end ?_
  refine to_then ?_
  rcases hw with ⟨hc2, hdg⟩ | ⟨hc2, hpt⟩
  · exact spine_wx e hb0 ⟨h.h0, h.h1, h.h2, h.h3, h.h11, rfl, hle, h.hn, h.row, h.below⟩ hc2 rfl h14 rfl hdg hq
  · exact spine_wu e hb0 ⟨h.h0, h.h1, h.h2, h.h3, h.h11, rfl, hle, h.hn, h.row, h.below⟩ hc2 rfl h14 rfl hA hst0 hs6 (by omega) hpt hq
set_option maxRecDepth 100000 in
theorem round_wrong {X st : Nat} {s : ByteArray} {w : World} {f : Nat → Value} {wr : World} {v : Value} {u : List Nat} {i c B : Nat} {B0 : Nat → Prop} {Q : Exit → Act → World → Prop} (e : TEnv X st s w B) (hb0 : OffAny B0) (h : At X st s true w f wr v u i)
    (hlt : i < s.size) (hrn : rn s i = (c, 1)) (hc : c = 92) (hA : AreOk X B0 w s) (hst0 : st = 0) (hs6 : s.size ≤ 1048576) (hlt2 : i + 1 < s.size) (hesc : escF s (i + 1) = .wrong) (hq : WQ B0 w Q) :
    (sub B29 [1, 1, 1, 0, 0, 0]).wp Tryd.prog Q (mk 567 f) wr := by
  have hml : s.size ≤ maxLen := by have := e.hs; unfold maxLen; omega
  have hs := e.hs; have hst := e.hst; have hi := h.hi
  conv => arg 2; whnf
  refine fr_seq ?_
  refine fr_seq ?_
  refine fr_region ?_
  refine fr_move (.int .i64 ((i : Nat) : Int)) h.h12 ?_
  refine fr_move ((.string s)) h.h2 ?_
  refine fr_len s rfl hml ?_
  refine fr_lss .i64 3 ((i : Nat) : Int) ((s.size : Nat) : Int) true rfl rfl rfl (by exact ltT (by omega)) ?_
  refine fr_end ?_
  refine to_then ?_
  refine fr_true rfl ?_
  refine wp_skip ?_
  refine to_then ?_
  refine wp_block ?_
  refine fr_seq ?_
  refine fr_region ?_
  refine fr_move ((.string s)) h.h2 ?_
  refine fr_move (.int .i64 ((i : Nat) : Int)) h.h12 ?_
  refine fr_slice_from 9 s (i) rfl rfl rfl (by omega) hml ?_
  refine fr_dec s (i) B (c) (1) hrn rfl (by omega) (h.tabs e) _ ?_
  intro w1 hb
  replace h := h.world hb
  clear hb
  refine fr_move ((.tuple #[.int .i32 ((c : Nat) : Int), .int .i64 ((1 : Nat) : Int)])) rfl ?_
  refine fr_extract 0 _ (.int .i32 ((c : Nat) : Int)) rfl rfl ?_
  refine fr_extract 1 _ (.int .i64 ((1 : Nat) : Int)) rfl rfl ?_
  refine fr_assign (.int .i32 ((c : Nat) : Int)) rfl ?_
  refine fr_assign (.int .i64 ((1 : Nat) : Int)) rfl ?_
  refine fr_end ?_
  refine to_then ?_
  refine fr_seq ?_
  refine fr_region ?_
  refine fr_move (.int .i64 ((i : Nat) : Int)) h.h12 ?_
  refine fr_move (.int .i64 ((1 : Nat) : Int)) rfl ?_
  refine fr_add .i64 3 ((i : Nat) : Int) ((1 : Nat) : Int) ((i + 1 : Nat) : Int) rfl rfl rfl (by exact w64' (by omega) (by omega) (by omega)) ?_
  refine fr_assign (.int .i64 ((i + 1 : Nat) : Int)) rfl ?_
  refine fr_end ?_
  refine to_then ?_
  refine fr_seq ?_
  refine fr_seq ?_
  refine fr_region ?_
  refine fr_move (.int .i32 ((c : Nat) : Int)) rfl ?_
  refine fr_end ?_
  refine to_then ?_
  refine wp_block ?_
  refine fr_seq ?_
  refine fr_region ?_
  refine fr_eq .i32 21 ((c : Nat) : Int) 13 false rfl rfl rfl (by exact eqF (by omega)) ?_
  refine fr_assign (.bool false) rfl ?_
  refine fr_end ?_
  refine to_then ?_
  refine fr_false rfl ?_
  refine fr_seq ?_
  refine fr_region ?_
  refine fr_eq .i32 21 ((c : Nat) : Int) 92 true rfl rfl rfl (by exact eqT (by omega)) ?_
  refine fr_assign (.bool true) rfl ?_
  refine fr_end ?_
  refine to_then ?_
  refine fr_true rfl ?_
  exact esc_wrong e hb0 ⟨h.h0, h.h1, h.h2, h.h3, h.h11, rfl, (by omega), h.hn, h.row, h.below⟩ rfl (by omega) hA hst0 hs6 hlt2 hesc hq.blk.thn.blk
end Go.Proofs.YtolgapijpejpoaaDoor
