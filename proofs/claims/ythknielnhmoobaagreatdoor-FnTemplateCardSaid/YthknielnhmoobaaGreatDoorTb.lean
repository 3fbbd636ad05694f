/- The walk of Go's decoder of escapes: a part. Printed by gen_tte2.py. -/
import Derived.Test.YthknielnhmoobaaGreatDoorTt
namespace Go.Proofs.YthknielnhmoobaaGreatDoor
open Go.RowKit Go.Lib
set_option maxRecDepth 100000 in
theorem esc_nul {X st : Nat} {s : ByteArray} {rep : Bool} {w : World} {f : Nat → Value} {wr : World} {v : Value} {u : List Nat} {i c2 c3 n3 B : Nat} {Q : Exit → Act → World → Prop} (e : TEnv X st s w B) (h : At X st s rep w f wr v u i)
    (hc : c2 = 48) (h15 : f 15 = .int .i32 (c2 : Int)) (hi2 : 2 ≤ i) (htxt : s.extract (i - 2) i = ⟨#[92, 48]⟩) (hrn : rn s i = (c3, n3)) (hc3 : c3 < 48 ∨ 57 < c3) (hq : EscOut X st s rep w u [0] i Q) :
    (sub B29 [1, 1, 1, 0, 0, 0, 1, 0, 1, 1, 0, 1, 0, 1, 1, 1, 0, 1, 1, 1, 0, 1, 1, 1, 1, 1, 1, 1, 1, 1, 1, 1, 1, 1, 0]).wp Tryz.prog Q (mk 567 f) wr := by
  have hml : s.size ≤ maxLen := by have := e.hs; unfold maxLen; omega
  have hs := e.hs; have hst := e.hst; have hi := h.hi
  conv => arg 2; whnf
  refine fr_seq ?_
  refine fr_region ?_
  refine fr_move (.int .i64 ((i : Nat) : Int)) h.h12 ?_
  refine fr_sub .i64 3 ((i : Nat) : Int) 2 ((i - 2 : Nat) : Int) rfl rfl rfl (by exact w64' (by omega) (by omega) (by omega)) ?_
  refine fr_assign (.int .i64 ((i - 2 : Nat) : Int)) rfl ?_
  refine fr_end ?_
  refine to_then ?_
  refine fr_seq ?_
  refine fr_seq ?_
  refine fr_region ?_
  refine fr_move ((.pointer (some ⟨X, 0, none⟩))) h.h0 ?_
  refine fr_nilCheck _ rfl ?_
  refine fr_json X rfl ?_
  refine fr_load_json X 68 2 rfl (h.json e) ?_
  refine fr_eq .u8 79 2 0 false rfl rfl rfl (by exact eqF (by omega)) ?_
  refine fr_end ?_
  refine to_then ?_
  refine fr_false rfl ?_
  refine wp_skip ?_
  refine to_then ?_
  refine fr_seq ?_
  refine fr_region ?_
  refine fr_assign (.bool false) rfl ?_
  refine fr_end ?_
  refine to_then ?_
  refine fr_seq ?_
  refine fr_region ?_
  refine fr_move (.int .i32 ((c2 : Nat) : Int)) h15 ?_
  refine fr_sub .i32 21 ((c2 : Nat) : Int) 48 ((0 : Nat) : Int) rfl rfl rfl (by exact w32' (by omega) (by omega) (by omega)) ?_
  refine fr_assign (.int .i32 ((0 : Nat) : Int)) rfl ?_
  refine fr_end ?_
  refine to_then ?_
  refine fr_seq ?_
  refine fr_region ?_
  refine fr_move ((.string s)) h.h2 ?_
  refine fr_move (.int .i64 ((i : Nat) : Int)) h.h12 ?_
  refine fr_slice_from 9 s (i) rfl rfl rfl (by omega) hml ?_
  refine fr_dec s (i) B (c3) (n3) hrn rfl (by omega) (h.tabs e) _ ?_
  intro w1 hb
  replace h := h.world hb
  clear hb
  refine fr_move ((.tuple #[.int .i32 ((c3 : Nat) : Int), .int .i64 ((n3 : Nat) : Int)])) rfl ?_
  refine fr_extract 0 _ (.int .i32 ((c3 : Nat) : Int)) rfl rfl ?_
  refine fr_extract 1 _ (.int .i64 ((n3 : Nat) : Int)) rfl rfl ?_
  refine fr_assign (.int .i32 ((c3 : Nat) : Int)) rfl ?_
  refine fr_assign (.int .i64 ((n3 : Nat) : Int)) rfl ?_
  refine fr_end ?_
  refine to_then ?_
  refine fr_seq ?_
  refine fr_seq ?_
  refine fr_region ?_
  refine fr_move (.int .i32 ((c3 : Nat) : Int)) rfl ?_
  refine fr_end ?_
  refine to_then ?_
  refine wp_block ?_
  refine fr_seq ?_
  refine fr_seq ?_
  refine fr_region ?_
  refine fr_eq .i32 21 ((c3 : Nat) : Int) 48 false rfl rfl rfl (by exact eqF (by omega)) ?_
  refine fr_assign (.bool false) rfl ?_
  refine fr_end ?_
  refine to_then ?_
  refine fr_false rfl ?_
  refine fr_seq ?_
  refine fr_region ?_
  refine fr_eq .i32 21 ((c3 : Nat) : Int) 49 false rfl rfl rfl (by exact eqF (by omega)) ?_
  refine fr_assign (.bool false) rfl ?_
  refine fr_end ?_
  refine to_then ?_
  refine fr_false rfl ?_
  refine fr_seq ?_
  refine fr_region ?_
  refine fr_eq .i32 21 ((c3 : Nat) : Int) 50 false rfl rfl rfl (by exact eqF (by omega)) ?_
  refine fr_assign (.bool false) rfl ?_
  refine fr_end ?_
  refine to_then ?_
  refine fr_false rfl ?_
  refine fr_seq ?_
  refine fr_region ?_
  refine fr_eq .i32 21 ((c3 : Nat) : Int) 51 false rfl rfl rfl (by exact eqF (by omega)) ?_
  refine fr_assign (.bool false) rfl ?_
  refine fr_end ?_
  refine to_then ?_
  refine fr_false rfl ?_
  refine fr_seq ?_
  refine fr_region ?_
  refine fr_eq .i32 21 ((c3 : Nat) : Int) 52 false rfl rfl rfl (by exact eqF (by omega)) ?_
  refine fr_assign (.bool false) rfl ?_
  refine fr_end ?_
  refine to_then ?_
  refine fr_false rfl ?_
  refine fr_seq ?_
  refine fr_region ?_
  refine fr_eq .i32 21 ((c3 : Nat) : Int) 53 false rfl rfl rfl (by exact eqF (by omega)) ?_
  refine fr_assign (.bool false) rfl ?_
  refine fr_end ?_
  refine to_then ?_
  refine fr_false rfl ?_
  refine fr_seq ?_
  refine fr_region ?_
  refine fr_eq .i32 21 ((c3 : Nat) : Int) 54 false rfl rfl rfl (by exact eqF (by omega)) ?_
  refine fr_assign (.bool false) rfl ?_
  refine fr_end ?_
  refine to_then ?_
  refine fr_false rfl ?_
  refine fr_region ?_
  refine fr_eq .i32 21 ((c3 : Nat) : Int) 55 false rfl rfl rfl (by exact eqF (by omega)) ?_
  refine fr_assign (.bool false) rfl ?_
  refine fr_end ?_
  refine to_then ?_
  refine fr_false rfl ?_
  refine fr_seq ?_
  refine fr_seq ?_
  refine fr_region ?_
  refine fr_eq .i32 21 ((c3 : Nat) : Int) 56 false rfl rfl rfl (by exact eqF (by omega)) ?_
  refine fr_assign (.bool false) rfl ?_
  refine fr_end ?_
  refine to_then ?_
  refine fr_false rfl ?_
  refine fr_region ?_
  refine fr_eq .i32 21 ((c3 : Nat) : Int) 57 false rfl rfl rfl (by exact eqF (by omega)) ?_
  refine fr_assign (.bool false) rfl ?_
  refine fr_end ?_
  refine to_then ?_
  refine fr_false rfl ?_
  refine wp_skip ?_
  refine to_blockN ?_
  refine to_then ?_
  refine fr_seq ?_
  refine fr_region ?_
  refine fr_move (.int .i32 ((0 : Nat) : Int)) rfl ?_
  refine fr_assign (.int .i32 ((0 : Nat) : Int)) rfl ?_
  refine fr_end ?_
  refine to_then ?_
  refine fr_seq ?_
  refine fr_region ?_
  refine fr_move (.bool false) rfl ?_
  refine fr_move (.bool false) rfl ?_
  refine fr_move_g ((.string s)) rfl rfl rfl h.h2 ?_
  refine fr_move_g (.int .i64 ((i - 2 : Nat) : Int)) rfl rfl rfl rfl ?_
  refine fr_move_g (.int .i64 ((i : Nat) : Int)) rfl rfl rfl h.h12 ?_
  refine fr_slice_text 9 s (i - 2) (i) rfl rfl rfl rfl (by omega) (by omega) hml rfl rfl rfl ?_
  refine fr_neq_text 9 _ rfl rfl (by exact congrArg Value.string htxt.symm)  rfl rfl rfl ?_
  refine fr_pick false (.bool false) rfl rfl ?_
  refine fr_end ?_
  refine to_then ?_
  refine fr_false rfl ?_
  refine wp_skip ?_
  exact hq.mid _ _ _ 0 ⟨h.h0, h.h1, h.h2, h.h3, h.h11, h.h12, h.hi, h.hn, h.row, h.below⟩ rfl (by omega) rfl
end Go.Proofs.YthknielnhmoobaaGreatDoor
