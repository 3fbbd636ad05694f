/- The walk of Go's decoder of escapes: a part. Printed by gen_tte2.py. -/
import Derived.Test.YthknielnhmoobaaGreatDoorTe
namespace Go.Proofs.YthknielnhmoobaaGreatDoor
open Go.RowKit Go.Lib
set_option maxRecDepth 100000 in
theorem esc_x {X st : Nat} {s : ByteArray} {rep : Bool} {w : World} {f : Nat → Value} {wr : World} {v : Value} {u : List Nat} {i pp q B : Nat} {Q : Exit → Act → World → Prop} (e : TEnv X st s w B) (h : At X st s rep w f wr v u i)
    (hdg : digitsF s 2 i 0 = some (pp, q)) (hpp : pp ≤ 1114111) (hq : EscOut X st s rep w u (unitsOf pp) q Q) :
    (sub B29 [1, 1, 1, 0, 0, 0, 1, 0, 1, 1, 0, 1, 0, 1, 1, 1, 0, 1, 1, 1, 0, 1, 1, 1, 1, 1, 1, 1, 1, 1, 1, 1, 1, 1, 1, 1, 1, 1, 0]).wp Tryz.prog Q (mk 567 f) wr := by
  have hml : s.size ≤ maxLen := by have := e.hs; unfold maxLen; omega
  have hs := e.hs; have hst := e.hst; have hi := h.hi
  conv => arg 2; whnf
  refine fr_seq ?_
  refine fr_seq ?_
  refine fr_region ?_
  refine fr_move ((.pointer (some ⟨X, 0, none⟩))) h.h0 ?_
  refine fr_nilCheck _ rfl ?_
  refine fr_json X rfl ?_
  refine fr_load_json X 68 2 rfl (h.json e) ?_
  refine fr_eq .u8 79 2 0 false rfl rfl rfl (by exact eqF (by omega)) ?_
  refine fr_end ?_
  refine to_then ?_
  refine fr_false rfl ?_
  refine wp_skip ?_
  refine to_then ?_
  refine fr_seq ?_
  refine fr_region ?_
  refine fr_assign (.int .i32 0) rfl ?_
  refine fr_end ?_
  refine to_then ?_
  refine fr_seq ?_
  refine fr_seq ?_
  refine fr_region ?_
  refine fr_assign (.int .i64 0) rfl ?_
  refine fr_end ?_
  refine to_then ?_
  refine wp_block ?_
  refine loop_x e ⟨h.h0, h.h1, h.h2, h.h3, h.h11, h.h12, h.hi, h.hn, h.row, h.below⟩ rfl rfl hdg ?_
  clear h
  intro g w9 h hg25
  refine to_blockX ?_
  refine to_then ?_
  refine fr_region ?_
  refine fr_move (.int .i32 ((pp : Nat) : Int)) hg25 ?_
  refine fr_assign (.int .i32 ((pp : Nat) : Int)) rfl ?_
  refine fr_end ?_
  exact hq.mid _ _ _ pp ⟨h.h0, h.h1, h.h2, h.h3, h.h11, h.h12, h.hi, h.hn, h.row, h.below⟩ rfl hpp rfl
end Go.Proofs.YthknielnhmoobaaGreatDoor
