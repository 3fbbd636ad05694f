/- The walk of Go's decoder of escapes: a part. Printed by gen_tte2.py. -/
import Derived.Test.YthknielnhmoobaaGreatDoorTt
namespace Go.Proofs.YthknielnhmoobaaGreatDoor
open Go.RowKit Go.Lib
set_option maxRecDepth 100000 in
theorem tail_a {X st : Nat} {s : ByteArray} {rep : Bool} {w : World} {f : Nat → Value} {wr : World} {v : Value} {u : List Nat} {i c B : Nat} {Q : Exit → Act → World → Prop} (e : TEnv X st s w B) (h : At X st s rep w f wr v u i)
    (h13 : f 13 = .int .i32 (c : Int)) (hc : c ≤ 1114111) (hbig : c ≤ 65535) (hu : u.length ≤ 4398046511104) (hq : ∀ g w' v', At X st s rep w g w' v' (u ++ unitsOf c) i → Q .normal (mk 567 g) w') :
    (sub B29 [1, 1, 1, 0, 0, 0, 1, 0, 1, 1, 1]).wp Tryz.prog Q (mk 567 f) wr := by
  have hml : s.size ≤ maxLen := by have := e.hs; unfold maxLen; omega
  have hs := e.hs; have hst := e.hst; have hi := h.hi
  conv => arg 2; whnf
  refine fr_seq ?_
  refine fr_region ?_
  refine fr_move (.int .i32 ((c : Nat) : Int)) h13 ?_
  refine fr_leq .i32 21 ((c : Nat) : Int) 65535 true rfl rfl rfl (by exact leT (by omega)) ?_
  refine fr_end ?_
  refine to_then ?_
  refine fr_true rfl ?_
  refine fr_region ?_
  refine fr_move (v) h.h11 ?_
  refine fr_move (.int .i32 ((c : Nat) : Int)) h13 ?_
  refine fr_conv 21 35 .i32 .u16 _ ((c : Nat) : Int) rfl rfl rfl (by exact wu16' (by omega) (by omega) (by omega)) ?_
  refine fr_build1 ((c : Nat) : Int) rfl ?_
  refine fr_append1 w.heap.size u (c) rfl rfl h.row h.hn h.below h.size (by omega) ?_
  intro v9 w1 hrow9 hn9 hb9
  refine fr_assign (v9) rfl ?_
  refine fr_end ?_
  have hun : unitsOf c = [c] := by unfold unitsOf; rw [if_neg (by omega)]
  refine hq _ _ v9 ?_
  rw [hun]
  exact ⟨h.h0, h.h1, h.h2, h.h3, rfl, h.h12, h.hi, hn9, hrow9, hb9⟩
set_option maxRecDepth 100000 in
theorem tail_b {X st : Nat} {s : ByteArray} {rep : Bool} {w : World} {f : Nat → Value} {wr : World} {v : Value} {u : List Nat} {i c B : Nat} {Q : Exit → Act → World → Prop} (e : TEnv X st s w B) (h : At X st s rep w f wr v u i)
    (h13 : f 13 = .int .i32 (c : Int)) (hc : c ≤ 1114111) (hbig : 65535 < c) (hu : u.length ≤ 4398046511104) (hq : ∀ g w' v', At X st s rep w g w' v' (u ++ unitsOf c) i → Q .normal (mk 567 g) w') :
    (sub B29 [1, 1, 1, 0, 0, 0, 1, 0, 1, 1, 1]).wp Tryz.prog Q (mk 567 f) wr := by
  have hml : s.size ≤ maxLen := by have := e.hs; unfold maxLen; omega
  have hs := e.hs; have hst := e.hst; have hi := h.hi
  conv => arg 2; whnf
  refine fr_seq ?_
  refine fr_region ?_
  refine fr_move (.int .i32 ((c : Nat) : Int)) h13 ?_
  refine fr_leq .i32 21 ((c : Nat) : Int) 65535 false rfl rfl rfl (by exact leF (by omega)) ?_
  refine fr_end ?_
  refine to_then ?_
  refine fr_false rfl ?_
  refine fr_seq ?_
  refine fr_region ?_
  refine fr_move (.int .i32 ((c : Nat) : Int)) h13 ?_
  refine fr_sub .i32 21 ((c : Nat) : Int) 65536 ((c - 65536 : Nat) : Int) rfl rfl rfl (by exact w32' (by omega) (by omega) (by omega)) ?_
  refine fr_assign (.int .i32 ((c - 65536 : Nat) : Int)) rfl ?_
  refine fr_end ?_
  refine to_then ?_
  refine fr_region ?_
  refine fr_move (v) h.h11 ?_
  refine fr_move (.int .i32 ((c - 65536 : Nat) : Int)) rfl ?_
  refine fr_shr10 21 ((c - 65536 : Nat) : Int) (((c - 65536) / 1024 : Nat) : Int) rfl rfl rfl (by omega) (by omega) (by omega) 97 rfl ?_
  refine fr_and .i32 21 (((c - 65536) / 1024 : Nat) : Int) 1023 (((c - 65536) / 1024 : Nat) : Int) rfl rfl rfl (by exact by rw [i32_and1023 _ (by omega) (by omega)]; omega) ?_
  refine fr_add .i32 21 55296 (((c - 65536) / 1024 : Nat) : Int) ((55296 + (c - 65536) / 1024 : Nat) : Int) rfl rfl rfl (by exact w32' (by omega) (by omega) (by omega)) ?_
  refine fr_conv 21 35 .i32 .u16 _ ((55296 + (c - 65536) / 1024 : Nat) : Int) rfl rfl rfl (by exact wu16' (by omega) (by omega) (by omega)) ?_
  refine fr_move (.int .i32 ((c - 65536 : Nat) : Int)) rfl ?_
  refine fr_and .i32 21 ((c - 65536 : Nat) : Int) 1023 (((c - 65536) % 1024 : Nat) : Int) rfl rfl rfl (by exact by rw [i32_and1023 _ (by omega) (by omega)]; omega) ?_
  refine fr_add .i32 21 56320 (((c - 65536) % 1024 : Nat) : Int) ((56320 + (c - 65536) % 1024 : Nat) : Int) rfl rfl rfl (by exact w32' (by omega) (by omega) (by omega)) ?_
  refine fr_conv 21 35 .i32 .u16 _ ((56320 + (c - 65536) % 1024 : Nat) : Int) rfl rfl rfl (by exact wu16' (by omega) (by omega) (by omega)) ?_
  refine fr_build2 ((55296 + (c - 65536) / 1024 : Nat) : Int) ((56320 + (c - 65536) % 1024 : Nat) : Int) rfl rfl ?_
  refine fr_append2 w.heap.size u (55296 + (c - 65536) / 1024) (56320 + (c - 65536) % 1024) rfl rfl h.row h.hn h.below h.size (by omega) ?_
  intro v9 w1 hrow9 hn9 hb9
  refine fr_assign (v9) rfl ?_
  refine fr_end ?_
  have hun : unitsOf c = [55296 + (c - 65536) / 1024, 56320 + (c - 65536) % 1024] := by unfold unitsOf; rw [if_pos (by omega)]
  refine hq _ _ v9 ?_
  rw [hun]
  exact ⟨h.h0, h.h1, h.h2, h.h3, rfl, h.h12, h.hi, hn9, hrow9, hb9⟩
theorem tail {X st : Nat} {s : ByteArray} {rep : Bool} {w : World} {f : Nat → Value} {wr : World} {v : Value} {u : List Nat} {i c B : Nat} {Q : Exit → Act → World → Prop} (e : TEnv X st s w B) (h : At X st s rep w f wr v u i) (h13 : f 13 = .int .i32 (c : Int)) (hc : c ≤ 1114111) (hu : u.length ≤ 4398046511104) (hq : ∀ g w' v', At X st s rep w g w' v' (u ++ unitsOf c) i → Q .normal (mk 567 g) w') :
    (sub B29 [1, 1, 1, 0, 0, 0, 1, 0, 1, 1, 1]).wp Tryz.prog Q (mk 567 f) wr := by
  by_cases hbig : 65535 < c
  · exact tail_b e h h13 hc hbig hu hq
  · exact tail_a e h h13 hc (by omega) hu hq
end Go.Proofs.YthknielnhmoobaaGreatDoor
