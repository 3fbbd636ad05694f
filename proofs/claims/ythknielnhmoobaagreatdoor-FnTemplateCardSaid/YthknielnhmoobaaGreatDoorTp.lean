/- The walk of Go's decoder of escapes: a part. Printed by gen_tte2.py. -/
import Derived.Test.YthknielnhmoobaaGreatDoorTo
namespace Go.Proofs.YthknielnhmoobaaGreatDoor
open Go.RowKit Go.Lib
set_option maxRecDepth 100000 in
theorem tte_body {X st : Nat} {s : ByteArray} {rep : Bool} {w : World} {f : Nat → Value} {B : Nat} {r : List Nat} {Q : Exit → Act → World → Prop} (e : TEnv X st s w B) (ht : tteF s (s.size + 1) 0 [] = .right r)
    (h0 : f 0 = .pointer (some ⟨X, 0, none⟩)) (h1 : f 1 = .int .i64 st) (h2 : f 2 = .string s) (h3 : f 3 = .bool rep)
    (hq : ∀ g w' v', g 8 = v' → g 9 = .bool true → g 10 = .int .i64 0 → v' ≠ .slice none 0 0 → Row w' w.heap.size v' r → Below w.heap.size w w' → Q .ret (mk 567 g) w') :
    B29.wp Tryz.prog Q (mk 567 f) w := by
  have hs := e.hs
  have hrow : Row (w.alloc (.cells #[] 35)) w.heap.size (.slice (some ⟨w.heap.size, 0, none⟩) 0 0) [] := World.ownsRow_made w #[] 0 (Nat.le_refl _) (by decide) (by simp)
  conv => arg 2; whnf
  refine fr_seq ?_
  refine fr_region ?_
  refine fr_assign ((.slice none 0 0)) rfl ?_
  refine fr_assign (.bool false) rfl ?_
  refine fr_assign (.int .i64 0) rfl ?_
  refine fr_end ?_
  refine to_then ?_
  refine fr_seq ?_
  refine fr_region ?_
  refine fr_build0   ?_
  refine fr_assign ((.slice (some ⟨w.heap.size, 0, none⟩) 0 0)) rfl ?_
  refine fr_end ?_
  refine to_then ?_
  refine fr_seq ?_
  refine fr_region ?_
  refine fr_assign (.int .i64 0) rfl ?_
  refine fr_end ?_
  refine to_then ?_
  refine fr_seq ?_
  refine wp_block ?_
  refine tte_loop (v := .slice (some ⟨w.heap.size, 0, none⟩) 0 0) (u := []) (i := 0) e ⟨h0, h1, h2, h3, rfl, rfl, Nat.zero_le _, by simp, hrow, ((Below.refl _ _).alloc (Nat.le_refl _) _)⟩ (by simp) ht ?_
  clear hrow h0 h1 h2 h3
  intro g w9 v9 h
  refine to_blockX ?_
  refine to_then ?_
  refine fr_seq ?_
  refine fr_region ?_
  refine fr_move (v9) h.h11 ?_
  refine fr_assign (v9) rfl ?_
  refine fr_assign (.bool true) rfl ?_
  refine fr_assign (.int .i64 0) rfl ?_
  refine fr_end ?_
  refine to_then ?_
  refine wp_ret ?_
  exact hq _ _ v9 rfl rfl rfl h.hn h.row h.below
end Go.Proofs.YthknielnhmoobaaGreatDoor
