/- The walk of Go's decoder of escapes: a part. Printed by gen_tte2.py. -/
import Derived.Test.YtolgapijpejpoaaDoorVw
namespace Go.Proofs.YtolgapijpejpoaaDoor
open Go.RowKit Go.Lib
set_option maxRecDepth 100000 in
theorem hex12any_0 {w : World} {f : Nat → Value} {c d : Nat} {y : Int} {Q : Exit → Act → World → Prop} (hsw : f 366 = .int .i32 (c : Int)) (hvar : f 30 = .int .i32 (c : Int)) (hval : f 29 = .int .i32 y) (h1 : 48 ≤ c) (h2 : c ≤ 57) (hd : d + 48 = c)
    (hq : ∀ g (z : Int), Keep (fun k => Nat.beq k 29 || (Nat.ble 372 k && Nat.ble k 413)) f g → g 29 = .int .i32 z → Q .normal (mk 567 g) w) :
    (sub B29 [1, 1, 1, 0, 0, 0, 1, 0, 1, 1, 0, 1, 0, 1, 1, 1, 0, 1, 1, 1, 0, 1, 1, 1, 1, 1, 1, 1, 1, 1, 1, 1, 1, 1, 1, 1, 1, 1, 1, 1, 0, 1, 1, 1, 0, 1, 0, 0, 1, 1, 1, 1, 1, 0, 0, 0, 0, 1, 1, 0, 1]).wp Tryd.prog Q (mk 567 f) w := by
  conv => arg 2; whnf
  refine wp_block ?_
  refine fr_seq ?_
  refine fr_seq ?_
  refine fr_region ?_
  by_cases hc48 : c = 48
  · refine fr_eq .i32 21 ((c : Nat) : Int) 48 true rfl hsw rfl (by exact eqT (by omega)) ?_
    refine fr_assign (.bool true) rfl ?_
    refine fr_end ?_
    refine to_then ?_
    refine fr_true rfl ?_
    refine wp_skip ?_
    refine to_then ?_
    refine fr_true rfl ?_
    refine fr_region ?_
    refine fr_move (.int .i32 (y)) hval ?_
    refine fr_mul .i32 21 (y) 16 (IntKind.i32.wrap (y * 16)) rfl rfl rfl (by exact rfl) ?_
    refine fr_move (.int .i32 ((c : Nat) : Int)) hvar ?_
    refine fr_sub .i32 21 ((c : Nat) : Int) 48 ((d : Nat) : Int) rfl rfl rfl (by exact w32' (by omega) (by omega) (by omega)) ?_
    refine fr_or .i32 21 (IntKind.i32.wrap (y * 16)) ((d : Nat) : Int) (bits .or .i32 (IntKind.i32.wrap (y * 16)) ((d : Nat) : Int)) rfl rfl rfl (by exact rfl) ?_
    refine fr_assign (.int .i32 (bits .or .i32 (IntKind.i32.wrap (y * 16)) ((d : Nat) : Int))) rfl ?_
    refine fr_end ?_
    refine to_blockN ?_
    exact hq _ _ (((((((((Keep.refl _ _).upd rfl).upd rfl).upd rfl).upd rfl).upd rfl).upd rfl).upd rfl).upd rfl) rfl
  refine fr_eq .i32 21 ((c : Nat) : Int) 48 false rfl hsw rfl (by exact eqF (by omega)) ?_
  refine fr_assign (.bool false) rfl ?_
  refine fr_end ?_
  refine to_then ?_
  refine fr_false rfl ?_
  refine fr_seq ?_
  refine fr_region ?_
  by_cases hc49 : c = 49
  · refine fr_eq .i32 21 ((c : Nat) : Int) 49 true rfl hsw rfl (by exact eqT (by omega)) ?_
    refine fr_assign (.bool true) rfl ?_
    refine fr_end ?_
    refine to_then ?_
    refine fr_true rfl ?_
    refine wp_skip ?_
    refine to_then ?_
    refine fr_true rfl ?_
    refine fr_region ?_
    refine fr_move (.int .i32 (y)) hval ?_
    refine fr_mul .i32 21 (y) 16 (IntKind.i32.wrap (y * 16)) rfl rfl rfl (by exact rfl) ?_
    refine fr_move (.int .i32 ((c : Nat) : Int)) hvar ?_
    refine fr_sub .i32 21 ((c : Nat) : Int) 48 ((d : Nat) : Int) rfl rfl rfl (by exact w32' (by omega) (by omega) (by omega)) ?_
    refine fr_or .i32 21 (IntKind.i32.wrap (y * 16)) ((d : Nat) : Int) (bits .or .i32 (IntKind.i32.wrap (y * 16)) ((d : Nat) : Int)) rfl rfl rfl (by exact rfl) ?_
    refine fr_assign (.int .i32 (bits .or .i32 (IntKind.i32.wrap (y * 16)) ((d : Nat) : Int))) rfl ?_
    refine fr_end ?_
    refine to_blockN ?_
    exact hq _ _ (((((((((((Keep.refl _ _).upd rfl).upd rfl).upd rfl).upd rfl).upd rfl).upd rfl).upd rfl).upd rfl).upd rfl).upd rfl) rfl
  refine fr_eq .i32 21 ((c : Nat) : Int) 49 false rfl hsw rfl (by exact eqF (by omega)) ?_
  refine fr_assign (.bool false) rfl ?_
  refine fr_end ?_
  refine to_then ?_
  refine fr_false rfl ?_
  refine fr_seq ?_
  refine fr_region ?_
  by_cases hc50 : c = 50
  · refine fr_eq .i32 21 ((c : Nat) : Int) 50 true rfl hsw rfl (by exact eqT (by omega)) ?_
    refine fr_assign (.bool true) rfl ?_
    refine fr_end ?_
    refine to_then ?_
    refine fr_true rfl ?_
    refine wp_skip ?_
    refine to_then ?_
    refine fr_true rfl ?_
    refine fr_region ?_
    refine fr_move (.int .i32 (y)) hval ?_
    refine fr_mul .i32 21 (y) 16 (IntKind.i32.wrap (y * 16)) rfl rfl rfl (by exact rfl) ?_
    refine fr_move (.int .i32 ((c : Nat) : Int)) hvar ?_
    refine fr_sub .i32 21 ((c : Nat) : Int) 48 ((d : Nat) : Int) rfl rfl rfl (by exact w32' (by omega) (by omega) (by omega)) ?_
    refine fr_or .i32 21 (IntKind.i32.wrap (y * 16)) ((d : Nat) : Int) (bits .or .i32 (IntKind.i32.wrap (y * 16)) ((d : Nat) : Int)) rfl rfl rfl (by exact rfl) ?_
    refine fr_assign (.int .i32 (bits .or .i32 (IntKind.i32.wrap (y * 16)) ((d : Nat) : Int))) rfl ?_
    refine fr_end ?_
    refine to_blockN ?_
    exact hq _ _ (((((((((((((Keep.refl _ _).upd rfl).upd rfl).upd rfl).upd rfl).upd rfl).upd rfl).upd rfl).upd rfl).upd rfl).upd rfl).upd rfl).upd rfl) rfl
  refine fr_eq .i32 21 ((c : Nat) : Int) 50 false rfl hsw rfl (by exact eqF (by omega)) ?_
  refine fr_assign (.bool false) rfl ?_
  refine fr_end ?_
  refine to_then ?_
  refine fr_false rfl ?_
  refine fr_seq ?_
  refine fr_region ?_
  by_cases hc51 : c = 51
  · refine fr_eq .i32 21 ((c : Nat) : Int) 51 true rfl hsw rfl (by exact eqT (by omega)) ?_
    refine fr_assign (.bool true) rfl ?_
    refine fr_end ?_
    refine to_then ?_
    refine fr_true rfl ?_
    refine wp_skip ?_
    refine to_then ?_
    refine fr_true rfl ?_
    refine fr_region ?_
    refine fr_move (.int .i32 (y)) hval ?_
    refine fr_mul .i32 21 (y) 16 (IntKind.i32.wrap (y * 16)) rfl rfl rfl (by exact rfl) ?_
    refine fr_move (.int .i32 ((c : Nat) : Int)) hvar ?_
    refine fr_sub .i32 21 ((c : Nat) : Int) 48 ((d : Nat) : Int) rfl rfl rfl (by exact w32' (by omega) (by omega) (by omega)) ?_
    refine fr_or .i32 21 (IntKind.i32.wrap (y * 16)) ((d : Nat) : Int) (bits .or .i32 (IntKind.i32.wrap (y * 16)) ((d : Nat) : Int)) rfl rfl rfl (by exact rfl) ?_
    refine fr_assign (.int .i32 (bits .or .i32 (IntKind.i32.wrap (y * 16)) ((d : Nat) : Int))) rfl ?_
    refine fr_end ?_
    refine to_blockN ?_
    exact hq _ _ (((((((((((((((Keep.refl _ _).upd rfl).upd rfl).upd rfl).upd rfl).upd rfl).upd rfl).upd rfl).upd rfl).upd rfl).upd rfl).upd rfl).upd rfl).upd rfl).upd rfl) rfl
  refine fr_eq .i32 21 ((c : Nat) : Int) 51 false rfl hsw rfl (by exact eqF (by omega)) ?_
  refine fr_assign (.bool false) rfl ?_
  refine fr_end ?_
  refine to_then ?_
  refine fr_false rfl ?_
  refine fr_seq ?_
  refine fr_region ?_
  by_cases hc52 : c = 52
  · refine fr_eq .i32 21 ((c : Nat) : Int) 52 true rfl hsw rfl (by exact eqT (by omega)) ?_
    refine fr_assign (.bool true) rfl ?_
    refine fr_end ?_
    refine to_then ?_
    refine fr_true rfl ?_
    refine wp_skip ?_
    refine to_then ?_
    refine fr_true rfl ?_
    refine fr_region ?_
    refine fr_move (.int .i32 (y)) hval ?_
    refine fr_mul .i32 21 (y) 16 (IntKind.i32.wrap (y * 16)) rfl rfl rfl (by exact rfl) ?_
    refine fr_move (.int .i32 ((c : Nat) : Int)) hvar ?_
    refine fr_sub .i32 21 ((c : Nat) : Int) 48 ((d : Nat) : Int) rfl rfl rfl (by exact w32' (by omega) (by omega) (by omega)) ?_
    refine fr_or .i32 21 (IntKind.i32.wrap (y * 16)) ((d : Nat) : Int) (bits .or .i32 (IntKind.i32.wrap (y * 16)) ((d : Nat) : Int)) rfl rfl rfl (by exact rfl) ?_
    refine fr_assign (.int .i32 (bits .or .i32 (IntKind.i32.wrap (y * 16)) ((d : Nat) : Int))) rfl ?_
    refine fr_end ?_
    refine to_blockN ?_
    exact hq _ _ (((((((((((((((((Keep.refl _ _).upd rfl).upd rfl).upd rfl).upd rfl).upd rfl).upd rfl).upd rfl).upd rfl).upd rfl).upd rfl).upd rfl).upd rfl).upd rfl).upd rfl).upd rfl).upd rfl) rfl
  refine fr_eq .i32 21 ((c : Nat) : Int) 52 false rfl hsw rfl (by exact eqF (by omega)) ?_
  refine fr_assign (.bool false) rfl ?_
  refine fr_end ?_
  refine to_then ?_
  refine fr_false rfl ?_
  refine fr_seq ?_
  refine fr_region ?_
  by_cases hc53 : c = 53
  · refine fr_eq .i32 21 ((c : Nat) : Int) 53 true rfl hsw rfl (by exact eqT (by omega)) ?_
    refine fr_assign (.bool true) rfl ?_
    refine fr_end ?_
    refine to_then ?_
    refine fr_true rfl ?_
    refine wp_skip ?_
    refine to_then ?_
    refine fr_true rfl ?_
    refine fr_region ?_
    refine fr_move (.int .i32 (y)) hval ?_
    refine fr_mul .i32 21 (y) 16 (IntKind.i32.wrap (y * 16)) rfl rfl rfl (by exact rfl) ?_
    refine fr_move (.int .i32 ((c : Nat) : Int)) hvar ?_
    refine fr_sub .i32 21 ((c : Nat) : Int) 48 ((d : Nat) : Int) rfl rfl rfl (by exact w32' (by omega) (by omega) (by omega)) ?_
    refine fr_or .i32 21 (IntKind.i32.wrap (y * 16)) ((d : Nat) : Int) (bits .or .i32 (IntKind.i32.wrap (y * 16)) ((d : Nat) : Int)) rfl rfl rfl (by exact rfl) ?_
    refine fr_assign (.int .i32 (bits .or .i32 (IntKind.i32.wrap (y * 16)) ((d : Nat) : Int))) rfl ?_
    refine fr_end ?_
    refine to_blockN ?_
    exact hq _ _ (((((((((((((((((((Keep.refl _ _).upd rfl).upd rfl).upd rfl).upd rfl).upd rfl).upd rfl).upd rfl).upd rfl).upd rfl).upd rfl).upd rfl).upd rfl).upd rfl).upd rfl).upd rfl).upd rfl).upd rfl).upd rfl) rfl
  refine fr_eq .i32 21 ((c : Nat) : Int) 53 false rfl hsw rfl (by exact eqF (by omega)) ?_
  refine fr_assign (.bool false) rfl ?_
  refine fr_end ?_
  refine to_then ?_
  refine fr_false rfl ?_
  refine fr_seq ?_
  refine fr_region ?_
  by_cases hc54 : c = 54
  · refine fr_eq .i32 21 ((c : Nat) : Int) 54 true rfl hsw rfl (by exact eqT (by omega)) ?_
    refine fr_assign (.bool true) rfl ?_
    refine fr_end ?_
    refine to_then ?_
    refine fr_true rfl ?_
    refine wp_skip ?_
    refine to_then ?_
    refine fr_true rfl ?_
    refine fr_region ?_
    refine fr_move (.int .i32 (y)) hval ?_
    refine fr_mul .i32 21 (y) 16 (IntKind.i32.wrap (y * 16)) rfl rfl rfl (by exact rfl) ?_
    refine fr_move (.int .i32 ((c : Nat) : Int)) hvar ?_
    refine fr_sub .i32 21 ((c : Nat) : Int) 48 ((d : Nat) : Int) rfl rfl rfl (by exact w32' (by omega) (by omega) (by omega)) ?_
    refine fr_or .i32 21 (IntKind.i32.wrap (y * 16)) ((d : Nat) : Int) (bits .or .i32 (IntKind.i32.wrap (y * 16)) ((d : Nat) : Int)) rfl rfl rfl (by exact rfl) ?_
    refine fr_assign (.int .i32 (bits .or .i32 (IntKind.i32.wrap (y * 16)) ((d : Nat) : Int))) rfl ?_
    refine fr_end ?_
    refine to_blockN ?_
    exact hq _ _ (((((((((((((((((((((Keep.refl _ _).upd rfl).upd rfl).upd rfl).upd rfl).upd rfl).upd rfl).upd rfl).upd rfl).upd rfl).upd rfl).upd rfl).upd rfl).upd rfl).upd rfl).upd rfl).upd rfl).upd rfl).upd rfl).upd rfl).upd rfl) rfl
  refine fr_eq .i32 21 ((c : Nat) : Int) 54 false rfl hsw rfl (by exact eqF (by omega)) ?_
  refine fr_assign (.bool false) rfl ?_
  refine fr_end ?_
  refine to_then ?_
  refine fr_false rfl ?_
  refine fr_seq ?_
  refine fr_region ?_
  by_cases hc55 : c = 55
  · refine fr_eq .i32 21 ((c : Nat) : Int) 55 true rfl hsw rfl (by exact eqT (by omega)) ?_
    refine fr_assign (.bool true) rfl ?_
    refine fr_end ?_
    refine to_then ?_
    refine fr_true rfl ?_
    refine wp_skip ?_
    refine to_then ?_
    refine fr_true rfl ?_
    refine fr_region ?_
    refine fr_move (.int .i32 (y)) hval ?_
    refine fr_mul .i32 21 (y) 16 (IntKind.i32.wrap (y * 16)) rfl rfl rfl (by exact rfl) ?_
    refine fr_move (.int .i32 ((c : Nat) : Int)) hvar ?_
    refine fr_sub .i32 21 ((c : Nat) : Int) 48 ((d : Nat) : Int) rfl rfl rfl (by exact w32' (by omega) (by omega) (by omega)) ?_
    refine fr_or .i32 21 (IntKind.i32.wrap (y * 16)) ((d : Nat) : Int) (bits .or .i32 (IntKind.i32.wrap (y * 16)) ((d : Nat) : Int)) rfl rfl rfl (by exact rfl) ?_
    refine fr_assign (.int .i32 (bits .or .i32 (IntKind.i32.wrap (y * 16)) ((d : Nat) : Int))) rfl ?_
    refine fr_end ?_
    refine to_blockN ?_
    exact hq _ _ (((((((((((((((((((((((Keep.refl _ _).upd rfl).upd rfl).upd rfl).upd rfl).upd rfl).upd rfl).upd rfl).upd rfl).upd rfl).upd rfl).upd rfl).upd rfl).upd rfl).upd rfl).upd rfl).upd rfl).upd rfl).upd rfl).upd rfl).upd rfl).upd rfl).upd rfl) rfl
  refine fr_eq .i32 21 ((c : Nat) : Int) 55 false rfl hsw rfl (by exact eqF (by omega)) ?_
  refine fr_assign (.bool false) rfl ?_
  refine fr_end ?_
  refine to_then ?_
  refine fr_false rfl ?_
  refine fr_seq ?_
  refine fr_region ?_
  by_cases hc56 : c = 56
  · refine fr_eq .i32 21 ((c : Nat) : Int) 56 true rfl hsw rfl (by exact eqT (by omega)) ?_
    refine fr_assign (.bool true) rfl ?_
    refine fr_end ?_
    refine to_then ?_
    refine fr_true rfl ?_
    refine wp_skip ?_
    refine to_then ?_
    refine fr_true rfl ?_
    refine fr_region ?_
    refine fr_move (.int .i32 (y)) hval ?_
    refine fr_mul .i32 21 (y) 16 (IntKind.i32.wrap (y * 16)) rfl rfl rfl (by exact rfl) ?_
    refine fr_move (.int .i32 ((c : Nat) : Int)) hvar ?_
    refine fr_sub .i32 21 ((c : Nat) : Int) 48 ((d : Nat) : Int) rfl rfl rfl (by exact w32' (by omega) (by omega) (by omega)) ?_
    refine fr_or .i32 21 (IntKind.i32.wrap (y * 16)) ((d : Nat) : Int) (bits .or .i32 (IntKind.i32.wrap (y * 16)) ((d : Nat) : Int)) rfl rfl rfl (by exact rfl) ?_
    refine fr_assign (.int .i32 (bits .or .i32 (IntKind.i32.wrap (y * 16)) ((d : Nat) : Int))) rfl ?_
    refine fr_end ?_
    refine to_blockN ?_
    exact hq _ _ (((((((((((((((((((((((((Keep.refl _ _).upd rfl).upd rfl).upd rfl).upd rfl).upd rfl).upd rfl).upd rfl).upd rfl).upd rfl).upd rfl).upd rfl).upd rfl).upd rfl).upd rfl).upd rfl).upd rfl).upd rfl).upd rfl).upd rfl).upd rfl).upd rfl).upd rfl).upd rfl).upd rfl) rfl
  refine fr_eq .i32 21 ((c : Nat) : Int) 56 false rfl hsw rfl (by exact eqF (by omega)) ?_
  refine fr_assign (.bool false) rfl ?_
  refine fr_end ?_
  refine to_then ?_
  refine fr_false rfl ?_
  refine fr_region ?_
  refine fr_eq .i32 21 ((c : Nat) : Int) 57 true rfl hsw rfl (by exact eqT (by omega)) ?_
  refine fr_assign (.bool true) rfl ?_
  refine fr_end ?_
  refine to_then ?_
  refine fr_true rfl ?_
  refine fr_region ?_
  refine fr_move (.int .i32 (y)) hval ?_
  refine fr_mul .i32 21 (y) 16 (IntKind.i32.wrap (y * 16)) rfl rfl rfl (by exact rfl) ?_
  refine fr_move (.int .i32 ((c : Nat) : Int)) hvar ?_
  refine fr_sub .i32 21 ((c : Nat) : Int) 48 ((d : Nat) : Int) rfl rfl rfl (by exact w32' (by omega) (by omega) (by omega)) ?_
  refine fr_or .i32 21 (IntKind.i32.wrap (y * 16)) ((d : Nat) : Int) (bits .or .i32 (IntKind.i32.wrap (y * 16)) ((d : Nat) : Int)) rfl rfl rfl (by exact rfl) ?_
  refine fr_assign (.int .i32 (bits .or .i32 (IntKind.i32.wrap (y * 16)) ((d : Nat) : Int))) rfl ?_
  refine fr_end ?_
  refine to_blockN ?_
  exact hq _ _ (((((((((((((((((((((((((((Keep.refl _ _).upd rfl).upd rfl).upd rfl).upd rfl).upd rfl).upd rfl).upd rfl).upd rfl).upd rfl).upd rfl).upd rfl).upd rfl).upd rfl).upd rfl).upd rfl).upd rfl).upd rfl).upd rfl).upd rfl).upd rfl).upd rfl).upd rfl).upd rfl).upd rfl).upd rfl).upd rfl) rfl
set_option maxRecDepth 100000 in
theorem hex12any_1 {w : World} {f : Nat → Value} {c d : Nat} {y : Int} {Q : Exit → Act → World → Prop} (hsw : f 366 = .int .i32 (c : Int)) (hvar : f 30 = .int .i32 (c : Int)) (hval : f 29 = .int .i32 y) (h1 : 97 ≤ c) (h2 : c ≤ 102) (hd : d + 87 = c)
    (hq : ∀ g (z : Int), Keep (fun k => Nat.beq k 29 || (Nat.ble 372 k && Nat.ble k 413)) f g → g 29 = .int .i32 z → Q .normal (mk 567 g) w) :
    (sub B29 [1, 1, 1, 0, 0, 0, 1, 0, 1, 1, 0, 1, 0, 1, 1, 1, 0, 1, 1, 1, 0, 1, 1, 1, 1, 1, 1, 1, 1, 1, 1, 1, 1, 1, 1, 1, 1, 1, 1, 1, 0, 1, 1, 1, 0, 1, 0, 0, 1, 1, 1, 1, 1, 0, 0, 0, 0, 1, 1, 0, 1]).wp Tryd.prog Q (mk 567 f) w := by
  conv => arg 2; whnf
  refine wp_block ?_
  refine fr_seq ?_
  refine fr_seq ?_
  refine fr_region ?_
  refine fr_eq .i32 21 ((c : Nat) : Int) 48 false rfl hsw rfl (by exact eqF (by omega)) ?_
  refine fr_assign (.bool false) rfl ?_
  refine fr_end ?_
  refine to_then ?_
  refine fr_false rfl ?_
  refine fr_seq ?_
  refine fr_region ?_
  refine fr_eq .i32 21 ((c : Nat) : Int) 49 false rfl hsw rfl (by exact eqF (by omega)) ?_
  refine fr_assign (.bool false) rfl ?_
  refine fr_end ?_
  refine to_then ?_
  refine fr_false rfl ?_
  refine fr_seq ?_
  refine fr_region ?_
  refine fr_eq .i32 21 ((c : Nat) : Int) 50 false rfl hsw rfl (by exact eqF (by omega)) ?_
  refine fr_assign (.bool false) rfl ?_
  refine fr_end ?_
  refine to_then ?_
  refine fr_false rfl ?_
  refine fr_seq ?_
  refine fr_region ?_
  refine fr_eq .i32 21 ((c : Nat) : Int) 51 false rfl hsw rfl (by exact eqF (by omega)) ?_
  refine fr_assign (.bool false) rfl ?_
  refine fr_end ?_
  refine to_then ?_
  refine fr_false rfl ?_
  refine fr_seq ?_
  refine fr_region ?_
  refine fr_eq .i32 21 ((c : Nat) : Int) 52 false rfl hsw rfl (by exact eqF (by omega)) ?_
  refine fr_assign (.bool false) rfl ?_
  refine fr_end ?_
  refine to_then ?_
  refine fr_false rfl ?_
  refine fr_seq ?_
  refine fr_region ?_
  refine fr_eq .i32 21 ((c : Nat) : Int) 53 false rfl hsw rfl (by exact eqF (by omega)) ?_
  refine fr_assign (.bool false) rfl ?_
  refine fr_end ?_
  refine to_then ?_
  refine fr_false rfl ?_
  refine fr_seq ?_
  refine fr_region ?_
  refine fr_eq .i32 21 ((c : Nat) : Int) 54 false rfl hsw rfl (by exact eqF (by omega)) ?_
  refine fr_assign (.bool false) rfl ?_
  refine fr_end ?_
  refine to_then ?_
  refine fr_false rfl ?_
  refine fr_seq ?_
  refine fr_region ?_
  refine fr_eq .i32 21 ((c : Nat) : Int) 55 false rfl hsw rfl (by exact eqF (by omega)) ?_
  refine fr_assign (.bool false) rfl ?_
  refine fr_end ?_
  refine to_then ?_
  refine fr_false rfl ?_
  refine fr_seq ?_
  refine fr_region ?_
  refine fr_eq .i32 21 ((c : Nat) : Int) 56 false rfl hsw rfl (by exact eqF (by omega)) ?_
  refine fr_assign (.bool false) rfl ?_
  refine fr_end ?_
  refine to_then ?_
  refine fr_false rfl ?_
  refine fr_region ?_
  refine fr_eq .i32 21 ((c : Nat) : Int) 57 false rfl hsw rfl (by exact eqF (by omega)) ?_
  refine fr_assign (.bool false) rfl ?_
  refine fr_end ?_
  refine to_then ?_
  refine fr_false rfl ?_
  refine fr_seq ?_
  refine fr_seq ?_
  refine fr_region ?_
  by_cases hc97 : c = 97
  · refine fr_eq .i32 21 ((c : Nat) : Int) 97 true rfl hsw rfl (by exact eqT (by omega)) ?_
    refine fr_assign (.bool true) rfl ?_
    refine fr_end ?_
    refine to_then ?_
    refine fr_true rfl ?_
    refine wp_skip ?_
    refine to_then ?_
    refine fr_true rfl ?_
    refine fr_region ?_
    refine fr_move (.int .i32 (y)) hval ?_
    refine fr_mul .i32 21 (y) 16 (IntKind.i32.wrap (y * 16)) rfl rfl rfl (by exact rfl) ?_
    refine fr_move (.int .i32 ((c : Nat) : Int)) hvar ?_
    refine fr_add .i32 21 ((c : Nat) : Int) 10 ((c + 10 : Nat) : Int) rfl rfl rfl (by exact w32' (by omega) (by omega) (by omega)) ?_
    refine fr_sub .i32 21 ((c + 10 : Nat) : Int) 97 ((d : Nat) : Int) rfl rfl rfl (by exact w32' (by omega) (by omega) (by omega)) ?_
    refine fr_or .i32 21 (IntKind.i32.wrap (y * 16)) ((d : Nat) : Int) (bits .or .i32 (IntKind.i32.wrap (y * 16)) ((d : Nat) : Int)) rfl rfl rfl (by exact rfl) ?_
    refine fr_assign (.int .i32 (bits .or .i32 (IntKind.i32.wrap (y * 16)) ((d : Nat) : Int))) rfl ?_
    refine fr_end ?_
    refine to_blockN ?_
    exact hq _ _ ((((((((((((((((((((((((((((((Keep.refl _ _).upd rfl).upd rfl).upd rfl).upd rfl).upd rfl).upd rfl).upd rfl).upd rfl).upd rfl).upd rfl).upd rfl).upd rfl).upd rfl).upd rfl).upd rfl).upd rfl).upd rfl).upd rfl).upd rfl).upd rfl).upd rfl).upd rfl).upd rfl).upd rfl).upd rfl).upd rfl).upd rfl).upd rfl).upd rfl) rfl
  refine fr_eq .i32 21 ((c : Nat) : Int) 97 false rfl hsw rfl (by exact eqF (by omega)) ?_
  refine fr_assign (.bool false) rfl ?_
  refine fr_end ?_
  refine to_then ?_
  refine fr_false rfl ?_
  refine fr_seq ?_
  refine fr_region ?_
  by_cases hc98 : c = 98
  · refine fr_eq .i32 21 ((c : Nat) : Int) 98 true rfl hsw rfl (by exact eqT (by omega)) ?_
    refine fr_assign (.bool true) rfl ?_
    refine fr_end ?_
    refine to_then ?_
    refine fr_true rfl ?_
    refine wp_skip ?_
    refine to_then ?_
    refine fr_true rfl ?_
    refine fr_region ?_
    refine fr_move (.int .i32 (y)) hval ?_
    refine fr_mul .i32 21 (y) 16 (IntKind.i32.wrap (y * 16)) rfl rfl rfl (by exact rfl) ?_
    refine fr_move (.int .i32 ((c : Nat) : Int)) hvar ?_
    refine fr_add .i32 21 ((c : Nat) : Int) 10 ((c + 10 : Nat) : Int) rfl rfl rfl (by exact w32' (by omega) (by omega) (by omega)) ?_
    refine fr_sub .i32 21 ((c + 10 : Nat) : Int) 97 ((d : Nat) : Int) rfl rfl rfl (by exact w32' (by omega) (by omega) (by omega)) ?_
    refine fr_or .i32 21 (IntKind.i32.wrap (y * 16)) ((d : Nat) : Int) (bits .or .i32 (IntKind.i32.wrap (y * 16)) ((d : Nat) : Int)) rfl rfl rfl (by exact rfl) ?_
    refine fr_assign (.int .i32 (bits .or .i32 (IntKind.i32.wrap (y * 16)) ((d : Nat) : Int))) rfl ?_
    refine fr_end ?_
    refine to_blockN ?_
    exact hq _ _ ((((((((((((((((((((((((((((((((Keep.refl _ _).upd rfl).upd rfl).upd rfl).upd rfl).upd rfl).upd rfl).upd rfl).upd rfl).upd rfl).upd rfl).upd rfl).upd rfl).upd rfl).upd rfl).upd rfl).upd rfl).upd rfl).upd rfl).upd rfl).upd rfl).upd rfl).upd rfl).upd rfl).upd rfl).upd rfl).upd rfl).upd rfl).upd rfl).upd rfl).upd rfl).upd rfl) rfl
  refine fr_eq .i32 21 ((c : Nat) : Int) 98 false rfl hsw rfl (by exact eqF (by omega)) ?_
  refine fr_assign (.bool false) rfl ?_
  refine fr_end ?_
  refine to_then ?_
  refine fr_false rfl ?_
  refine fr_seq ?_
  refine fr_region ?_
  by_cases hc99 : c = 99
  · refine fr_eq .i32 21 ((c : Nat) : Int) 99 true rfl hsw rfl (by exact eqT (by omega)) ?_
    refine fr_assign (.bool true) rfl ?_
    refine fr_end ?_
    refine to_then ?_
    refine fr_true rfl ?_
    refine wp_skip ?_
    refine to_then ?_
    refine fr_true rfl ?_
    refine fr_region ?_
    refine fr_move (.int .i32 (y)) hval ?_
    refine fr_mul .i32 21 (y) 16 (IntKind.i32.wrap (y * 16)) rfl rfl rfl (by exact rfl) ?_
    refine fr_move (.int .i32 ((c : Nat) : Int)) hvar ?_
    refine fr_add .i32 21 ((c : Nat) : Int) 10 ((c + 10 : Nat) : Int) rfl rfl rfl (by exact w32' (by omega) (by omega) (by omega)) ?_
    refine fr_sub .i32 21 ((c + 10 : Nat) : Int) 97 ((d : Nat) : Int) rfl rfl rfl (by exact w32' (by omega) (by omega) (by omega)) ?_
    refine fr_or .i32 21 (IntKind.i32.wrap (y * 16)) ((d : Nat) : Int) (bits .or .i32 (IntKind.i32.wrap (y * 16)) ((d : Nat) : Int)) rfl rfl rfl (by exact rfl) ?_
    refine fr_assign (.int .i32 (bits .or .i32 (IntKind.i32.wrap (y * 16)) ((d : Nat) : Int))) rfl ?_
    refine fr_end ?_
    refine to_blockN ?_
    exact hq _ _ ((((((((((((((((((((((((((((((((((Keep.refl _ _).upd rfl).upd rfl).upd rfl).upd rfl).upd rfl).upd rfl).upd rfl).upd rfl).upd rfl).upd rfl).upd rfl).upd rfl).upd rfl).upd rfl).upd rfl).upd rfl).upd rfl).upd rfl).upd rfl).upd rfl).upd rfl).upd rfl).upd rfl).upd rfl).upd rfl).upd rfl).upd rfl).upd rfl).upd rfl).upd rfl).upd rfl).upd rfl).upd rfl) rfl
  refine fr_eq .i32 21 ((c : Nat) : Int) 99 false rfl hsw rfl (by exact eqF (by omega)) ?_
  refine fr_assign (.bool false) rfl ?_
  refine fr_end ?_
  refine to_then ?_
  refine fr_false rfl ?_
  refine fr_seq ?_
  refine fr_region ?_
  by_cases hc100 : c = 100
  · refine fr_eq .i32 21 ((c : Nat) : Int) 100 true rfl hsw rfl (by exact eqT (by omega)) ?_
    refine fr_assign (.bool true) rfl ?_
    refine fr_end ?_
    refine to_then ?_
    refine fr_true rfl ?_
    refine wp_skip ?_
    refine to_then ?_
    refine fr_true rfl ?_
    refine fr_region ?_
    refine fr_move (.int .i32 (y)) hval ?_
    refine fr_mul .i32 21 (y) 16 (IntKind.i32.wrap (y * 16)) rfl rfl rfl (by exact rfl) ?_
    refine fr_move (.int .i32 ((c : Nat) : Int)) hvar ?_
    refine fr_add .i32 21 ((c : Nat) : Int) 10 ((c + 10 : Nat) : Int) rfl rfl rfl (by exact w32' (by omega) (by omega) (by omega)) ?_
    refine fr_sub .i32 21 ((c + 10 : Nat) : Int) 97 ((d : Nat) : Int) rfl rfl rfl (by exact w32' (by omega) (by omega) (by omega)) ?_
    refine fr_or .i32 21 (IntKind.i32.wrap (y * 16)) ((d : Nat) : Int) (bits .or .i32 (IntKind.i32.wrap (y * 16)) ((d : Nat) : Int)) rfl rfl rfl (by exact rfl) ?_
    refine fr_assign (.int .i32 (bits .or .i32 (IntKind.i32.wrap (y * 16)) ((d : Nat) : Int))) rfl ?_
    refine fr_end ?_
    refine to_blockN ?_
    exact hq _ _ ((((((((((((((((((((((((((((((((((((Keep.refl _ _).upd rfl).upd rfl).upd rfl).upd rfl).upd rfl).upd rfl).upd rfl).upd rfl).upd rfl).upd rfl).upd rfl).upd rfl).upd rfl).upd rfl).upd rfl).upd rfl).upd rfl).upd rfl).upd rfl).upd rfl).upd rfl).upd rfl).upd rfl).upd rfl).upd rfl).upd rfl).upd rfl).upd rfl).upd rfl).upd rfl).upd rfl).upd rfl).upd rfl).upd rfl).upd rfl) rfl
  refine fr_eq .i32 21 ((c : Nat) : Int) 100 false rfl hsw rfl (by exact eqF (by omega)) ?_
  refine fr_assign (.bool false) rfl ?_
  refine fr_end ?_
  refine to_then ?_
  refine fr_false rfl ?_
  refine fr_seq ?_
  refine fr_region ?_
  by_cases hc101 : c = 101
  · refine fr_eq .i32 21 ((c : Nat) : Int) 101 true rfl hsw rfl (by exact eqT (by omega)) ?_
    refine fr_assign (.bool true) rfl ?_
    refine fr_end ?_
    refine to_then ?_
    refine fr_true rfl ?_
    refine wp_skip ?_
    refine to_then ?_
    refine fr_true rfl ?_
    refine fr_region ?_
    refine fr_move (.int .i32 (y)) hval ?_
    refine fr_mul .i32 21 (y) 16 (IntKind.i32.wrap (y * 16)) rfl rfl rfl (by exact rfl) ?_
    refine fr_move (.int .i32 ((c : Nat) : Int)) hvar ?_
    refine fr_add .i32 21 ((c : Nat) : Int) 10 ((c + 10 : Nat) : Int) rfl rfl rfl (by exact w32' (by omega) (by omega) (by omega)) ?_
    refine fr_sub .i32 21 ((c + 10 : Nat) : Int) 97 ((d : Nat) : Int) rfl rfl rfl (by exact w32' (by omega) (by omega) (by omega)) ?_
    refine fr_or .i32 21 (IntKind.i32.wrap (y * 16)) ((d : Nat) : Int) (bits .or .i32 (IntKind.i32.wrap (y * 16)) ((d : Nat) : Int)) rfl rfl rfl (by exact rfl) ?_
    refine fr_assign (.int .i32 (bits .or .i32 (IntKind.i32.wrap (y * 16)) ((d : Nat) : Int))) rfl ?_
    refine fr_end ?_
    refine to_blockN ?_
    exact hq _ _ ((((((((((((((((((((((((((((((((((((((Keep.refl _ _).upd rfl).upd rfl).upd rfl).upd rfl).upd rfl).upd rfl).upd rfl).upd rfl).upd rfl).upd rfl).upd rfl).upd rfl).upd rfl).upd rfl).upd rfl).upd rfl).upd rfl).upd rfl).upd rfl).upd rfl).upd rfl).upd rfl).upd rfl).upd rfl).upd rfl).upd rfl).upd rfl).upd rfl).upd rfl).upd rfl).upd rfl).upd rfl).upd rfl).upd rfl).upd rfl).upd rfl).upd rfl) rfl
  refine fr_eq .i32 21 ((c : Nat) : Int) 101 false rfl hsw rfl (by exact eqF (by omega)) ?_
  refine fr_assign (.bool false) rfl ?_
  refine fr_end ?_
  refine to_then ?_
  refine fr_false rfl ?_
  refine fr_region ?_
  refine fr_eq .i32 21 ((c : Nat) : Int) 102 true rfl hsw rfl (by exact eqT (by omega)) ?_
  refine fr_assign (.bool true) rfl ?_
  refine fr_end ?_
  refine to_then ?_
  refine fr_true rfl ?_
  refine fr_region ?_
  refine fr_move (.int .i32 (y)) hval ?_
  refine fr_mul .i32 21 (y) 16 (IntKind.i32.wrap (y * 16)) rfl rfl rfl (by exact rfl) ?_
  refine fr_move (.int .i32 ((c : Nat) : Int)) hvar ?_
  refine fr_add .i32 21 ((c : Nat) : Int) 10 ((c + 10 : Nat) : Int) rfl rfl rfl (by exact w32' (by omega) (by omega) (by omega)) ?_
  refine fr_sub .i32 21 ((c + 10 : Nat) : Int) 97 ((d : Nat) : Int) rfl rfl rfl (by exact w32' (by omega) (by omega) (by omega)) ?_
  refine fr_or .i32 21 (IntKind.i32.wrap (y * 16)) ((d : Nat) : Int) (bits .or .i32 (IntKind.i32.wrap (y * 16)) ((d : Nat) : Int)) rfl rfl rfl (by exact rfl) ?_
  refine fr_assign (.int .i32 (bits .or .i32 (IntKind.i32.wrap (y * 16)) ((d : Nat) : Int))) rfl ?_
  refine fr_end ?_
  refine to_blockN ?_
  exact hq _ _ ((((((((((((((((((((((((((((((((((((((((Keep.refl _ _).upd rfl).upd rfl).upd rfl).upd rfl).upd rfl).upd rfl).upd rfl).upd rfl).upd rfl).upd rfl).upd rfl).upd rfl).upd rfl).upd rfl).upd rfl).upd rfl).upd rfl).upd rfl).upd rfl).upd rfl).upd rfl).upd rfl).upd rfl).upd rfl).upd rfl).upd rfl).upd rfl).upd rfl).upd rfl).upd rfl).upd rfl).upd rfl).upd rfl).upd rfl).upd rfl).upd rfl).upd rfl).upd rfl).upd rfl) rfl
set_option maxRecDepth 100000 in
theorem hex12any_2 {w : World} {f : Nat → Value} {c d : Nat} {y : Int} {Q : Exit → Act → World → Prop} (hsw : f 366 = .int .i32 (c : Int)) (hvar : f 30 = .int .i32 (c : Int)) (hval : f 29 = .int .i32 y) (h1 : 65 ≤ c) (h2 : c ≤ 70) (hd : d + 55 = c)
    (hq : ∀ g (z : Int), Keep (fun k => Nat.beq k 29 || (Nat.ble 372 k && Nat.ble k 413)) f g → g 29 = .int .i32 z → Q .normal (mk 567 g) w) :
    (sub B29 [1, 1, 1, 0, 0, 0, 1, 0, 1, 1, 0, 1, 0, 1, 1, 1, 0, 1, 1, 1, 0, 1, 1, 1, 1, 1, 1, 1, 1, 1, 1, 1, 1, 1, 1, 1, 1, 1, 1, 1, 0, 1, 1, 1, 0, 1, 0, 0, 1, 1, 1, 1, 1, 0, 0, 0, 0, 1, 1, 0, 1]).wp Tryd.prog Q (mk 567 f) w := by
  conv => arg 2; whnf
  refine wp_block ?_
  refine fr_seq ?_
  refine fr_seq ?_
  refine fr_region ?_
  refine fr_eq .i32 21 ((c : Nat) : Int) 48 false rfl hsw rfl (by exact eqF (by omega)) ?_
  refine fr_assign (.bool false) rfl ?_
  refine fr_end ?_
  refine to_then ?_
  refine fr_false rfl ?_
  refine fr_seq ?_
  refine fr_region ?_
  refine fr_eq .i32 21 ((c : Nat) : Int) 49 false rfl hsw rfl (by exact eqF (by omega)) ?_
  refine fr_assign (.bool false) rfl ?_
  refine fr_end ?_
  refine to_then ?_
  refine fr_false rfl ?_
  refine fr_seq ?_
  refine fr_region ?_
  refine fr_eq .i32 21 ((c : Nat) : Int) 50 false rfl hsw rfl (by exact eqF (by omega)) ?_
  refine fr_assign (.bool false) rfl ?_
  refine fr_end ?_
  refine to_then ?_
  refine fr_false rfl ?_
  refine fr_seq ?_
  refine fr_region ?_
  refine fr_eq .i32 21 ((c : Nat) : Int) 51 false rfl hsw rfl (by exact eqF (by omega)) ?_
  refine fr_assign (.bool false) rfl ?_
  refine fr_end ?_
  refine to_then ?_
  refine fr_false rfl ?_
  refine fr_seq ?_
  refine fr_region ?_
  refine fr_eq .i32 21 ((c : Nat) : Int) 52 false rfl hsw rfl (by exact eqF (by omega)) ?_
  refine fr_assign (.bool false) rfl ?_
  refine fr_end ?_
  refine to_then ?_
  refine fr_false rfl ?_
  refine fr_seq ?_
  refine fr_region ?_
  refine fr_eq .i32 21 ((c : Nat) : Int) 53 false rfl hsw rfl (by exact eqF (by omega)) ?_
  refine fr_assign (.bool false) rfl ?_
  refine fr_end ?_
  refine to_then ?_
  refine fr_false rfl ?_
  refine fr_seq ?_
  refine fr_region ?_
  refine fr_eq .i32 21 ((c : Nat) : Int) 54 false rfl hsw rfl (by exact eqF (by omega)) ?_
  refine fr_assign (.bool false) rfl ?_
  refine fr_end ?_
  refine to_then ?_
  refine fr_false rfl ?_
  refine fr_seq ?_
  refine fr_region ?_
  refine fr_eq .i32 21 ((c : Nat) : Int) 55 false rfl hsw rfl (by exact eqF (by omega)) ?_
  refine fr_assign (.bool false) rfl ?_
  refine fr_end ?_
  refine to_then ?_
  refine fr_false rfl ?_
  refine fr_seq ?_
  refine fr_region ?_
  refine fr_eq .i32 21 ((c : Nat) : Int) 56 false rfl hsw rfl (by exact eqF (by omega)) ?_
  refine fr_assign (.bool false) rfl ?_
  refine fr_end ?_
  refine to_then ?_
  refine fr_false rfl ?_
  refine fr_region ?_
  refine fr_eq .i32 21 ((c : Nat) : Int) 57 false rfl hsw rfl (by exact eqF (by omega)) ?_
  refine fr_assign (.bool false) rfl ?_
  refine fr_end ?_
  refine to_then ?_
  refine fr_false rfl ?_
  refine fr_seq ?_
  refine fr_seq ?_
  refine fr_region ?_
  refine fr_eq .i32 21 ((c : Nat) : Int) 97 false rfl hsw rfl (by exact eqF (by omega)) ?_
  refine fr_assign (.bool false) rfl ?_
  refine fr_end ?_
  refine to_then ?_
  refine fr_false rfl ?_
  refine fr_seq ?_
  refine fr_region ?_
  refine fr_eq .i32 21 ((c : Nat) : Int) 98 false rfl hsw rfl (by exact eqF (by omega)) ?_
  refine fr_assign (.bool false) rfl ?_
  refine fr_end ?_
  refine to_then ?_
  refine fr_false rfl ?_
  refine fr_seq ?_
  refine fr_region ?_
  refine fr_eq .i32 21 ((c : Nat) : Int) 99 false rfl hsw rfl (by exact eqF (by omega)) ?_
  refine fr_assign (.bool false) rfl ?_
  refine fr_end ?_
  refine to_then ?_
  refine fr_false rfl ?_
  refine fr_seq ?_
  refine fr_region ?_
  refine fr_eq .i32 21 ((c : Nat) : Int) 100 false rfl hsw rfl (by exact eqF (by omega)) ?_
  refine fr_assign (.bool false) rfl ?_
  refine fr_end ?_
  refine to_then ?_
  refine fr_false rfl ?_
  refine fr_seq ?_
  refine fr_region ?_
  refine fr_eq .i32 21 ((c : Nat) : Int) 101 false rfl hsw rfl (by exact eqF (by omega)) ?_
  refine fr_assign (.bool false) rfl ?_
  refine fr_end ?_
  refine to_then ?_
  refine fr_false rfl ?_
  refine fr_region ?_
  refine fr_eq .i32 21 ((c : Nat) : Int) 102 false rfl hsw rfl (by exact eqF (by omega)) ?_
  refine fr_assign (.bool false) rfl ?_
  refine fr_end ?_
  refine to_then ?_
  refine fr_false rfl ?_
  refine fr_seq ?_
  refine fr_seq ?_
  refine fr_region ?_
  by_cases hc65 : c = 65
  · refine fr_eq .i32 21 ((c : Nat) : Int) 65 true rfl hsw rfl (by exact eqT (by omega)) ?_
    refine fr_assign (.bool true) rfl ?_
    refine fr_end ?_
    refine to_then ?_
    refine fr_true rfl ?_
    refine wp_skip ?_
    refine to_then ?_
    refine fr_true rfl ?_
    refine fr_region ?_
    refine fr_move (.int .i32 (y)) hval ?_
    refine fr_mul .i32 21 (y) 16 (IntKind.i32.wrap (y * 16)) rfl rfl rfl (by exact rfl) ?_
    refine fr_move (.int .i32 ((c : Nat) : Int)) hvar ?_
    refine fr_add .i32 21 ((c : Nat) : Int) 10 ((c + 10 : Nat) : Int) rfl rfl rfl (by exact w32' (by omega) (by omega) (by omega)) ?_
    refine fr_sub .i32 21 ((c + 10 : Nat) : Int) 65 ((d : Nat) : Int) rfl rfl rfl (by exact w32' (by omega) (by omega) (by omega)) ?_
    refine fr_or .i32 21 (IntKind.i32.wrap (y * 16)) ((d : Nat) : Int) (bits .or .i32 (IntKind.i32.wrap (y * 16)) ((d : Nat) : Int)) rfl rfl rfl (by exact rfl) ?_
    refine fr_assign (.int .i32 (bits .or .i32 (IntKind.i32.wrap (y * 16)) ((d : Nat) : Int))) rfl ?_
    refine fr_end ?_
    refine to_blockN ?_
    exact hq _ _ ((((((((((((((((((((((((((((((((((((((((((Keep.refl _ _).upd rfl).upd rfl).upd rfl).upd rfl).upd rfl).upd rfl).upd rfl).upd rfl).upd rfl).upd rfl).upd rfl).upd rfl).upd rfl).upd rfl).upd rfl).upd rfl).upd rfl).upd rfl).upd rfl).upd rfl).upd rfl).upd rfl).upd rfl).upd rfl).upd rfl).upd rfl).upd rfl).upd rfl).upd rfl).upd rfl).upd rfl).upd rfl).upd rfl).upd rfl).upd rfl).upd rfl).upd rfl).upd rfl).upd rfl).upd rfl).upd rfl) rfl
  refine fr_eq .i32 21 ((c : Nat) : Int) 65 false rfl hsw rfl (by exact eqF (by omega)) ?_
  refine fr_assign (.bool false) rfl ?_
  refine fr_end ?_
  refine to_then ?_
  refine fr_false rfl ?_
  refine fr_seq ?_
  refine fr_region ?_
  by_cases hc66 : c = 66
  · refine fr_eq .i32 21 ((c : Nat) : Int) 66 true rfl hsw rfl (by exact eqT (by omega)) ?_
    refine fr_assign (.bool true) rfl ?_
    refine fr_end ?_
    refine to_then ?_
    refine fr_true rfl ?_
    refine wp_skip ?_
    refine to_then ?_
    refine fr_true rfl ?_
    refine fr_region ?_
    refine fr_move (.int .i32 (y)) hval ?_
    refine fr_mul .i32 21 (y) 16 (IntKind.i32.wrap (y * 16)) rfl rfl rfl (by exact rfl) ?_
    refine fr_move (.int .i32 ((c : Nat) : Int)) hvar ?_
    refine fr_add .i32 21 ((c : Nat) : Int) 10 ((c + 10 : Nat) : Int) rfl rfl rfl (by exact w32' (by omega) (by omega) (by omega)) ?_
    refine fr_sub .i32 21 ((c + 10 : Nat) : Int) 65 ((d : Nat) : Int) rfl rfl rfl (by exact w32' (by omega) (by omega) (by omega)) ?_
    refine fr_or .i32 21 (IntKind.i32.wrap (y * 16)) ((d : Nat) : Int) (bits .or .i32 (IntKind.i32.wrap (y * 16)) ((d : Nat) : Int)) rfl rfl rfl (by exact rfl) ?_
    refine fr_assign (.int .i32 (bits .or .i32 (IntKind.i32.wrap (y * 16)) ((d : Nat) : Int))) rfl ?_
    refine fr_end ?_
    refine to_blockN ?_
    exact hq _ _ ((((((((((((((((((((((((((((((((((((((((((((Keep.refl _ _).upd rfl).upd rfl).upd rfl).upd rfl).upd rfl).upd rfl).upd rfl).upd rfl).upd rfl).upd rfl).upd rfl).upd rfl).upd rfl).upd rfl).upd rfl).upd rfl).upd rfl).upd rfl).upd rfl).upd rfl).upd rfl).upd rfl).upd rfl).upd rfl).upd rfl).upd rfl).upd rfl).upd rfl).upd rfl).upd rfl).upd rfl).upd rfl).upd rfl).upd rfl).upd rfl).upd rfl).upd rfl).upd rfl).upd rfl).upd rfl).upd rfl).upd rfl).upd rfl) rfl
  refine fr_eq .i32 21 ((c : Nat) : Int) 66 false rfl hsw rfl (by exact eqF (by omega)) ?_
  refine fr_assign (.bool false) rfl ?_
  refine fr_end ?_
  refine to_then ?_
  refine fr_false rfl ?_
  refine fr_seq ?_
  refine fr_region ?_
  by_cases hc67 : c = 67
  · refine fr_eq .i32 21 ((c : Nat) : Int) 67 true rfl hsw rfl (by exact eqT (by omega)) ?_
    refine fr_assign (.bool true) rfl ?_
    refine fr_end ?_
    refine to_then ?_
    refine fr_true rfl ?_
    refine wp_skip ?_
    refine to_then ?_
    refine fr_true rfl ?_
    refine fr_region ?_
    refine fr_move (.int .i32 (y)) hval ?_
    refine fr_mul .i32 21 (y) 16 (IntKind.i32.wrap (y * 16)) rfl rfl rfl (by exact rfl) ?_
    refine fr_move (.int .i32 ((c : Nat) : Int)) hvar ?_
    refine fr_add .i32 21 ((c : Nat) : Int) 10 ((c + 10 : Nat) : Int) rfl rfl rfl (by exact w32' (by omega) (by omega) (by omega)) ?_
    refine fr_sub .i32 21 ((c + 10 : Nat) : Int) 65 ((d : Nat) : Int) rfl rfl rfl (by exact w32' (by omega) (by omega) (by omega)) ?_
    refine fr_or .i32 21 (IntKind.i32.wrap (y * 16)) ((d : Nat) : Int) (bits .or .i32 (IntKind.i32.wrap (y * 16)) ((d : Nat) : Int)) rfl rfl rfl (by exact rfl) ?_
    refine fr_assign (.int .i32 (bits .or .i32 (IntKind.i32.wrap (y * 16)) ((d : Nat) : Int))) rfl ?_
    refine fr_end ?_
    refine to_blockN ?_
    exact hq _ _ ((((((((((((((((((((((((((((((((((((((((((((((Keep.refl _ _).upd rfl).upd rfl).upd rfl).upd rfl).upd rfl).upd rfl).upd rfl).upd rfl).upd rfl).upd rfl).upd rfl).upd rfl).upd rfl).upd rfl).upd rfl).upd rfl).upd rfl).upd rfl).upd rfl).upd rfl).upd rfl).upd rfl).upd rfl).upd rfl).upd rfl).upd rfl).upd rfl).upd rfl).upd rfl).upd rfl).upd rfl).upd rfl).upd rfl).upd rfl).upd rfl).upd rfl).upd rfl).upd rfl).upd rfl).upd rfl).upd rfl).upd rfl).upd rfl).upd rfl).upd rfl) rfl
  refine fr_eq .i32 21 ((c : Nat) : Int) 67 false rfl hsw rfl (by exact eqF (by omega)) ?_
  refine fr_assign (.bool false) rfl ?_
  refine fr_end ?_
  refine to_then ?_
  refine fr_false rfl ?_
  refine fr_seq ?_
  refine fr_region ?_
  by_cases hc68 : c = 68
  · refine fr_eq .i32 21 ((c : Nat) : Int) 68 true rfl hsw rfl (by exact eqT (by omega)) ?_
    refine fr_assign (.bool true) rfl ?_
    refine fr_end ?_
    refine to_then ?_
    refine fr_true rfl ?_
    refine wp_skip ?_
    refine to_then ?_
    refine fr_true rfl ?_
    refine fr_region ?_
    refine fr_move (.int .i32 (y)) hval ?_
    refine fr_mul .i32 21 (y) 16 (IntKind.i32.wrap (y * 16)) rfl rfl rfl (by exact rfl) ?_
    refine fr_move (.int .i32 ((c : Nat) : Int)) hvar ?_
    refine fr_add .i32 21 ((c : Nat) : Int) 10 ((c + 10 : Nat) : Int) rfl rfl rfl (by exact w32' (by omega) (by omega) (by omega)) ?_
    refine fr_sub .i32 21 ((c + 10 : Nat) : Int) 65 ((d : Nat) : Int) rfl rfl rfl (by exact w32' (by omega) (by omega) (by omega)) ?_
    refine fr_or .i32 21 (IntKind.i32.wrap (y * 16)) ((d : Nat) : Int) (bits .or .i32 (IntKind.i32.wrap (y * 16)) ((d : Nat) : Int)) rfl rfl rfl (by exact rfl) ?_
    refine fr_assign (.int .i32 (bits .or .i32 (IntKind.i32.wrap (y * 16)) ((d : Nat) : Int))) rfl ?_
    refine fr_end ?_
    refine to_blockN ?_
    exact hq _ _ ((((((((((((((((((((((((((((((((((((((((((((((((Keep.refl _ _).upd rfl).upd rfl).upd rfl).upd rfl).upd rfl).upd rfl).upd rfl).upd rfl).upd rfl).upd rfl).upd rfl).upd rfl).upd rfl).upd rfl).upd rfl).upd rfl).upd rfl).upd rfl).upd rfl).upd rfl).upd rfl).upd rfl).upd rfl).upd rfl).upd rfl).upd rfl).upd rfl).upd rfl).upd rfl).upd rfl).upd rfl).upd rfl).upd rfl).upd rfl).upd rfl).upd rfl).upd rfl).upd rfl).upd rfl).upd rfl).upd rfl).upd rfl).upd rfl).upd rfl).upd rfl).upd rfl).upd rfl) rfl
  refine fr_eq .i32 21 ((c : Nat) : Int) 68 false rfl hsw rfl (by exact eqF (by omega)) ?_
  refine fr_assign (.bool false) rfl ?_
  refine fr_end ?_
  refine to_then ?_
  refine fr_false rfl ?_
  refine fr_seq ?_
  refine fr_region ?_
  by_cases hc69 : c = 69
  · refine fr_eq .i32 21 ((c : Nat) : Int) 69 true rfl hsw rfl (by exact eqT (by omega)) ?_
    refine fr_assign (.bool true) rfl ?_
    refine fr_end ?_
    refine to_then ?_
    refine fr_true rfl ?_
    refine wp_skip ?_
    refine to_then ?_
    refine fr_true rfl ?_
    refine fr_region ?_
    refine fr_move (.int .i32 (y)) hval ?_
    refine fr_mul .i32 21 (y) 16 (IntKind.i32.wrap (y * 16)) rfl rfl rfl (by exact rfl) ?_
    refine fr_move (.int .i32 ((c : Nat) : Int)) hvar ?_
    refine fr_add .i32 21 ((c : Nat) : Int) 10 ((c + 10 : Nat) : Int) rfl rfl rfl (by exact w32' (by omega) (by omega) (by omega)) ?_
    refine fr_sub .i32 21 ((c + 10 : Nat) : Int) 65 ((d : Nat) : Int) rfl rfl rfl (by exact w32' (by omega) (by omega) (by omega)) ?_
    refine fr_or .i32 21 (IntKind.i32.wrap (y * 16)) ((d : Nat) : Int) (bits .or .i32 (IntKind.i32.wrap (y * 16)) ((d : Nat) : Int)) rfl rfl rfl (by exact rfl) ?_
    refine fr_assign (.int .i32 (bits .or .i32 (IntKind.i32.wrap (y * 16)) ((d : Nat) : Int))) rfl ?_
    refine fr_end ?_
    refine to_blockN ?_
    exact hq _ _ ((((((((((((((((((((((((((((((((((((((((((((((((((Keep.refl _ _).upd rfl).upd rfl).upd rfl).upd rfl).upd rfl).upd rfl).upd rfl).upd rfl).upd rfl).upd rfl).upd rfl).upd rfl).upd rfl).upd rfl).upd rfl).upd rfl).upd rfl).upd rfl).upd rfl).upd rfl).upd rfl).upd rfl).upd rfl).upd rfl).upd rfl).upd rfl).upd rfl).upd rfl).upd rfl).upd rfl).upd rfl).upd rfl).upd rfl).upd rfl).upd rfl).upd rfl).upd rfl).upd rfl).upd rfl).upd rfl).upd rfl).upd rfl).upd rfl).upd rfl).upd rfl).upd rfl).upd rfl).upd rfl).upd rfl) rfl
  refine fr_eq .i32 21 ((c : Nat) : Int) 69 false rfl hsw rfl (by exact eqF (by omega)) ?_
  refine fr_assign (.bool false) rfl ?_
  refine fr_end ?_
  refine to_then ?_
  refine fr_false rfl ?_
  refine fr_region ?_
  refine fr_eq .i32 21 ((c : Nat) : Int) 70 true rfl hsw rfl (by exact eqT (by omega)) ?_
  refine fr_assign (.bool true) rfl ?_
  refine fr_end ?_
  refine to_then ?_
  refine fr_true rfl ?_
  refine fr_region ?_
  refine fr_move (.int .i32 (y)) hval ?_
  refine fr_mul .i32 21 (y) 16 (IntKind.i32.wrap (y * 16)) rfl rfl rfl (by exact rfl) ?_
  refine fr_move (.int .i32 ((c : Nat) : Int)) hvar ?_
  refine fr_add .i32 21 ((c : Nat) : Int) 10 ((c + 10 : Nat) : Int) rfl rfl rfl (by exact w32' (by omega) (by omega) (by omega)) ?_
  refine fr_sub .i32 21 ((c + 10 : Nat) : Int) 65 ((d : Nat) : Int) rfl rfl rfl (by exact w32' (by omega) (by omega) (by omega)) ?_
  refine fr_or .i32 21 (IntKind.i32.wrap (y * 16)) ((d : Nat) : Int) (bits .or .i32 (IntKind.i32.wrap (y * 16)) ((d : Nat) : Int)) rfl rfl rfl (by exact rfl) ?_
  refine fr_assign (.int .i32 (bits .or .i32 (IntKind.i32.wrap (y * 16)) ((d : Nat) : Int))) rfl ?_
  refine fr_end ?_
  refine to_blockN ?_
  exact hq _ _ ((((((((((((((((((((((((((((((((((((((((((((((((((((Keep.refl _ _).upd rfl).upd rfl).upd rfl).upd rfl).upd rfl).upd rfl).upd rfl).upd rfl).upd rfl).upd rfl).upd rfl).upd rfl).upd rfl).upd rfl).upd rfl).upd rfl).upd rfl).upd rfl).upd rfl).upd rfl).upd rfl).upd rfl).upd rfl).upd rfl).upd rfl).upd rfl).upd rfl).upd rfl).upd rfl).upd rfl).upd rfl).upd rfl).upd rfl).upd rfl).upd rfl).upd rfl).upd rfl).upd rfl).upd rfl).upd rfl).upd rfl).upd rfl).upd rfl).upd rfl).upd rfl).upd rfl).upd rfl).upd rfl).upd rfl).upd rfl).upd rfl) rfl
theorem hex12any {w : World} {f : Nat → Value} {c d : Nat} {y : Int} {Q : Exit → Act → World → Prop} (hsw : f 366 = .int .i32 (c : Int)) (hvar : f 30 = .int .i32 (c : Int)) (hval : f 29 = .int .i32 y) (hd : hexv c = some d)
    (hq : ∀ g (z : Int), Keep (fun k => Nat.beq k 29 || (Nat.ble 372 k && Nat.ble k 413)) f g → g 29 = .int .i32 z → Q .normal (mk 567 g) w) :
    (sub B29 [1, 1, 1, 0, 0, 0, 1, 0, 1, 1, 0, 1, 0, 1, 1, 1, 0, 1, 1, 1, 0, 1, 1, 1, 1, 1, 1, 1, 1, 1, 1, 1, 1, 1, 1, 1, 1, 1, 1, 1, 0, 1, 1, 1, 0, 1, 0, 0, 1, 1, 1, 1, 1, 0, 0, 0, 0, 1, 1, 0, 1]).wp Tryd.prog Q (mk 567 f) w := by
  rcases hexv_cases hd with ⟨a, b, e⟩ | ⟨a, b, e⟩ | ⟨a, b, e⟩
  · exact hex12any_0 hsw hvar hval a b e hq
  · exact hex12any_1 hsw hvar hval a b e hq
  · exact hex12any_2 hsw hvar hval a b e hq
set_option maxRecDepth 100000 in
theorem loop_bw {X st : Nat} {s : ByteArray} {w : World} {f : Nat → Value} {wr : World} {v : Value} {u : List Nat} {i B : Nat} {B0 : Nat → Prop} {Q : Exit → Act → World → Prop} {k0 hs0 : Nat} (e : TEnv X st s w B) (hb0 : OffAny B0) (h : At X st s true w f wr v u i)
    (h29 : f 29 = .int .i32 ((0 : Nat) : Int)) (h32 : f 32 = .int .i64 (hs0 : Nat)) (h33 : f 33 = .bool true) (h34 : f 34 = .bool false) (hk0 : s.size < i + k0) (hdg : braceF s k0 i 0 true = none) (hq : WQ B0 w Q)
    (hx : ∀ g w' q, At X st s true w g w' v u q → g 32 = .int .i64 (hs0 : Nat) → g 34 = .bool true → Q (.exit 10) (mk 567 g) w') :
    (sub B29 [1, 1, 1, 0, 0, 0, 1, 0, 1, 1, 0, 1, 0, 1, 1, 1, 0, 1, 1, 1, 0, 1, 1, 1, 1, 1, 1, 1, 1, 1, 1, 1, 1, 1, 1, 1, 1, 1, 1, 1, 0, 1, 1, 1, 0, 1, 0, 0, 1, 1, 1, 1, 1, 0, 0]).wp Tryd.prog Q (mk 567 f) wr := by
  have hml : s.size ≤ maxLen := by have := e.hs; unfold maxLen; omega
  have hs := e.hs; have hst := e.hst; have hi := h.hi
  conv => arg 2; whnf
  refine fr_loop 12 s.size rfl (fun f w' => ∃ (i : Nat), At X st s true w f w' v u i ∧ f 32 = .int .i64 (hs0 : Nat) ∧ ((∃ (k x : Nat) (b : Bool), f 29 = .int .i32 (x : Int) ∧ f 33 = .bool b ∧ f 34 = .bool false ∧ x ≤ 1114111 ∧ s.size < i + k ∧ braceF s k i x b = none) ∨ (∃ y : Int, f 29 = .int .i32 y ∧ f 33 = .bool false ∧ f 34 = .bool true))) ⟨i, h, h32, .inl ⟨k0, 0, true, h29, h33, h34, by omega, hk0, hdg⟩⟩ ?_
  clear h h29 h32 h33 h34 hdg hi hk0
  rintro f wq ⟨i, h, h32, hph⟩
  have hi := h.hi
  have hsum : num (f 12) = i := by rw [h.h12, num_int]
  have byte : ∀ b, bt s i = b + 1 → i < s.size := fun b hb => bt_lt_size hb
  rcases hph with ⟨k, x, b, h29, h33, h34, hx6, hk, hdg⟩ | ⟨y, h29, h33, h34⟩
  · cases k with
    | zero => omega
    | succ k =>
      unfold braceF at hdg
      by_cases h125 : bt s i = 125
      · rw [if_pos h125] at hdg
        have hlt := byte 124 h125
        obtain ⟨c, hc⟩ : ∃ c, bt s i = c := ⟨_, rfl⟩
        have hrn : rn s i = (c, 1) := by rw [rn_of_byte hlt (by omega), hc]
        rw [hc] at h125
        clear hc
        cases b with
        | false => simp at hdg
        | true =>
          refine wp_block ?_
          refine fr_seq ?_
          refine fr_region ?_
          refine fr_move ((.string s)) h.h2 ?_
          refine fr_move (.int .i64 ((i : Nat) : Int)) h.h12 ?_
          refine fr_slice_from 9 s (i) rfl rfl rfl (by omega) hml ?_
          refine fr_dec s (i) B (c) (1) hrn rfl (by omega) (h.tabs e) _ ?_
          intro w1 hb
          replace h := h.world hb
          clear hb
          refine fr_move ((.tuple #[.int .i32 ((c : Nat) : Int), .int .i64 ((1 : Nat) : Int)])) rfl ?_
          refine fr_extract 0 _ (.int .i32 ((c : Nat) : Int)) rfl rfl ?_
          refine fr_extract 1 _ (.int .i64 ((1 : Nat) : Int)) rfl rfl ?_
          refine fr_assign (.int .i32 ((c : Nat) : Int)) rfl ?_
          refine fr_assign (.int .i64 ((1 : Nat) : Int)) rfl ?_
          refine fr_end ?_
          refine to_then ?_
          refine fr_seq ?_
          refine fr_region ?_
          refine fr_move (.int .i64 ((i : Nat) : Int)) h.h12 ?_
          refine fr_move (.int .i64 ((1 : Nat) : Int)) rfl ?_
          refine fr_add .i64 3 ((i : Nat) : Int) ((1 : Nat) : Int) ((i + 1 : Nat) : Int) rfl rfl rfl (by exact w64' (by omega) (by omega) (by omega)) ?_
          refine fr_assign (.int .i64 ((i + 1 : Nat) : Int)) rfl ?_
          refine fr_end ?_
          refine to_then ?_
          refine fr_seq ?_
          refine fr_seq ?_
          refine fr_region ?_
          refine fr_move (.int .i32 ((c : Nat) : Int)) rfl ?_
          refine fr_end ?_
          refine to_then ?_
          refine wp_block ?_
          refine fr_seq ?_
          refine fr_seq ?_
          refine fr_region ?_
          refine fr_eq .i32 21 ((c : Nat) : Int) 48 false rfl rfl rfl (by exact eqF (by omega)) ?_
          refine fr_assign (.bool false) rfl ?_
          refine fr_end ?_
          refine to_then ?_
          refine fr_false rfl ?_
          refine fr_seq ?_
          refine fr_region ?_
          refine fr_eq .i32 21 ((c : Nat) : Int) 49 false rfl rfl rfl (by exact eqF (by omega)) ?_
          refine fr_assign (.bool false) rfl ?_
          refine fr_end ?_
          refine to_then ?_
          refine fr_false rfl ?_
          refine fr_seq ?_
          refine fr_region ?_
          refine fr_eq .i32 21 ((c : Nat) : Int) 50 false rfl rfl rfl (by exact eqF (by omega)) ?_
          refine fr_assign (.bool false) rfl ?_
          refine fr_end ?_
          refine to_then ?_
          refine fr_false rfl ?_
          refine fr_seq ?_
          refine fr_region ?_
          refine fr_eq .i32 21 ((c : Nat) : Int) 51 false rfl rfl rfl (by exact eqF (by omega)) ?_
          refine fr_assign (.bool false) rfl ?_
          refine fr_end ?_
          refine to_then ?_
          refine fr_false rfl ?_
          refine fr_seq ?_
          refine fr_region ?_
          refine fr_eq .i32 21 ((c : Nat) : Int) 52 false rfl rfl rfl (by exact eqF (by omega)) ?_
          refine fr_assign (.bool false) rfl ?_
          refine fr_end ?_
          refine to_then ?_
          refine fr_false rfl ?_
          refine fr_seq ?_
          refine fr_region ?_
          refine fr_eq .i32 21 ((c : Nat) : Int) 53 false rfl rfl rfl (by exact eqF (by omega)) ?_
          refine fr_assign (.bool false) rfl ?_
          refine fr_end ?_
          refine to_then ?_
          refine fr_false rfl ?_
          refine fr_seq ?_
          refine fr_region ?_
          refine fr_eq .i32 21 ((c : Nat) : Int) 54 false rfl rfl rfl (by exact eqF (by omega)) ?_
          refine fr_assign (.bool false) rfl ?_
          refine fr_end ?_
          refine to_then ?_
          refine fr_false rfl ?_
          refine fr_seq ?_
          refine fr_region ?_
          refine fr_eq .i32 21 ((c : Nat) : Int) 55 false rfl rfl rfl (by exact eqF (by omega)) ?_
          refine fr_assign (.bool false) rfl ?_
          refine fr_end ?_
          refine to_then ?_
          refine fr_false rfl ?_
          refine fr_seq ?_
          refine fr_region ?_
          refine fr_eq .i32 21 ((c : Nat) : Int) 56 false rfl rfl rfl (by exact eqF (by omega)) ?_
          refine fr_assign (.bool false) rfl ?_
          refine fr_end ?_
          refine to_then ?_
          refine fr_false rfl ?_
          refine fr_region ?_
          refine fr_eq .i32 21 ((c : Nat) : Int) 57 false rfl rfl rfl (by exact eqF (by omega)) ?_
          refine fr_assign (.bool false) rfl ?_
          refine fr_end ?_
          refine to_then ?_
          refine fr_false rfl ?_
          refine fr_seq ?_
          refine fr_seq ?_
          refine fr_region ?_
          refine fr_eq .i32 21 ((c : Nat) : Int) 97 false rfl rfl rfl (by exact eqF (by omega)) ?_
          refine fr_assign (.bool false) rfl ?_
          refine fr_end ?_
          refine to_then ?_
          refine fr_false rfl ?_
          refine fr_seq ?_
          refine fr_region ?_
          refine fr_eq .i32 21 ((c : Nat) : Int) 98 false rfl rfl rfl (by exact eqF (by omega)) ?_
          refine fr_assign (.bool false) rfl ?_
          refine fr_end ?_
          refine to_then ?_
          refine fr_false rfl ?_
          refine fr_seq ?_
          refine fr_region ?_
          refine fr_eq .i32 21 ((c : Nat) : Int) 99 false rfl rfl rfl (by exact eqF (by omega)) ?_
          refine fr_assign (.bool false) rfl ?_
          refine fr_end ?_
          refine to_then ?_
          refine fr_false rfl ?_
          refine fr_seq ?_
          refine fr_region ?_
          refine fr_eq .i32 21 ((c : Nat) : Int) 100 false rfl rfl rfl (by exact eqF (by omega)) ?_
          refine fr_assign (.bool false) rfl ?_
          refine fr_end ?_
          refine to_then ?_
          refine fr_false rfl ?_
          refine fr_seq ?_
          refine fr_region ?_
          refine fr_eq .i32 21 ((c : Nat) : Int) 101 false rfl rfl rfl (by exact eqF (by omega)) ?_
          refine fr_assign (.bool false) rfl ?_
          refine fr_end ?_
          refine to_then ?_
          refine fr_false rfl ?_
          refine fr_region ?_
          refine fr_eq .i32 21 ((c : Nat) : Int) 102 false rfl rfl rfl (by exact eqF (by omega)) ?_
          refine fr_assign (.bool false) rfl ?_
          refine fr_end ?_
          refine to_then ?_
          refine fr_false rfl ?_
          refine fr_seq ?_
          refine fr_seq ?_
          refine fr_region ?_
          refine fr_eq .i32 21 ((c : Nat) : Int) 65 false rfl rfl rfl (by exact eqF (by omega)) ?_
          refine fr_assign (.bool false) rfl ?_
          refine fr_end ?_
          refine to_then ?_
          refine fr_false rfl ?_
          refine fr_seq ?_
          refine fr_region ?_
          refine fr_eq .i32 21 ((c : Nat) : Int) 66 false rfl rfl rfl (by exact eqF (by omega)) ?_
          refine fr_assign (.bool false) rfl ?_
          refine fr_end ?_
          refine to_then ?_
          refine fr_false rfl ?_
          refine fr_seq ?_
          refine fr_region ?_
          refine fr_eq .i32 21 ((c : Nat) : Int) 67 false rfl rfl rfl (by exact eqF (by omega)) ?_
          refine fr_assign (.bool false) rfl ?_
          refine fr_end ?_
          refine to_then ?_
          refine fr_false rfl ?_
          refine fr_seq ?_
          refine fr_region ?_
          refine fr_eq .i32 21 ((c : Nat) : Int) 68 false rfl rfl rfl (by exact eqF (by omega)) ?_
          refine fr_assign (.bool false) rfl ?_
          refine fr_end ?_
          refine to_then ?_
          refine fr_false rfl ?_
          refine fr_seq ?_
          refine fr_region ?_
          refine fr_eq .i32 21 ((c : Nat) : Int) 69 false rfl rfl rfl (by exact eqF (by omega)) ?_
          refine fr_assign (.bool false) rfl ?_
          refine fr_end ?_
          refine to_then ?_
          refine fr_false rfl ?_
          refine fr_region ?_
          refine fr_eq .i32 21 ((c : Nat) : Int) 70 false rfl rfl rfl (by exact eqF (by omega)) ?_
          refine fr_assign (.bool false) rfl ?_
          refine fr_end ?_
          refine to_then ?_
          refine fr_false rfl ?_
          refine fr_seq ?_
          refine fr_region ?_
          refine fr_eq .i32 21 ((c : Nat) : Int) 125 true rfl rfl rfl (by exact eqT (by omega)) ?_
          refine fr_assign (.bool true) rfl ?_
          refine fr_end ?_
          refine to_then ?_
          refine fr_true rfl ?_
          refine fr_seq ?_
          refine fr_seq ?_
          refine fr_region ?_
          refine fr_move (.bool true) h33 ?_
          refine fr_end ?_
          refine to_then ?_
          refine fr_true rfl ?_
          refine fr_seq ?_
          refine fr_region ?_
          refine fr_move (.int .i64 ((st : Nat) : Int)) h.h1 ?_
          refine fr_move (.int .i64 ((i + 1 : Nat) : Int)) rfl ?_
          refine fr_add .i64 3 ((st : Nat) : Int) ((i + 1 : Nat) : Int) ((st + i + 1 : Nat) : Int) rfl rfl rfl (by exact w64' (by omega) (by omega) (by omega)) ?_
          refine fr_move (.int .i64 ((1 : Nat) : Int)) rfl ?_
          refine fr_sub .i64 3 ((st + i + 1 : Nat) : Int) ((1 : Nat) : Int) (((st + i + 1 : Nat) : Int) - ((1 : Nat) : Int)) rfl rfl rfl (by exact w64' (by omega) (by omega) (by omega)) ?_
          refine fr_assign ((.slice none 0 0)) rfl ?_
          refine fr_assign (.bool false) rfl ?_
          refine fr_assign (.int .i64 (((st + i + 1 : Nat) : Int) - ((1 : Nat) : Int))) rfl ?_
          refine fr_end ?_
          refine to_then ?_
          refine wp_ret ?_
          refine to_thenR ?_
          refine to_blockR ?_
          refine to_thenR ?_
          refine to_blockR ?_
          exact hq.thn.ret _ _ _ rfl rfl rfl (Off.of hb0 h.below)
      · rw [if_neg h125] at hdg
        cases hd : hexv (bt s i) with
        | none =>
          obtain ⟨c, n, hrn⟩ : ∃ c n, rn s i = (c, n) := ⟨_, _, rfl⟩
          have hle := rn_le (s := s) (i := i) (by omega)
          rw [hrn] at hle
          simp only at hle
          obtain ⟨hno1, hno2, hno3⟩ := nodigit hrn hd
          have hno4 : c ≠ 125 := nobrace hrn h125
          refine wp_block ?_
          refine fr_seq ?_
          refine fr_region ?_
          refine fr_move ((.string s)) h.h2 ?_
          refine fr_move (.int .i64 ((i : Nat) : Int)) h.h12 ?_
          refine fr_slice_from 9 s (i) rfl rfl rfl (by omega) hml ?_
          refine fr_dec s (i) B (c) (n) hrn rfl (by omega) (h.tabs e) _ ?_
          intro w1 hb
          replace h := h.world hb
          clear hb
          refine fr_move ((.tuple #[.int .i32 ((c : Nat) : Int), .int .i64 ((n : Nat) : Int)])) rfl ?_
          refine fr_extract 0 _ (.int .i32 ((c : Nat) : Int)) rfl rfl ?_
          refine fr_extract 1 _ (.int .i64 ((n : Nat) : Int)) rfl rfl ?_
          refine fr_assign (.int .i32 ((c : Nat) : Int)) rfl ?_
          refine fr_assign (.int .i64 ((n : Nat) : Int)) rfl ?_
          refine fr_end ?_
          refine to_then ?_
          refine fr_seq ?_
          refine fr_region ?_
          refine fr_move (.int .i64 ((i : Nat) : Int)) h.h12 ?_
          refine fr_move (.int .i64 ((n : Nat) : Int)) rfl ?_
          refine fr_add .i64 3 ((i : Nat) : Int) ((n : Nat) : Int) ((i + n : Nat) : Int) rfl rfl rfl (by exact w64' (by omega) (by omega) (by omega)) ?_
          refine fr_assign (.int .i64 ((i + n : Nat) : Int)) rfl ?_
          refine fr_end ?_
          refine to_then ?_
          refine fr_seq ?_
          refine fr_seq ?_
          refine fr_region ?_
          refine fr_move (.int .i32 ((c : Nat) : Int)) rfl ?_
          refine fr_end ?_
          refine to_then ?_
          refine wp_block ?_
          refine fr_seq ?_
          refine fr_seq ?_
          refine fr_region ?_
          refine fr_eq .i32 21 ((c : Nat) : Int) 48 false rfl rfl rfl (by exact eqF (by omega)) ?_
          refine fr_assign (.bool false) rfl ?_
          refine fr_end ?_
          refine to_then ?_
          refine fr_false rfl ?_
          refine fr_seq ?_
          refine fr_region ?_
          refine fr_eq .i32 21 ((c : Nat) : Int) 49 false rfl rfl rfl (by exact eqF (by omega)) ?_
          refine fr_assign (.bool false) rfl ?_
          refine fr_end ?_
          refine to_then ?_
          refine fr_false rfl ?_
          refine fr_seq ?_
          refine fr_region ?_
          refine fr_eq .i32 21 ((c : Nat) : Int) 50 false rfl rfl rfl (by exact eqF (by omega)) ?_
          refine fr_assign (.bool false) rfl ?_
          refine fr_end ?_
          refine to_then ?_
          refine fr_false rfl ?_
          refine fr_seq ?_
          refine fr_region ?_
          refine fr_eq .i32 21 ((c : Nat) : Int) 51 false rfl rfl rfl (by exact eqF (by omega)) ?_
          refine fr_assign (.bool false) rfl ?_
          refine fr_end ?_
          refine to_then ?_
          refine fr_false rfl ?_
          refine fr_seq ?_
          refine fr_region ?_
          refine fr_eq .i32 21 ((c : Nat) : Int) 52 false rfl rfl rfl (by exact eqF (by omega)) ?_
          refine fr_assign (.bool false) rfl ?_
          refine fr_end ?_
          refine to_then ?_
          refine fr_false rfl ?_
          refine fr_seq ?_
          refine fr_region ?_
          refine fr_eq .i32 21 ((c : Nat) : Int) 53 false rfl rfl rfl (by exact eqF (by omega)) ?_
          refine fr_assign (.bool false) rfl ?_
          refine fr_end ?_
          refine to_then ?_
          refine fr_false rfl ?_
          refine fr_seq ?_
          refine fr_region ?_
          refine fr_eq .i32 21 ((c : Nat) : Int) 54 false rfl rfl rfl (by exact eqF (by omega)) ?_
          refine fr_assign (.bool false) rfl ?_
          refine fr_end ?_
          refine to_then ?_
          refine fr_false rfl ?_
          refine fr_seq ?_
          refine fr_region ?_
          refine fr_eq .i32 21 ((c : Nat) : Int) 55 false rfl rfl rfl (by exact eqF (by omega)) ?_
          refine fr_assign (.bool false) rfl ?_
          refine fr_end ?_
          refine to_then ?_
          refine fr_false rfl ?_
          refine fr_seq ?_
          refine fr_region ?_
          refine fr_eq .i32 21 ((c : Nat) : Int) 56 false rfl rfl rfl (by exact eqF (by omega)) ?_
          refine fr_assign (.bool false) rfl ?_
          refine fr_end ?_
          refine to_then ?_
          refine fr_false rfl ?_
          refine fr_region ?_
          refine fr_eq .i32 21 ((c : Nat) : Int) 57 false rfl rfl rfl (by exact eqF (by omega)) ?_
          refine fr_assign (.bool false) rfl ?_
          refine fr_end ?_
          refine to_then ?_
          refine fr_false rfl ?_
          refine fr_seq ?_
          refine fr_seq ?_
          refine fr_region ?_
          refine fr_eq .i32 21 ((c : Nat) : Int) 97 false rfl rfl rfl (by exact eqF (by omega)) ?_
          refine fr_assign (.bool false) rfl ?_
          refine fr_end ?_
          refine to_then ?_
          refine fr_false rfl ?_
          refine fr_seq ?_
          refine fr_region ?_
          refine fr_eq .i32 21 ((c : Nat) : Int) 98 false rfl rfl rfl (by exact eqF (by omega)) ?_
          refine fr_assign (.bool false) rfl ?_
          refine fr_end ?_
          refine to_then ?_
          refine fr_false rfl ?_
          refine fr_seq ?_
          refine fr_region ?_
          refine fr_eq .i32 21 ((c : Nat) : Int) 99 false rfl rfl rfl (by exact eqF (by omega)) ?_
          refine fr_assign (.bool false) rfl ?_
          refine fr_end ?_
          refine to_then ?_
          refine fr_false rfl ?_
          refine fr_seq ?_
          refine fr_region ?_
          refine fr_eq .i32 21 ((c : Nat) : Int) 100 false rfl rfl rfl (by exact eqF (by omega)) ?_
          refine fr_assign (.bool false) rfl ?_
          refine fr_end ?_
          refine to_then ?_
          refine fr_false rfl ?_
          refine fr_seq ?_
          refine fr_region ?_
          refine fr_eq .i32 21 ((c : Nat) : Int) 101 false rfl rfl rfl (by exact eqF (by omega)) ?_
          refine fr_assign (.bool false) rfl ?_
          refine fr_end ?_
          refine to_then ?_
          refine fr_false rfl ?_
          refine fr_region ?_
          refine fr_eq .i32 21 ((c : Nat) : Int) 102 false rfl rfl rfl (by exact eqF (by omega)) ?_
          refine fr_assign (.bool false) rfl ?_
          refine fr_end ?_
          refine to_then ?_
          refine fr_false rfl ?_
          refine fr_seq ?_
          refine fr_seq ?_
          refine fr_region ?_
          refine fr_eq .i32 21 ((c : Nat) : Int) 65 false rfl rfl rfl (by exact eqF (by omega)) ?_
          refine fr_assign (.bool false) rfl ?_
          refine fr_end ?_
          refine to_then ?_
          refine fr_false rfl ?_
          refine fr_seq ?_
          refine fr_region ?_
          refine fr_eq .i32 21 ((c : Nat) : Int) 66 false rfl rfl rfl (by exact eqF (by omega)) ?_
          refine fr_assign (.bool false) rfl ?_
          refine fr_end ?_
          refine to_then ?_
          refine fr_false rfl ?_
          refine fr_seq ?_
          refine fr_region ?_
          refine fr_eq .i32 21 ((c : Nat) : Int) 67 false rfl rfl rfl (by exact eqF (by omega)) ?_
          refine fr_assign (.bool false) rfl ?_
          refine fr_end ?_
          refine to_then ?_
          refine fr_false rfl ?_
          refine fr_seq ?_
          refine fr_region ?_
          refine fr_eq .i32 21 ((c : Nat) : Int) 68 false rfl rfl rfl (by exact eqF (by omega)) ?_
          refine fr_assign (.bool false) rfl ?_
          refine fr_end ?_
          refine to_then ?_
          refine fr_false rfl ?_
          refine fr_seq ?_
          refine fr_region ?_
          refine fr_eq .i32 21 ((c : Nat) : Int) 69 false rfl rfl rfl (by exact eqF (by omega)) ?_
          refine fr_assign (.bool false) rfl ?_
          refine fr_end ?_
          refine to_then ?_
          refine fr_false rfl ?_
          refine fr_region ?_
          refine fr_eq .i32 21 ((c : Nat) : Int) 70 false rfl rfl rfl (by exact eqF (by omega)) ?_
          refine fr_assign (.bool false) rfl ?_
          refine fr_end ?_
          refine to_then ?_
          refine fr_false rfl ?_
          refine fr_seq ?_
          refine fr_region ?_
          refine fr_eq .i32 21 ((c : Nat) : Int) 125 false rfl rfl rfl (by exact eqF (by omega)) ?_
          refine fr_assign (.bool false) rfl ?_
          refine fr_end ?_
          refine to_then ?_
          refine fr_false rfl ?_
          refine fr_seq ?_
          refine fr_region ?_
          refine fr_move (.int .i64 ((st : Nat) : Int)) h.h1 ?_
          refine fr_move (.int .i64 ((i + n : Nat) : Int)) rfl ?_
          refine fr_add .i64 3 ((st : Nat) : Int) ((i + n : Nat) : Int) ((st + i + n : Nat) : Int) rfl rfl rfl (by exact w64' (by omega) (by omega) (by omega)) ?_
          refine fr_move (.int .i64 ((n : Nat) : Int)) rfl ?_
          refine fr_sub .i64 3 ((st + i + n : Nat) : Int) ((n : Nat) : Int) (((st + i + n : Nat) : Int) - ((n : Nat) : Int)) rfl rfl rfl (by exact w64' (by omega) (by omega) (by omega)) ?_
          refine fr_assign ((.slice none 0 0)) rfl ?_
          refine fr_assign (.bool false) rfl ?_
          refine fr_assign (.int .i64 (((st + i + n : Nat) : Int) - ((n : Nat) : Int))) rfl ?_
          refine fr_end ?_
          refine to_then ?_
          refine wp_ret ?_
          refine to_blockR ?_
          refine to_thenR ?_
          refine to_blockR ?_
          exact hq.thn.ret _ _ _ rfl rfl rfl (Off.of hb0 h.below)
        | some d =>
          rw [hd] at hdg
          simp only at hdg
          have hc3' := hexv_cases hd
          have hlt := byte (bt s i - 1) (by omega)
          obtain ⟨c, hc⟩ : ∃ c, bt s i = c := ⟨_, rfl⟩
          have hrn : rn s i = (c, 1) := by rw [rn_of_byte hlt (by omega), hc]
          rw [hc] at hd h125
          have hc3 := hexv_cases hd
          clear hc hc3'
          by_cases hbig : 1114111 < 16 * x + d
          · refine wp_block ?_
            refine fr_seq ?_
            refine fr_region ?_
            refine fr_move ((.string s)) h.h2 ?_
            refine fr_move (.int .i64 ((i : Nat) : Int)) h.h12 ?_
            refine fr_slice_from 9 s (i) rfl rfl rfl (by omega) hml ?_
            refine fr_dec s (i) B (c) (1) hrn rfl (by omega) (h.tabs e) _ ?_
            intro w1 hb
            replace h := h.world hb
            clear hb
            refine fr_move ((.tuple #[.int .i32 ((c : Nat) : Int), .int .i64 ((1 : Nat) : Int)])) rfl ?_
            refine fr_extract 0 _ (.int .i32 ((c : Nat) : Int)) rfl rfl ?_
            refine fr_extract 1 _ (.int .i64 ((1 : Nat) : Int)) rfl rfl ?_
            refine fr_assign (.int .i32 ((c : Nat) : Int)) rfl ?_
            refine fr_assign (.int .i64 ((1 : Nat) : Int)) rfl ?_
            refine fr_end ?_
            refine to_then ?_
            refine fr_seq ?_
            refine fr_region ?_
            refine fr_move (.int .i64 ((i : Nat) : Int)) h.h12 ?_
            refine fr_move (.int .i64 ((1 : Nat) : Int)) rfl ?_
            refine fr_add .i64 3 ((i : Nat) : Int) ((1 : Nat) : Int) ((i + 1 : Nat) : Int) rfl rfl rfl (by exact w64' (by omega) (by omega) (by omega)) ?_
            refine fr_assign (.int .i64 ((i + 1 : Nat) : Int)) rfl ?_
            refine fr_end ?_
            refine to_then ?_
            refine fr_seq ?_
            refine fr_seq ?_
            refine fr_region ?_
            refine fr_move (.int .i32 ((c : Nat) : Int)) rfl ?_
            refine fr_end ?_
            refine to_then ?_
            refine hex12 (c := c) (d := d) (v := x) rfl rfl h29 hd (by omega) ?_
            intro g hk hgv
            replace h : At X st s true w g w1 v u (i + 1) := ⟨(hk 0 rfl).trans h.h0, (hk 1 rfl).trans h.h1, (hk 2 rfl).trans h.h2, (hk 3 rfl).trans h.h3, (hk 11 rfl).trans h.h11, (hk 12 rfl).trans rfl, (by omega), h.hn, h.row, h.below⟩
            replace h32 := (hk 32 rfl).trans h32
            replace h34 := (hk 34 rfl).trans h34
            refine to_then ?_
            refine fr_seq ?_
            refine fr_seq ?_
            refine fr_region ?_
            refine fr_move (.int .i32 ((16 * x + d : Nat) : Int)) hgv ?_
            refine fr_gtr .i32 21 ((16 * x + d : Nat) : Int) 1114111 true rfl rfl rfl (by exact ltT (by omega)) ?_
            refine fr_end ?_
            refine to_then ?_
            refine fr_true rfl ?_
            refine fr_region ?_
            refine fr_assign (.bool true) rfl ?_
            refine fr_end ?_
            refine to_then ?_
            refine fr_region ?_
            refine fr_assign (.bool false) rfl ?_
            refine fr_end ?_
            refine to_blockN ?_
            refine ⟨_, rfl, ⟨i + 1, ⟨h.h0, h.h1, h.h2, h.h3, h.h11, h.h12, h.hi, h.hn, h.row, h.below⟩, h32, .inr ⟨_, hgv, rfl, rfl⟩⟩, ?_⟩
            rw [hsum]
            show s.size - num (g 12) < s.size - i
            rw [h.h12, num_int]; omega
          · rw [if_neg hbig] at hdg
            refine wp_block ?_
            refine fr_seq ?_
            refine fr_region ?_
            refine fr_move ((.string s)) h.h2 ?_
            refine fr_move (.int .i64 ((i : Nat) : Int)) h.h12 ?_
            refine fr_slice_from 9 s (i) rfl rfl rfl (by omega) hml ?_
            refine fr_dec s (i) B (c) (1) hrn rfl (by omega) (h.tabs e) _ ?_
            intro w1 hb
            replace h := h.world hb
            clear hb
            refine fr_move ((.tuple #[.int .i32 ((c : Nat) : Int), .int .i64 ((1 : Nat) : Int)])) rfl ?_
            refine fr_extract 0 _ (.int .i32 ((c : Nat) : Int)) rfl rfl ?_
            refine fr_extract 1 _ (.int .i64 ((1 : Nat) : Int)) rfl rfl ?_
            refine fr_assign (.int .i32 ((c : Nat) : Int)) rfl ?_
            refine fr_assign (.int .i64 ((1 : Nat) : Int)) rfl ?_
            refine fr_end ?_
            refine to_then ?_
            refine fr_seq ?_
            refine fr_region ?_
            refine fr_move (.int .i64 ((i : Nat) : Int)) h.h12 ?_
            refine fr_move (.int .i64 ((1 : Nat) : Int)) rfl ?_
            refine fr_add .i64 3 ((i : Nat) : Int) ((1 : Nat) : Int) ((i + 1 : Nat) : Int) rfl rfl rfl (by exact w64' (by omega) (by omega) (by omega)) ?_
            refine fr_assign (.int .i64 ((i + 1 : Nat) : Int)) rfl ?_
            refine fr_end ?_
            refine to_then ?_
            refine fr_seq ?_
            refine fr_seq ?_
            refine fr_region ?_
            refine fr_move (.int .i32 ((c : Nat) : Int)) rfl ?_
            refine fr_end ?_
            refine to_then ?_
            refine hex12 (c := c) (d := d) (v := x) rfl rfl h29 hd (by omega) ?_
            intro g hk hgv
            replace h : At X st s true w g w1 v u (i + 1) := ⟨(hk 0 rfl).trans h.h0, (hk 1 rfl).trans h.h1, (hk 2 rfl).trans h.h2, (hk 3 rfl).trans h.h3, (hk 11 rfl).trans h.h11, (hk 12 rfl).trans rfl, (by omega), h.hn, h.row, h.below⟩
            replace h32 := (hk 32 rfl).trans h32
            replace h34 := (hk 34 rfl).trans h34
            refine to_then ?_
            refine fr_seq ?_
            refine fr_seq ?_
            refine fr_region ?_
            refine fr_move (.int .i32 ((16 * x + d : Nat) : Int)) hgv ?_
            refine fr_gtr .i32 21 ((16 * x + d : Nat) : Int) 1114111 false rfl rfl rfl (by exact ltF (by omega)) ?_
            refine fr_end ?_
            refine to_then ?_
            refine fr_false rfl ?_
            refine wp_skip ?_
            refine to_then ?_
            refine fr_region ?_
            refine fr_assign (.bool false) rfl ?_
            refine fr_end ?_
            refine to_blockN ?_
            refine ⟨_, rfl, ⟨i + 1, ⟨h.h0, h.h1, h.h2, h.h3, h.h11, h.h12, h.hi, h.hn, h.row, h.below⟩, h32, .inl ⟨k, 16 * x + d, false, hgv, rfl, h34, by omega, by omega, hdg⟩⟩, ?_⟩
            rw [hsum]
            show s.size - num (g 12) < s.size - i
            rw [h.h12, num_int]; omega
  · by_cases h125 : bt s i = 125
    · have hlt := byte 124 h125
      obtain ⟨c, hc⟩ : ∃ c, bt s i = c := ⟨_, rfl⟩
      have hrn : rn s i = (c, 1) := by rw [rn_of_byte hlt (by omega), hc]
      rw [hc] at h125
      clear hc
      refine wp_block ?_
      refine fr_seq ?_
      refine fr_region ?_
      refine fr_move ((.string s)) h.h2 ?_
      refine fr_move (.int .i64 ((i : Nat) : Int)) h.h12 ?_
      refine fr_slice_from 9 s (i) rfl rfl rfl (by omega) hml ?_
      refine fr_dec s (i) B (c) (1) hrn rfl (by omega) (h.tabs e) _ ?_
      intro w1 hb
      replace h := h.world hb
      clear hb
      refine fr_move ((.tuple #[.int .i32 ((c : Nat) : Int), .int .i64 ((1 : Nat) : Int)])) rfl ?_
      refine fr_extract 0 _ (.int .i32 ((c : Nat) : Int)) rfl rfl ?_
      refine fr_extract 1 _ (.int .i64 ((1 : Nat) : Int)) rfl rfl ?_
      refine fr_assign (.int .i32 ((c : Nat) : Int)) rfl ?_
      refine fr_assign (.int .i64 ((1 : Nat) : Int)) rfl ?_
      refine fr_end ?_
      refine to_then ?_
      refine fr_seq ?_
      refine fr_region ?_
      refine fr_move (.int .i64 ((i : Nat) : Int)) h.h12 ?_
      refine fr_move (.int .i64 ((1 : Nat) : Int)) rfl ?_
      refine fr_add .i64 3 ((i : Nat) : Int) ((1 : Nat) : Int) ((i + 1 : Nat) : Int) rfl rfl rfl (by exact w64' (by omega) (by omega) (by omega)) ?_
      refine fr_assign (.int .i64 ((i + 1 : Nat) : Int)) rfl ?_
      refine fr_end ?_
      refine to_then ?_
      refine fr_seq ?_
      refine fr_seq ?_
      refine fr_region ?_
      refine fr_move (.int .i32 ((c : Nat) : Int)) rfl ?_
      refine fr_end ?_
      refine to_then ?_
      refine wp_block ?_
      refine fr_seq ?_
      refine fr_seq ?_
      refine fr_region ?_
      refine fr_eq .i32 21 ((c : Nat) : Int) 48 false rfl rfl rfl (by exact eqF (by omega)) ?_
      refine fr_assign (.bool false) rfl ?_
      refine fr_end ?_
      refine to_then ?_
      refine fr_false rfl ?_
      refine fr_seq ?_
      refine fr_region ?_
      refine fr_eq .i32 21 ((c : Nat) : Int) 49 false rfl rfl rfl (by exact eqF (by omega)) ?_
      refine fr_assign (.bool false) rfl ?_
      refine fr_end ?_
      refine to_then ?_
      refine fr_false rfl ?_
      refine fr_seq ?_
      refine fr_region ?_
      refine fr_eq .i32 21 ((c : Nat) : Int) 50 false rfl rfl rfl (by exact eqF (by omega)) ?_
      refine fr_assign (.bool false) rfl ?_
      refine fr_end ?_
      refine to_then ?_
      refine fr_false rfl ?_
      refine fr_seq ?_
      refine fr_region ?_
      refine fr_eq .i32 21 ((c : Nat) : Int) 51 false rfl rfl rfl (by exact eqF (by omega)) ?_
      refine fr_assign (.bool false) rfl ?_
      refine fr_end ?_
      refine to_then ?_
      refine fr_false rfl ?_
      refine fr_seq ?_
      refine fr_region ?_
      refine fr_eq .i32 21 ((c : Nat) : Int) 52 false rfl rfl rfl (by exact eqF (by omega)) ?_
      refine fr_assign (.bool false) rfl ?_
      refine fr_end ?_
      refine to_then ?_
      refine fr_false rfl ?_
      refine fr_seq ?_
      refine fr_region ?_
      refine fr_eq .i32 21 ((c : Nat) : Int) 53 false rfl rfl rfl (by exact eqF (by omega)) ?_
      refine fr_assign (.bool false) rfl ?_
      refine fr_end ?_
      refine to_then ?_
      refine fr_false rfl ?_
      refine fr_seq ?_
      refine fr_region ?_
      refine fr_eq .i32 21 ((c : Nat) : Int) 54 false rfl rfl rfl (by exact eqF (by omega)) ?_
      refine fr_assign (.bool false) rfl ?_
      refine fr_end ?_
      refine to_then ?_
      refine fr_false rfl ?_
      refine fr_seq ?_
      refine fr_region ?_
      refine fr_eq .i32 21 ((c : Nat) : Int) 55 false rfl rfl rfl (by exact eqF (by omega)) ?_
      refine fr_assign (.bool false) rfl ?_
      refine fr_end ?_
      refine to_then ?_
      refine fr_false rfl ?_
      refine fr_seq ?_
      refine fr_region ?_
      refine fr_eq .i32 21 ((c : Nat) : Int) 56 false rfl rfl rfl (by exact eqF (by omega)) ?_
      refine fr_assign (.bool false) rfl ?_
      refine fr_end ?_
      refine to_then ?_
      refine fr_false rfl ?_
      refine fr_region ?_
      refine fr_eq .i32 21 ((c : Nat) : Int) 57 false rfl rfl rfl (by exact eqF (by omega)) ?_
      refine fr_assign (.bool false) rfl ?_
      refine fr_end ?_
      refine to_then ?_
      refine fr_false rfl ?_
      refine fr_seq ?_
      refine fr_seq ?_
      refine fr_region ?_
      refine fr_eq .i32 21 ((c : Nat) : Int) 97 false rfl rfl rfl (by exact eqF (by omega)) ?_
      refine fr_assign (.bool false) rfl ?_
      refine fr_end ?_
      refine to_then ?_
      refine fr_false rfl ?_
      refine fr_seq ?_
      refine fr_region ?_
      refine fr_eq .i32 21 ((c : Nat) : Int) 98 false rfl rfl rfl (by exact eqF (by omega)) ?_
      refine fr_assign (.bool false) rfl ?_
      refine fr_end ?_
      refine to_then ?_
      refine fr_false rfl ?_
      refine fr_seq ?_
      refine fr_region ?_
      refine fr_eq .i32 21 ((c : Nat) : Int) 99 false rfl rfl rfl (by exact eqF (by omega)) ?_
      refine fr_assign (.bool false) rfl ?_
      refine fr_end ?_
      refine to_then ?_
      refine fr_false rfl ?_
      refine fr_seq ?_
      refine fr_region ?_
      refine fr_eq .i32 21 ((c : Nat) : Int) 100 false rfl rfl rfl (by exact eqF (by omega)) ?_
      refine fr_assign (.bool false) rfl ?_
      refine fr_end ?_
      refine to_then ?_
      refine fr_false rfl ?_
      refine fr_seq ?_
      refine fr_region ?_
      refine fr_eq .i32 21 ((c : Nat) : Int) 101 false rfl rfl rfl (by exact eqF (by omega)) ?_
      refine fr_assign (.bool false) rfl ?_
      refine fr_end ?_
      refine to_then ?_
      refine fr_false rfl ?_
      refine fr_region ?_
      refine fr_eq .i32 21 ((c : Nat) : Int) 102 false rfl rfl rfl (by exact eqF (by omega)) ?_
      refine fr_assign (.bool false) rfl ?_
      refine fr_end ?_
      refine to_then ?_
      refine fr_false rfl ?_
      refine fr_seq ?_
      refine fr_seq ?_
      refine fr_region ?_
      refine fr_eq .i32 21 ((c : Nat) : Int) 65 false rfl rfl rfl (by exact eqF (by omega)) ?_
      refine fr_assign (.bool false) rfl ?_
      refine fr_end ?_
      refine to_then ?_
      refine fr_false rfl ?_
      refine fr_seq ?_
      refine fr_region ?_
      refine fr_eq .i32 21 ((c : Nat) : Int) 66 false rfl rfl rfl (by exact eqF (by omega)) ?_
      refine fr_assign (.bool false) rfl ?_
      refine fr_end ?_
      refine to_then ?_
      refine fr_false rfl ?_
      refine fr_seq ?_
      refine fr_region ?_
      refine fr_eq .i32 21 ((c : Nat) : Int) 67 false rfl rfl rfl (by exact eqF (by omega)) ?_
      refine fr_assign (.bool false) rfl ?_
      refine fr_end ?_
      refine to_then ?_
      refine fr_false rfl ?_
      refine fr_seq ?_
      refine fr_region ?_
      refine fr_eq .i32 21 ((c : Nat) : Int) 68 false rfl rfl rfl (by exact eqF (by omega)) ?_
      refine fr_assign (.bool false) rfl ?_
      refine fr_end ?_
      refine to_then ?_
      refine fr_false rfl ?_
      refine fr_seq ?_
      refine fr_region ?_
      refine fr_eq .i32 21 ((c : Nat) : Int) 69 false rfl rfl rfl (by exact eqF (by omega)) ?_
      refine fr_assign (.bool false) rfl ?_
      refine fr_end ?_
      refine to_then ?_
      refine fr_false rfl ?_
      refine fr_region ?_
      refine fr_eq .i32 21 ((c : Nat) : Int) 70 false rfl rfl rfl (by exact eqF (by omega)) ?_
      refine fr_assign (.bool false) rfl ?_
      refine fr_end ?_
      refine to_then ?_
      refine fr_false rfl ?_
      refine fr_seq ?_
      refine fr_region ?_
      refine fr_eq .i32 21 ((c : Nat) : Int) 125 true rfl rfl rfl (by exact eqT (by omega)) ?_
      refine fr_assign (.bool true) rfl ?_
      refine fr_end ?_
      refine to_then ?_
      refine fr_true rfl ?_
      refine fr_seq ?_
      refine fr_seq ?_
      refine fr_region ?_
      refine fr_move (.bool false) h33 ?_
      refine fr_end ?_
      refine to_then ?_
      refine fr_false rfl ?_
      refine wp_skip ?_
      refine to_then ?_
      refine wp_exit ?_
      refine to_blockY rfl ?_
      refine to_thenX ?_
      refine to_blockY rfl ?_
      exact hx _ _ _ ⟨h.h0, h.h1, h.h2, h.h3, h.h11, rfl, by omega, h.hn, h.row, h.below⟩ h32 h34
    · cases hd : hexv (bt s i) with
      | none =>
        obtain ⟨c, n, hrn⟩ : ∃ c n, rn s i = (c, n) := ⟨_, _, rfl⟩
        have hle := rn_le (s := s) (i := i) (by omega)
        rw [hrn] at hle
        simp only at hle
        obtain ⟨hno1, hno2, hno3⟩ := nodigit hrn hd
        have hno4 : c ≠ 125 := nobrace hrn h125
        refine wp_block ?_
        refine fr_seq ?_
        refine fr_region ?_
        refine fr_move ((.string s)) h.h2 ?_
        refine fr_move (.int .i64 ((i : Nat) : Int)) h.h12 ?_
        refine fr_slice_from 9 s (i) rfl rfl rfl (by omega) hml ?_
        refine fr_dec s (i) B (c) (n) hrn rfl (by omega) (h.tabs e) _ ?_
        intro w1 hb
        replace h := h.world hb
        clear hb
        refine fr_move ((.tuple #[.int .i32 ((c : Nat) : Int), .int .i64 ((n : Nat) : Int)])) rfl ?_
        refine fr_extract 0 _ (.int .i32 ((c : Nat) : Int)) rfl rfl ?_
        refine fr_extract 1 _ (.int .i64 ((n : Nat) : Int)) rfl rfl ?_
        refine fr_assign (.int .i32 ((c : Nat) : Int)) rfl ?_
        refine fr_assign (.int .i64 ((n : Nat) : Int)) rfl ?_
        refine fr_end ?_
        refine to_then ?_
        refine fr_seq ?_
        refine fr_region ?_
        refine fr_move (.int .i64 ((i : Nat) : Int)) h.h12 ?_
        refine fr_move (.int .i64 ((n : Nat) : Int)) rfl ?_
        refine fr_add .i64 3 ((i : Nat) : Int) ((n : Nat) : Int) ((i + n : Nat) : Int) rfl rfl rfl (by exact w64' (by omega) (by omega) (by omega)) ?_
        refine fr_assign (.int .i64 ((i + n : Nat) : Int)) rfl ?_
        refine fr_end ?_
        refine to_then ?_
        refine fr_seq ?_
        refine fr_seq ?_
        refine fr_region ?_
        refine fr_move (.int .i32 ((c : Nat) : Int)) rfl ?_
        refine fr_end ?_
        refine to_then ?_
        refine wp_block ?_
        refine fr_seq ?_
        refine fr_seq ?_
        refine fr_region ?_
        refine fr_eq .i32 21 ((c : Nat) : Int) 48 false rfl rfl rfl (by exact eqF (by omega)) ?_
        refine fr_assign (.bool false) rfl ?_
        refine fr_end ?_
        refine to_then ?_
        refine fr_false rfl ?_
        refine fr_seq ?_
        refine fr_region ?_
        refine fr_eq .i32 21 ((c : Nat) : Int) 49 false rfl rfl rfl (by exact eqF (by omega)) ?_
        refine fr_assign (.bool false) rfl ?_
        refine fr_end ?_
        refine to_then ?_
        refine fr_false rfl ?_
        refine fr_seq ?_
        refine fr_region ?_
        refine fr_eq .i32 21 ((c : Nat) : Int) 50 false rfl rfl rfl (by exact eqF (by omega)) ?_
        refine fr_assign (.bool false) rfl ?_
        refine fr_end ?_
        refine to_then ?_
        refine fr_false rfl ?_
        refine fr_seq ?_
        refine fr_region ?_
        refine fr_eq .i32 21 ((c : Nat) : Int) 51 false rfl rfl rfl (by exact eqF (by omega)) ?_
        refine fr_assign (.bool false) rfl ?_
        refine fr_end ?_
        refine to_then ?_
        refine fr_false rfl ?_
        refine fr_seq ?_
        refine fr_region ?_
        refine fr_eq .i32 21 ((c : Nat) : Int) 52 false rfl rfl rfl (by exact eqF (by omega)) ?_
        refine fr_assign (.bool false) rfl ?_
        refine fr_end ?_
        refine to_then ?_
        refine fr_false rfl ?_
        refine fr_seq ?_
        refine fr_region ?_
        refine fr_eq .i32 21 ((c : Nat) : Int) 53 false rfl rfl rfl (by exact eqF (by omega)) ?_
        refine fr_assign (.bool false) rfl ?_
        refine fr_end ?_
        refine to_then ?_
        refine fr_false rfl ?_
        refine fr_seq ?_
        refine fr_region ?_
        refine fr_eq .i32 21 ((c : Nat) : Int) 54 false rfl rfl rfl (by exact eqF (by omega)) ?_
        refine fr_assign (.bool false) rfl ?_
        refine fr_end ?_
        refine to_then ?_
        refine fr_false rfl ?_
        refine fr_seq ?_
        refine fr_region ?_
        refine fr_eq .i32 21 ((c : Nat) : Int) 55 false rfl rfl rfl (by exact eqF (by omega)) ?_
        refine fr_assign (.bool false) rfl ?_
        refine fr_end ?_
        refine to_then ?_
        refine fr_false rfl ?_
        refine fr_seq ?_
        refine fr_region ?_
        refine fr_eq .i32 21 ((c : Nat) : Int) 56 false rfl rfl rfl (by exact eqF (by omega)) ?_
        refine fr_assign (.bool false) rfl ?_
        refine fr_end ?_
        refine to_then ?_
        refine fr_false rfl ?_
        refine fr_region ?_
        refine fr_eq .i32 21 ((c : Nat) : Int) 57 false rfl rfl rfl (by exact eqF (by omega)) ?_
        refine fr_assign (.bool false) rfl ?_
        refine fr_end ?_
        refine to_then ?_
        refine fr_false rfl ?_
        refine fr_seq ?_
        refine fr_seq ?_
        refine fr_region ?_
        refine fr_eq .i32 21 ((c : Nat) : Int) 97 false rfl rfl rfl (by exact eqF (by omega)) ?_
        refine fr_assign (.bool false) rfl ?_
        refine fr_end ?_
        refine to_then ?_
        refine fr_false rfl ?_
        refine fr_seq ?_
        refine fr_region ?_
        refine fr_eq .i32 21 ((c : Nat) : Int) 98 false rfl rfl rfl (by exact eqF (by omega)) ?_
        refine fr_assign (.bool false) rfl ?_
        refine fr_end ?_
        refine to_then ?_
        refine fr_false rfl ?_
        refine fr_seq ?_
        refine fr_region ?_
        refine fr_eq .i32 21 ((c : Nat) : Int) 99 false rfl rfl rfl (by exact eqF (by omega)) ?_
        refine fr_assign (.bool false) rfl ?_
        refine fr_end ?_
        refine to_then ?_
        refine fr_false rfl ?_
        refine fr_seq ?_
        refine fr_region ?_
        refine fr_eq .i32 21 ((c : Nat) : Int) 100 false rfl rfl rfl (by exact eqF (by omega)) ?_
        refine fr_assign (.bool false) rfl ?_
        refine fr_end ?_
        refine to_then ?_
        refine fr_false rfl ?_
        refine fr_seq ?_
        refine fr_region ?_
        refine fr_eq .i32 21 ((c : Nat) : Int) 101 false rfl rfl rfl (by exact eqF (by omega)) ?_
        refine fr_assign (.bool false) rfl ?_
        refine fr_end ?_
        refine to_then ?_
        refine fr_false rfl ?_
        refine fr_region ?_
        refine fr_eq .i32 21 ((c : Nat) : Int) 102 false rfl rfl rfl (by exact eqF (by omega)) ?_
        refine fr_assign (.bool false) rfl ?_
        refine fr_end ?_
        refine to_then ?_
        refine fr_false rfl ?_
        refine fr_seq ?_
        refine fr_seq ?_
        refine fr_region ?_
        refine fr_eq .i32 21 ((c : Nat) : Int) 65 false rfl rfl rfl (by exact eqF (by omega)) ?_
        refine fr_assign (.bool false) rfl ?_
        refine fr_end ?_
        refine to_then ?_
        refine fr_false rfl ?_
        refine fr_seq ?_
        refine fr_region ?_
        refine fr_eq .i32 21 ((c : Nat) : Int) 66 false rfl rfl rfl (by exact eqF (by omega)) ?_
        refine fr_assign (.bool false) rfl ?_
        refine fr_end ?_
        refine to_then ?_
        refine fr_false rfl ?_
        refine fr_seq ?_
        refine fr_region ?_
        refine fr_eq .i32 21 ((c : Nat) : Int) 67 false rfl rfl rfl (by exact eqF (by omega)) ?_
        refine fr_assign (.bool false) rfl ?_
        refine fr_end ?_
        refine to_then ?_
        refine fr_false rfl ?_
        refine fr_seq ?_
        refine fr_region ?_
        refine fr_eq .i32 21 ((c : Nat) : Int) 68 false rfl rfl rfl (by exact eqF (by omega)) ?_
        refine fr_assign (.bool false) rfl ?_
        refine fr_end ?_
        refine to_then ?_
        refine fr_false rfl ?_
        refine fr_seq ?_
        refine fr_region ?_
        refine fr_eq .i32 21 ((c : Nat) : Int) 69 false rfl rfl rfl (by exact eqF (by omega)) ?_
        refine fr_assign (.bool false) rfl ?_
        refine fr_end ?_
        refine to_then ?_
        refine fr_false rfl ?_
        refine fr_region ?_
        refine fr_eq .i32 21 ((c : Nat) : Int) 70 false rfl rfl rfl (by exact eqF (by omega)) ?_
        refine fr_assign (.bool false) rfl ?_
        refine fr_end ?_
        refine to_then ?_
        refine fr_false rfl ?_
        refine fr_seq ?_
        refine fr_region ?_
        refine fr_eq .i32 21 ((c : Nat) : Int) 125 false rfl rfl rfl (by exact eqF (by omega)) ?_
        refine fr_assign (.bool false) rfl ?_
        refine fr_end ?_
        refine to_then ?_
        refine fr_false rfl ?_
        refine fr_seq ?_
        refine fr_region ?_
        refine fr_move (.int .i64 ((st : Nat) : Int)) h.h1 ?_
        refine fr_move (.int .i64 ((i + n : Nat) : Int)) rfl ?_
        refine fr_add .i64 3 ((st : Nat) : Int) ((i + n : Nat) : Int) ((st + i + n : Nat) : Int) rfl rfl rfl (by exact w64' (by omega) (by omega) (by omega)) ?_
        refine fr_move (.int .i64 ((n : Nat) : Int)) rfl ?_
        refine fr_sub .i64 3 ((st + i + n : Nat) : Int) ((n : Nat) : Int) (((st + i + n : Nat) : Int) - ((n : Nat) : Int)) rfl rfl rfl (by exact w64' (by omega) (by omega) (by omega)) ?_
        refine fr_assign ((.slice none 0 0)) rfl ?_
        refine fr_assign (.bool false) rfl ?_
        refine fr_assign (.int .i64 (((st + i + n : Nat) : Int) - ((n : Nat) : Int))) rfl ?_
        refine fr_end ?_
        refine to_then ?_
        refine wp_ret ?_
        refine to_blockR ?_
        refine to_thenR ?_
        refine to_blockR ?_
        exact hq.thn.ret _ _ _ rfl rfl rfl (Off.of hb0 h.below)
      | some d =>
        have hc3' := hexv_cases hd
        have hlt := byte (bt s i - 1) (by omega)
        obtain ⟨c, hc⟩ : ∃ c, bt s i = c := ⟨_, rfl⟩
        have hrn : rn s i = (c, 1) := by rw [rn_of_byte hlt (by omega), hc]
        rw [hc] at hd h125
        have hc3 := hexv_cases hd
        clear hc hc3'
        refine wp_block ?_
        refine fr_seq ?_
        refine fr_region ?_
        refine fr_move ((.string s)) h.h2 ?_
        refine fr_move (.int .i64 ((i : Nat) : Int)) h.h12 ?_
        refine fr_slice_from 9 s (i) rfl rfl rfl (by omega) hml ?_
        refine fr_dec s (i) B (c) (1) hrn rfl (by omega) (h.tabs e) _ ?_
        intro w1 hb
        replace h := h.world hb
        clear hb
        refine fr_move ((.tuple #[.int .i32 ((c : Nat) : Int), .int .i64 ((1 : Nat) : Int)])) rfl ?_
        refine fr_extract 0 _ (.int .i32 ((c : Nat) : Int)) rfl rfl ?_
        refine fr_extract 1 _ (.int .i64 ((1 : Nat) : Int)) rfl rfl ?_
        refine fr_assign (.int .i32 ((c : Nat) : Int)) rfl ?_
        refine fr_assign (.int .i64 ((1 : Nat) : Int)) rfl ?_
        refine fr_end ?_
        refine to_then ?_
        refine fr_seq ?_
        refine fr_region ?_
        refine fr_move (.int .i64 ((i : Nat) : Int)) h.h12 ?_
        refine fr_move (.int .i64 ((1 : Nat) : Int)) rfl ?_
        refine fr_add .i64 3 ((i : Nat) : Int) ((1 : Nat) : Int) ((i + 1 : Nat) : Int) rfl rfl rfl (by exact w64' (by omega) (by omega) (by omega)) ?_
        refine fr_assign (.int .i64 ((i + 1 : Nat) : Int)) rfl ?_
        refine fr_end ?_
        refine to_then ?_
        refine fr_seq ?_
        refine fr_seq ?_
        refine fr_region ?_
        refine fr_move (.int .i32 ((c : Nat) : Int)) rfl ?_
        refine fr_end ?_
        refine to_then ?_
        refine hex12any (c := c) (d := d) (y := y) rfl rfl h29 hd ?_
        intro g z hk hgv
        replace h : At X st s true w g w1 v u (i + 1) := ⟨(hk 0 rfl).trans h.h0, (hk 1 rfl).trans h.h1, (hk 2 rfl).trans h.h2, (hk 3 rfl).trans h.h3, (hk 11 rfl).trans h.h11, (hk 12 rfl).trans rfl, (by omega), h.hn, h.row, h.below⟩
        replace h34 := (hk 34 rfl).trans h34
        replace h32 := (hk 32 rfl).trans h32
        replace h33 := (hk 33 rfl).trans h33
        refine to_then ?_
        refine fr_seq ?_
        refine fr_seq ?_
        refine fr_region ?_
        refine fr_move (.int .i32 (z)) hgv ?_
        by_cases hbig : 1114111 < z
        · refine fr_gtr .i32 21 (z) 1114111 true rfl rfl rfl (by exact ltT (by omega)) ?_
          refine fr_end ?_
          refine to_then ?_
          refine fr_true rfl ?_
          refine fr_region ?_
          refine fr_assign (.bool true) rfl ?_
          refine fr_end ?_
          refine to_then ?_
          refine fr_region ?_
          refine fr_assign (.bool false) rfl ?_
          refine fr_end ?_
          refine to_blockN ?_
          refine ⟨_, rfl, ⟨i + 1, ⟨h.h0, h.h1, h.h2, h.h3, h.h11, h.h12, h.hi, h.hn, h.row, h.below⟩, h32, .inr ⟨_, hgv, rfl, rfl⟩⟩, ?_⟩
          rw [hsum]
          show s.size - num (g 12) < s.size - i
          rw [h.h12, num_int]; omega
        · refine fr_gtr .i32 21 (z) 1114111 false rfl rfl rfl (by exact ltF (by omega)) ?_
          refine fr_end ?_
          refine to_then ?_
          refine fr_false rfl ?_
          refine wp_skip ?_
          refine to_then ?_
          refine fr_region ?_
          refine fr_assign (.bool false) rfl ?_
          refine fr_end ?_
          refine to_blockN ?_
          refine ⟨_, rfl, ⟨i + 1, ⟨h.h0, h.h1, h.h2, h.h3, h.h11, h.h12, h.hi, h.hn, h.row, h.below⟩, h32, .inr ⟨_, hgv, rfl, h34⟩⟩, ?_⟩
          rw [hsum]
          show s.size - num (g 12) < s.size - i
          rw [h.h12, num_int]; omega
end Go.Proofs.YtolgapijpejpoaaDoor
