/- The walk of Go's decoder of escapes: a part. Printed by gen_tte2.py. -/
import Derived.Test.YthknielnhmoobaaGreatDoorTt
namespace Go.Proofs.YthknielnhmoobaaGreatDoor
open Go.RowKit Go.Lib
set_option maxRecDepth 100000 in
theorem hex9_0 {w : World} {f : Nat → Value} {c d v : Nat} {Q : Exit → Act → World → Prop} (hsw : f 276 = .int .i32 (c : Int)) (hvar : f 27 = .int .i32 (c : Int)) (hval : f 25 = .int .i32 (v : Int)) (h1 : 48 ≤ c) (h2 : c ≤ 57) (hd : d + 48 = c) (hv : v ≤ 134217726)
    (hq : ∀ g, Keep (fun k => Nat.beq k 25 || (Nat.ble 282 k && Nat.ble k 323)) f g → g 25 = .int .i32 ((16 * v + d : Nat) : Int) → Q .normal (mk 567 g) w) :
    (sub B29 [1, 1, 1, 0, 0, 0, 1, 0, 1, 1, 0, 1, 0, 1, 1, 1, 0, 1, 1, 1, 0, 1, 1, 1, 1, 1, 1, 1, 1, 1, 1, 1, 1, 1, 1, 1, 1, 1, 0, 1, 1, 0, 1, 0, 0, 1, 0, 0, 1, 1, 1]).wp Tryz.prog Q (mk 567 f) w := by
  conv => arg 2; whnf
  refine wp_block ?_
  refine fr_seq ?_
  refine fr_seq ?_
  refine fr_region ?_
  by_cases hc48 : c = 48
  · refine fr_eq .i32 21 ((c : Nat) : Int) 48 true rfl hsw rfl (by exact eqT (by omega)) ?_
    refine fr_assign (.bool true) rfl ?_
    refine fr_end ?_
    refine to_then ?_
    refine fr_true rfl ?_
    refine wp_skip ?_
    refine to_then ?_
    refine fr_true rfl ?_
    refine fr_region ?_
    refine fr_move (.int .i32 ((v : Nat) : Int)) hval ?_
    refine fr_mul .i32 21 ((v : Nat) : Int) 16 ((v * 16 : Nat) : Int) rfl rfl rfl (by exact w32' (by omega) (by omega) (by omega)) ?_
    refine fr_move (.int .i32 ((c : Nat) : Int)) hvar ?_
    refine fr_sub .i32 21 ((c : Nat) : Int) 48 ((d : Nat) : Int) rfl rfl rfl (by exact w32' (by omega) (by omega) (by omega)) ?_
    refine fr_or .i32 21 ((v * 16 : Nat) : Int) ((d : Nat) : Int) ((16 * v + d : Nat) : Int) rfl rfl rfl (by exact or16n (by omega) (by omega)) ?_
    refine fr_assign (.int .i32 ((16 * v + d : Nat) : Int)) rfl ?_
    refine fr_end ?_
    refine to_blockN ?_
    exact hq _ (((((((((Keep.refl _ _).upd rfl).upd rfl).upd rfl).upd rfl).upd rfl).upd rfl).upd rfl).upd rfl) rfl
  refine fr_eq .i32 21 ((c : Nat) : Int) 48 false rfl hsw rfl (by exact eqF (by omega)) ?_
  refine fr_assign (.bool false) rfl ?_
  refine fr_end ?_
  refine to_then ?_
  refine fr_false rfl ?_
  refine fr_seq ?_
  refine fr_region ?_
  by_cases hc49 : c = 49
  · refine fr_eq .i32 21 ((c : Nat) : Int) 49 true rfl hsw rfl (by exact eqT (by omega)) ?_
    refine fr_assign (.bool true) rfl ?_
    refine fr_end ?_
    refine to_then ?_
    refine fr_true rfl ?_
    refine wp_skip ?_
    refine to_then ?_
    refine fr_true rfl ?_
    refine fr_region ?_
    refine fr_move (.int .i32 ((v : Nat) : Int)) hval ?_
    refine fr_mul .i32 21 ((v : Nat) : Int) 16 ((v * 16 : Nat) : Int) rfl rfl rfl (by exact w32' (by omega) (by omega) (by omega)) ?_
    refine fr_move (.int .i32 ((c : Nat) : Int)) hvar ?_
    refine fr_sub .i32 21 ((c : Nat) : Int) 48 ((d : Nat) : Int) rfl rfl rfl (by exact w32' (by omega) (by omega) (by omega)) ?_
    refine fr_or .i32 21 ((v * 16 : Nat) : Int) ((d : Nat) : Int) ((16 * v + d : Nat) : Int) rfl rfl rfl (by exact or16n (by omega) (by omega)) ?_
    refine fr_assign (.int .i32 ((16 * v + d : Nat) : Int)) rfl ?_
    refine fr_end ?_
    refine to_blockN ?_
    exact hq _ (((((((((((Keep.refl _ _).upd rfl).upd rfl).upd rfl).upd rfl).upd rfl).upd rfl).upd rfl).upd rfl).upd rfl).upd rfl) rfl
  refine fr_eq .i32 21 ((c : Nat) : Int) 49 false rfl hsw rfl (by exact eqF (by omega)) ?_
  refine fr_assign (.bool false) rfl ?_
  refine fr_end ?_
  refine to_then ?_
  refine fr_false rfl ?_
  refine fr_seq ?_
  refine fr_region ?_
  by_cases hc50 : c = 50
  · refine fr_eq .i32 21 ((c : Nat) : Int) 50 true rfl hsw rfl (by exact eqT (by omega)) ?_
    refine fr_assign (.bool true) rfl ?_
    refine fr_end ?_
    refine to_then ?_
    refine fr_true rfl ?_
    refine wp_skip ?_
    refine to_then ?_
    refine fr_true rfl ?_
    refine fr_region ?_
    refine fr_move (.int .i32 ((v : Nat) : Int)) hval ?_
    refine fr_mul .i32 21 ((v : Nat) : Int) 16 ((v * 16 : Nat) : Int) rfl rfl rfl (by exact w32' (by omega) (by omega) (by omega)) ?_
    refine fr_move (.int .i32 ((c : Nat) : Int)) hvar ?_
    refine fr_sub .i32 21 ((c : Nat) : Int) 48 ((d : Nat) : Int) rfl rfl rfl (by exact w32' (by omega) (by omega) (by omega)) ?_
    refine fr_or .i32 21 ((v * 16 : Nat) : Int) ((d : Nat) : Int) ((16 * v + d : Nat) : Int) rfl rfl rfl (by exact or16n (by omega) (by omega)) ?_
    refine fr_assign (.int .i32 ((16 * v + d : Nat) : Int)) rfl ?_
    refine fr_end ?_
    refine to_blockN ?_
    exact hq _ (((((((((((((Keep.refl _ _).upd rfl).upd rfl).upd rfl).upd rfl).upd rfl).upd rfl).upd rfl).upd rfl).upd rfl).upd rfl).upd rfl).upd rfl) rfl
  refine fr_eq .i32 21 ((c : Nat) : Int) 50 false rfl hsw rfl (by exact eqF (by omega)) ?_
  refine fr_assign (.bool false) rfl ?_
  refine fr_end ?_
  refine to_then ?_
  refine fr_false rfl ?_
  refine fr_seq ?_
  refine fr_region ?_
  by_cases hc51 : c = 51
  · refine fr_eq .i32 21 ((c : Nat) : Int) 51 true rfl hsw rfl (by exact eqT (by omega)) ?_
    refine fr_assign (.bool true) rfl ?_
    refine fr_end ?_
    refine to_then ?_
    refine fr_true rfl ?_
    refine wp_skip ?_
    refine to_then ?_
    refine fr_true rfl ?_
    refine fr_region ?_
    refine fr_move (.int .i32 ((v : Nat) : Int)) hval ?_
    refine fr_mul .i32 21 ((v : Nat) : Int) 16 ((v * 16 : Nat) : Int) rfl rfl rfl (by exact w32' (by omega) (by omega) (by omega)) ?_
    refine fr_move (.int .i32 ((c : Nat) : Int)) hvar ?_
    refine fr_sub .i32 21 ((c : Nat) : Int) 48 ((d : Nat) : Int) rfl rfl rfl (by exact w32' (by omega) (by omega) (by omega)) ?_
    refine fr_or .i32 21 ((v * 16 : Nat) : Int) ((d : Nat) : Int) ((16 * v + d : Nat) : Int) rfl rfl rfl (by exact or16n (by omega) (by omega)) ?_
    refine fr_assign (.int .i32 ((16 * v + d : Nat) : Int)) rfl ?_
    refine fr_end ?_
    refine to_blockN ?_
    exact hq _ (((((((((((((((Keep.refl _ _).upd rfl).upd rfl).upd rfl).upd rfl).upd rfl).upd rfl).upd rfl).upd rfl).upd rfl).upd rfl).upd rfl).upd rfl).upd rfl).upd rfl) rfl
  refine fr_eq .i32 21 ((c : Nat) : Int) 51 false rfl hsw rfl (by exact eqF (by omega)) ?_
  refine fr_assign (.bool false) rfl ?_
  refine fr_end ?_
  refine to_then ?_
  refine fr_false rfl ?_
  refine fr_seq ?_
  refine fr_region ?_
  by_cases hc52 : c = 52
  · refine fr_eq .i32 21 ((c : Nat) : Int) 52 true rfl hsw rfl (by exact eqT (by omega)) ?_
    refine fr_assign (.bool true) rfl ?_
    refine fr_end ?_
    refine to_then ?_
    refine fr_true rfl ?_
    refine wp_skip ?_
    refine to_then ?_
    refine fr_true rfl ?_
    refine fr_region ?_
    refine fr_move (.int .i32 ((v : Nat) : Int)) hval ?_
    refine fr_mul .i32 21 ((v : Nat) : Int) 16 ((v * 16 : Nat) : Int) rfl rfl rfl (by exact w32' (by omega) (by omega) (by omega)) ?_
    refine fr_move (.int .i32 ((c : Nat) : Int)) hvar ?_
    refine fr_sub .i32 21 ((c : Nat) : Int) 48 ((d : Nat) : Int) rfl rfl rfl (by exact w32' (by omega) (by omega) (by omega)) ?_
    refine fr_or .i32 21 ((v * 16 : Nat) : Int) ((d : Nat) : Int) ((16 * v + d : Nat) : Int) rfl rfl rfl (by exact or16n (by omega) (by omega)) ?_
    refine fr_assign (.int .i32 ((16 * v + d : Nat) : Int)) rfl ?_
    refine fr_end ?_
    refine to_blockN ?_
    exact hq _ (((((((((((((((((Keep.refl _ _).upd rfl).upd rfl).upd rfl).upd rfl).upd rfl).upd rfl).upd rfl).upd rfl).upd rfl).upd rfl).upd rfl).upd rfl).upd rfl).upd rfl).upd rfl).upd rfl) rfl
  refine fr_eq .i32 21 ((c : Nat) : Int) 52 false rfl hsw rfl (by exact eqF (by omega)) ?_
  refine fr_assign (.bool false) rfl ?_
  refine fr_end ?_
  refine to_then ?_
  refine fr_false rfl ?_
  refine fr_seq ?_
  refine fr_region ?_
  by_cases hc53 : c = 53
  · refine fr_eq .i32 21 ((c : Nat) : Int) 53 true rfl hsw rfl (by exact eqT (by omega)) ?_
    refine fr_assign (.bool true) rfl ?_
    refine fr_end ?_
    refine to_then ?_
    refine fr_true rfl ?_
    refine wp_skip ?_
    refine to_then ?_
    refine fr_true rfl ?_
    refine fr_region ?_
    refine fr_move (.int .i32 ((v : Nat) : Int)) hval ?_
    refine fr_mul .i32 21 ((v : Nat) : Int) 16 ((v * 16 : Nat) : Int) rfl rfl rfl (by exact w32' (by omega) (by omega) (by omega)) ?_
    refine fr_move (.int .i32 ((c : Nat) : Int)) hvar ?_
    refine fr_sub .i32 21 ((c : Nat) : Int) 48 ((d : Nat) : Int) rfl rfl rfl (by exact w32' (by omega) (by omega) (by omega)) ?_
    refine fr_or .i32 21 ((v * 16 : Nat) : Int) ((d : Nat) : Int) ((16 * v + d : Nat) : Int) rfl rfl rfl (by exact or16n (by omega) (by omega)) ?_
    refine fr_assign (.int .i32 ((16 * v + d : Nat) : Int)) rfl ?_
    refine fr_end ?_
    refine to_blockN ?_
    exact hq _ (((((((((((((((((((Keep.refl _ _).upd rfl).upd rfl).upd rfl).upd rfl).upd rfl).upd rfl).upd rfl).upd rfl).upd rfl).upd rfl).upd rfl).upd rfl).upd rfl).upd rfl).upd rfl).upd rfl).upd rfl).upd rfl) rfl
  refine fr_eq .i32 21 ((c : Nat) : Int) 53 false rfl hsw rfl (by exact eqF (by omega)) ?_
  refine fr_assign (.bool false) rfl ?_
  refine fr_end ?_
  refine to_then ?_
  refine fr_false rfl ?_
  refine fr_seq ?_
  refine fr_region ?_
  by_cases hc54 : c = 54
  · refine fr_eq .i32 21 ((c : Nat) : Int) 54 true rfl hsw rfl (by exact eqT (by omega)) ?_
    refine fr_assign (.bool true) rfl ?_
    refine fr_end ?_
    refine to_then ?_
    refine fr_true rfl ?_
    refine wp_skip ?_
    refine to_then ?_
    refine fr_true rfl ?_
    refine fr_region ?_
    refine fr_move (.int .i32 ((v : Nat) : Int)) hval ?_
    refine fr_mul .i32 21 ((v : Nat) : Int) 16 ((v * 16 : Nat) : Int) rfl rfl rfl (by exact w32' (by omega) (by omega) (by omega)) ?_
    refine fr_move (.int .i32 ((c : Nat) : Int)) hvar ?_
    refine fr_sub .i32 21 ((c : Nat) : Int) 48 ((d : Nat) : Int) rfl rfl rfl (by exact w32' (by omega) (by omega) (by omega)) ?_
    refine fr_or .i32 21 ((v * 16 : Nat) : Int) ((d : Nat) : Int) ((16 * v + d : Nat) : Int) rfl rfl rfl (by exact or16n (by omega) (by omega)) ?_
    refine fr_assign (.int .i32 ((16 * v + d : Nat) : Int)) rfl ?_
    refine fr_end ?_
    refine to_blockN ?_
    exact hq _ (((((((((((((((((((((Keep.refl _ _).upd rfl).upd rfl).upd rfl).upd rfl).upd rfl).upd rfl).upd rfl).upd rfl).upd rfl).upd rfl).upd rfl).upd rfl).upd rfl).upd rfl).upd rfl).upd rfl).upd rfl).upd rfl).upd rfl).upd rfl) rfl
  refine fr_eq .i32 21 ((c : Nat) : Int) 54 false rfl hsw rfl (by exact eqF (by omega)) ?_
  refine fr_assign (.bool false) rfl ?_
  refine fr_end ?_
  refine to_then ?_
  refine fr_false rfl ?_
  refine fr_seq ?_
  refine fr_region ?_
  by_cases hc55 : c = 55
  · refine fr_eq .i32 21 ((c : Nat) : Int) 55 true rfl hsw rfl (by exact eqT (by omega)) ?_
    refine fr_assign (.bool true) rfl ?_
    refine fr_end ?_
    refine to_then ?_
    refine fr_true rfl ?_
    refine wp_skip ?_
    refine to_then ?_
    refine fr_true rfl ?_
    refine fr_region ?_
    refine fr_move (.int .i32 ((v : Nat) : Int)) hval ?_
    refine fr_mul .i32 21 ((v : Nat) : Int) 16 ((v * 16 : Nat) : Int) rfl rfl rfl (by exact w32' (by omega) (by omega) (by omega)) ?_
    refine fr_move (.int .i32 ((c : Nat) : Int)) hvar ?_
    refine fr_sub .i32 21 ((c : Nat) : Int) 48 ((d : Nat) : Int) rfl rfl rfl (by exact w32' (by omega) (by omega) (by omega)) ?_
    refine fr_or .i32 21 ((v * 16 : Nat) : Int) ((d : Nat) : Int) ((16 * v + d : Nat) : Int) rfl rfl rfl (by exact or16n (by omega) (by omega)) ?_
    refine fr_assign (.int .i32 ((16 * v + d : Nat) : Int)) rfl ?_
    refine fr_end ?_
    refine to_blockN ?_
    exact hq _ (((((((((((((((((((((((Keep.refl _ _).upd rfl).upd rfl).upd rfl).upd rfl).upd rfl).upd rfl).upd rfl).upd rfl).upd rfl).upd rfl).upd rfl).upd rfl).upd rfl).upd rfl).upd rfl).upd rfl).upd rfl).upd rfl).upd rfl).upd rfl).upd rfl).upd rfl) rfl
  refine fr_eq .i32 21 ((c : Nat) : Int) 55 false rfl hsw rfl (by exact eqF (by omega)) ?_
  refine fr_assign (.bool false) rfl ?_
  refine fr_end ?_
  refine to_then ?_
  refine fr_false rfl ?_
  refine fr_seq ?_
  refine fr_region ?_
  by_cases hc56 : c = 56
  · refine fr_eq .i32 21 ((c : Nat) : Int) 56 true rfl hsw rfl (by exact eqT (by omega)) ?_
    refine fr_assign (.bool true) rfl ?_
    refine fr_end ?_
    refine to_then ?_
    refine fr_true rfl ?_
    refine wp_skip ?_
    refine to_then ?_
    refine fr_true rfl ?_
    refine fr_region ?_
    refine fr_move (.int .i32 ((v : Nat) : Int)) hval ?_
    refine fr_mul .i32 21 ((v : Nat) : Int) 16 ((v * 16 : Nat) : Int) rfl rfl rfl (by exact w32' (by omega) (by omega) (by omega)) ?_
    refine fr_move (.int .i32 ((c : Nat) : Int)) hvar ?_
    refine fr_sub .i32 21 ((c : Nat) : Int) 48 ((d : Nat) : Int) rfl rfl rfl (by exact w32' (by omega) (by omega) (by omega)) ?_
    refine fr_or .i32 21 ((v * 16 : Nat) : Int) ((d : Nat) : Int) ((16 * v + d : Nat) : Int) rfl rfl rfl (by exact or16n (by omega) (by omega)) ?_
    refine fr_assign (.int .i32 ((16 * v + d : Nat) : Int)) rfl ?_
    refine fr_end ?_
    refine to_blockN ?_
    exact hq _ (((((((((((((((((((((((((Keep.refl _ _).upd rfl).upd rfl).upd rfl).upd rfl).upd rfl).upd rfl).upd rfl).upd rfl).upd rfl).upd rfl).upd rfl).upd rfl).upd rfl).upd rfl).upd rfl).upd rfl).upd rfl).upd rfl).upd rfl).upd rfl).upd rfl).upd rfl).upd rfl).upd rfl) rfl
  refine fr_eq .i32 21 ((c : Nat) : Int) 56 false rfl hsw rfl (by exact eqF (by omega)) ?_
  refine fr_assign (.bool false) rfl ?_
  refine fr_end ?_
  refine to_then ?_
  refine fr_false rfl ?_
  refine fr_region ?_
  refine fr_eq .i32 21 ((c : Nat) : Int) 57 true rfl hsw rfl (by exact eqT (by omega)) ?_
  refine fr_assign (.bool true) rfl ?_
  refine fr_end ?_
  refine to_then ?_
  refine fr_true rfl ?_
  refine fr_region ?_
  refine fr_move (.int .i32 ((v : Nat) : Int)) hval ?_
  refine fr_mul .i32 21 ((v : Nat) : Int) 16 ((v * 16 : Nat) : Int) rfl rfl rfl (by exact w32' (by omega) (by omega) (by omega)) ?_
  refine fr_move (.int .i32 ((c : Nat) : Int)) hvar ?_
  refine fr_sub .i32 21 ((c : Nat) : Int) 48 ((d : Nat) : Int) rfl rfl rfl (by exact w32' (by omega) (by omega) (by omega)) ?_
  refine fr_or .i32 21 ((v * 16 : Nat) : Int) ((d : Nat) : Int) ((16 * v + d : Nat) : Int) rfl rfl rfl (by exact or16n (by omega) (by omega)) ?_
  refine fr_assign (.int .i32 ((16 * v + d : Nat) : Int)) rfl ?_
  refine fr_end ?_
  refine to_blockN ?_
  exact hq _ (((((((((((((((((((((((((((Keep.refl _ _).upd rfl).upd rfl).upd rfl).upd rfl).upd rfl).upd rfl).upd rfl).upd rfl).upd rfl).upd rfl).upd rfl).upd rfl).upd rfl).upd rfl).upd rfl).upd rfl).upd rfl).upd rfl).upd rfl).upd rfl).upd rfl).upd rfl).upd rfl).upd rfl).upd rfl).upd rfl) rfl
set_option maxRecDepth 100000 in
theorem hex9_1 {w : World} {f : Nat → Value} {c d v : Nat} {Q : Exit → Act → World → Prop} (hsw : f 276 = .int .i32 (c : Int)) (hvar : f 27 = .int .i32 (c : Int)) (hval : f 25 = .int .i32 (v : Int)) (h1 : 97 ≤ c) (h2 : c ≤ 102) (hd : d + 87 = c) (hv : v ≤ 134217726)
    (hq : ∀ g, Keep (fun k => Nat.beq k 25 || (Nat.ble 282 k && Nat.ble k 323)) f g → g 25 = .int .i32 ((16 * v + d : Nat) : Int) → Q .normal (mk 567 g) w) :
    (sub B29 [1, 1, 1, 0, 0, 0, 1, 0, 1, 1, 0, 1, 0, 1, 1, 1, 0, 1, 1, 1, 0, 1, 1, 1, 1, 1, 1, 1, 1, 1, 1, 1, 1, 1, 1, 1, 1, 1, 0, 1, 1, 0, 1, 0, 0, 1, 0, 0, 1, 1, 1]).wp Tryz.prog Q (mk 567 f) w := by
  conv => arg 2; whnf
  refine wp_block ?_
  refine fr_seq ?_
  refine fr_seq ?_
  refine fr_region ?_
  refine fr_eq .i32 21 ((c : Nat) : Int) 48 false rfl hsw rfl (by exact eqF (by omega)) ?_
  refine fr_assign (.bool false) rfl ?_
  refine fr_end ?_
  refine to_then ?_
  refine fr_false rfl ?_
  refine fr_seq ?_
  refine fr_region ?_
  refine fr_eq .i32 21 ((c : Nat) : Int) 49 false rfl hsw rfl (by exact eqF (by omega)) ?_
  refine fr_assign (.bool false) rfl ?_
  refine fr_end ?_
  refine to_then ?_
  refine fr_false rfl ?_
  refine fr_seq ?_
  refine fr_region ?_
  refine fr_eq .i32 21 ((c : Nat) : Int) 50 false rfl hsw rfl (by exact eqF (by omega)) ?_
  refine fr_assign (.bool false) rfl ?_
  refine fr_end ?_
  refine to_then ?_
  refine fr_false rfl ?_
  refine fr_seq ?_
  refine fr_region ?_
  refine fr_eq .i32 21 ((c : Nat) : Int) 51 false rfl hsw rfl (by exact eqF (by omega)) ?_
  refine fr_assign (.bool false) rfl ?_
  refine fr_end ?_
  refine to_then ?_
  refine fr_false rfl ?_
  refine fr_seq ?_
  refine fr_region ?_
  refine fr_eq .i32 21 ((c : Nat) : Int) 52 false rfl hsw rfl (by exact eqF (by omega)) ?_
  refine fr_assign (.bool false) rfl ?_
  refine fr_end ?_
  refine to_then ?_
  refine fr_false rfl ?_
  refine fr_seq ?_
  refine fr_region ?_
  refine fr_eq .i32 21 ((c : Nat) : Int) 53 false rfl hsw rfl (by exact eqF (by omega)) ?_
  refine fr_assign (.bool false) rfl ?_
  refine fr_end ?_
  refine to_then ?_
  refine fr_false rfl ?_
  refine fr_seq ?_
  refine fr_region ?_
  refine fr_eq .i32 21 ((c : Nat) : Int) 54 false rfl hsw rfl (by exact eqF (by omega)) ?_
  refine fr_assign (.bool false) rfl ?_
  refine fr_end ?_
  refine to_then ?_
  refine fr_false rfl ?_
  refine fr_seq ?_
  refine fr_region ?_
  refine fr_eq .i32 21 ((c : Nat) : Int) 55 false rfl hsw rfl (by exact eqF (by omega)) ?_
  refine fr_assign (.bool false) rfl ?_
  refine fr_end ?_
  refine to_then ?_
  refine fr_false rfl ?_
  refine fr_seq ?_
  refine fr_region ?_
  refine fr_eq .i32 21 ((c : Nat) : Int) 56 false rfl hsw rfl (by exact eqF (by omega)) ?_
  refine fr_assign (.bool false) rfl ?_
  refine fr_end ?_
  refine to_then ?_
  refine fr_false rfl ?_
  refine fr_region ?_
  refine fr_eq .i32 21 ((c : Nat) : Int) 57 false rfl hsw rfl (by exact eqF (by omega)) ?_
  refine fr_assign (.bool false) rfl ?_
  refine fr_end ?_
  refine to_then ?_
  refine fr_false rfl ?_
  refine fr_seq ?_
  refine fr_seq ?_
  refine fr_region ?_
  by_cases hc97 : c = 97
  · refine fr_eq .i32 21 ((c : Nat) : Int) 97 true rfl hsw rfl (by exact eqT (by omega)) ?_
    refine fr_assign (.bool true) rfl ?_
    refine fr_end ?_
    refine to_then ?_
    refine fr_true rfl ?_
    refine wp_skip ?_
    refine to_then ?_
    refine fr_true rfl ?_
    refine fr_region ?_
    refine fr_move (.int .i32 ((v : Nat) : Int)) hval ?_
    refine fr_mul .i32 21 ((v : Nat) : Int) 16 ((v * 16 : Nat) : Int) rfl rfl rfl (by exact w32' (by omega) (by omega) (by omega)) ?_
    refine fr_move (.int .i32 ((c : Nat) : Int)) hvar ?_
    refine fr_add .i32 21 ((c : Nat) : Int) 10 ((c + 10 : Nat) : Int) rfl rfl rfl (by exact w32' (by omega) (by omega) (by omega)) ?_
    refine fr_sub .i32 21 ((c + 10 : Nat) : Int) 97 ((d : Nat) : Int) rfl rfl rfl (by exact w32' (by omega) (by omega) (by omega)) ?_
    refine fr_or .i32 21 ((v * 16 : Nat) : Int) ((d : Nat) : Int) ((16 * v + d : Nat) : Int) rfl rfl rfl (by exact or16n (by omega) (by omega)) ?_
    refine fr_assign (.int .i32 ((16 * v + d : Nat) : Int)) rfl ?_
    refine fr_end ?_
    refine to_blockN ?_
    exact hq _ ((((((((((((((((((((((((((((((Keep.refl _ _).upd rfl).upd rfl).upd rfl).upd rfl).upd rfl).upd rfl).upd rfl).upd rfl).upd rfl).upd rfl).upd rfl).upd rfl).upd rfl).upd rfl).upd rfl).upd rfl).upd rfl).upd rfl).upd rfl).upd rfl).upd rfl).upd rfl).upd rfl).upd rfl).upd rfl).upd rfl).upd rfl).upd rfl).upd rfl) rfl
  refine fr_eq .i32 21 ((c : Nat) : Int) 97 false rfl hsw rfl (by exact eqF (by omega)) ?_
  refine fr_assign (.bool false) rfl ?_
  refine fr_end ?_
  refine to_then ?_
  refine fr_false rfl ?_
  refine fr_seq ?_
  refine fr_region ?_
  by_cases hc98 : c = 98
  · refine fr_eq .i32 21 ((c : Nat) : Int) 98 true rfl hsw rfl (by exact eqT (by omega)) ?_
    refine fr_assign (.bool true) rfl ?_
    refine fr_end ?_
    refine to_then ?_
    refine fr_true rfl ?_
    refine wp_skip ?_
    refine to_then ?_
    refine fr_true rfl ?_
    refine fr_region ?_
    refine fr_move (.int .i32 ((v : Nat) : Int)) hval ?_
    refine fr_mul .i32 21 ((v : Nat) : Int) 16 ((v * 16 : Nat) : Int) rfl rfl rfl (by exact w32' (by omega) (by omega) (by omega)) ?_
    refine fr_move (.int .i32 ((c : Nat) : Int)) hvar ?_
    refine fr_add .i32 21 ((c : Nat) : Int) 10 ((c + 10 : Nat) : Int) rfl rfl rfl (by exact w32' (by omega) (by omega) (by omega)) ?_
    refine fr_sub .i32 21 ((c + 10 : Nat) : Int) 97 ((d : Nat) : Int) rfl rfl rfl (by exact w32' (by omega) (by omega) (by omega)) ?_
    refine fr_or .i32 21 ((v * 16 : Nat) : Int) ((d : Nat) : Int) ((16 * v + d : Nat) : Int) rfl rfl rfl (by exact or16n (by omega) (by omega)) ?_
    refine fr_assign (.int .i32 ((16 * v + d : Nat) : Int)) rfl ?_
    refine fr_end ?_
    refine to_blockN ?_
    exact hq _ ((((((((((((((((((((((((((((((((Keep.refl _ _).upd rfl).upd rfl).upd rfl).upd rfl).upd rfl).upd rfl).upd rfl).upd rfl).upd rfl).upd rfl).upd rfl).upd rfl).upd rfl).upd rfl).upd rfl).upd rfl).upd rfl).upd rfl).upd rfl).upd rfl).upd rfl).upd rfl).upd rfl).upd rfl).upd rfl).upd rfl).upd rfl).upd rfl).upd rfl).upd rfl).upd rfl) rfl
  refine fr_eq .i32 21 ((c : Nat) : Int) 98 false rfl hsw rfl (by exact eqF (by omega)) ?_
  refine fr_assign (.bool false) rfl ?_
  refine fr_end ?_
  refine to_then ?_
  refine fr_false rfl ?_
  refine fr_seq ?_
  refine fr_region ?_
  by_cases hc99 : c = 99
  · refine fr_eq .i32 21 ((c : Nat) : Int) 99 true rfl hsw rfl (by exact eqT (by omega)) ?_
    refine fr_assign (.bool true) rfl ?_
    refine fr_end ?_
    refine to_then ?_
    refine fr_true rfl ?_
    refine wp_skip ?_
    refine to_then ?_
    refine fr_true rfl ?_
    refine fr_region ?_
    refine fr_move (.int .i32 ((v : Nat) : Int)) hval ?_
    refine fr_mul .i32 21 ((v : Nat) : Int) 16 ((v * 16 : Nat) : Int) rfl rfl rfl (by exact w32' (by omega) (by omega) (by omega)) ?_
    refine fr_move (.int .i32 ((c : Nat) : Int)) hvar ?_
    refine fr_add .i32 21 ((c : Nat) : Int) 10 ((c + 10 : Nat) : Int) rfl rfl rfl (by exact w32' (by omega) (by omega) (by omega)) ?_
    refine fr_sub .i32 21 ((c + 10 : Nat) : Int) 97 ((d : Nat) : Int) rfl rfl rfl (by exact w32' (by omega) (by omega) (by omega)) ?_
    refine fr_or .i32 21 ((v * 16 : Nat) : Int) ((d : Nat) : Int) ((16 * v + d : Nat) : Int) rfl rfl rfl (by exact or16n (by omega) (by omega)) ?_
    refine fr_assign (.int .i32 ((16 * v + d : Nat) : Int)) rfl ?_
    refine fr_end ?_
    refine to_blockN ?_
    exact hq _ ((((((((((((((((((((((((((((((((((Keep.refl _ _).upd rfl).upd rfl).upd rfl).upd rfl).upd rfl).upd rfl).upd rfl).upd rfl).upd rfl).upd rfl).upd rfl).upd rfl).upd rfl).upd rfl).upd rfl).upd rfl).upd rfl).upd rfl).upd rfl).upd rfl).upd rfl).upd rfl).upd rfl).upd rfl).upd rfl).upd rfl).upd rfl).upd rfl).upd rfl).upd rfl).upd rfl).upd rfl).upd rfl) rfl
  refine fr_eq .i32 21 ((c : Nat) : Int) 99 false rfl hsw rfl (by exact eqF (by omega)) ?_
  refine fr_assign (.bool false) rfl ?_
  refine fr_end ?_
  refine to_then ?_
  refine fr_false rfl ?_
  refine fr_seq ?_
  refine fr_region ?_
  by_cases hc100 : c = 100
  · refine fr_eq .i32 21 ((c : Nat) : Int) 100 true rfl hsw rfl (by exact eqT (by omega)) ?_
    refine fr_assign (.bool true) rfl ?_
    refine fr_end ?_
    refine to_then ?_
    refine fr_true rfl ?_
    refine wp_skip ?_
    refine to_then ?_
    refine fr_true rfl ?_
    refine fr_region ?_
    refine fr_move (.int .i32 ((v : Nat) : Int)) hval ?_
    refine fr_mul .i32 21 ((v : Nat) : Int) 16 ((v * 16 : Nat) : Int) rfl rfl rfl (by exact w32' (by omega) (by omega) (by omega)) ?_
    refine fr_move (.int .i32 ((c : Nat) : Int)) hvar ?_
    refine fr_add .i32 21 ((c : Nat) : Int) 10 ((c + 10 : Nat) : Int) rfl rfl rfl (by exact w32' (by omega) (by omega) (by omega)) ?_
    refine fr_sub .i32 21 ((c + 10 : Nat) : Int) 97 ((d : Nat) : Int) rfl rfl rfl (by exact w32' (by omega) (by omega) (by omega)) ?_
    refine fr_or .i32 21 ((v * 16 : Nat) : Int) ((d : Nat) : Int) ((16 * v + d : Nat) : Int) rfl rfl rfl (by exact or16n (by omega) (by omega)) ?_
    refine fr_assign (.int .i32 ((16 * v + d : Nat) : Int)) rfl ?_
    refine fr_end ?_
    refine to_blockN ?_
    exact hq _ ((((((((((((((((((((((((((((((((((((Keep.refl _ _).upd rfl).upd rfl).upd rfl).upd rfl).upd rfl).upd rfl).upd rfl).upd rfl).upd rfl).upd rfl).upd rfl).upd rfl).upd rfl).upd rfl).upd rfl).upd rfl).upd rfl).upd rfl).upd rfl).upd rfl).upd rfl).upd rfl).upd rfl).upd rfl).upd rfl).upd rfl).upd rfl).upd rfl).upd rfl).upd rfl).upd rfl).upd rfl).upd rfl).upd rfl).upd rfl) rfl
  refine fr_eq .i32 21 ((c : Nat) : Int) 100 false rfl hsw rfl (by exact eqF (by omega)) ?_
  refine fr_assign (.bool false) rfl ?_
  refine fr_end ?_
  refine to_then ?_
  refine fr_false rfl ?_
  refine fr_seq ?_
  refine fr_region ?_
  by_cases hc101 : c = 101
  · refine fr_eq .i32 21 ((c : Nat) : Int) 101 true rfl hsw rfl (by exact eqT (by omega)) ?_
    refine fr_assign (.bool true) rfl ?_
    refine fr_end ?_
    refine to_then ?_
    refine fr_true rfl ?_
    refine wp_skip ?_
    refine to_then ?_
    refine fr_true rfl ?_
    refine fr_region ?_
    refine fr_move (.int .i32 ((v : Nat) : Int)) hval ?_
    refine fr_mul .i32 21 ((v : Nat) : Int) 16 ((v * 16 : Nat) : Int) rfl rfl rfl (by exact w32' (by omega) (by omega) (by omega)) ?_
    refine fr_move (.int .i32 ((c : Nat) : Int)) hvar ?_
    refine fr_add .i32 21 ((c : Nat) : Int) 10 ((c + 10 : Nat) : Int) rfl rfl rfl (by exact w32' (by omega) (by omega) (by omega)) ?_
    refine fr_sub .i32 21 ((c + 10 : Nat) : Int) 97 ((d : Nat) : Int) rfl rfl rfl (by exact w32' (by omega) (by omega) (by omega)) ?_
    refine fr_or .i32 21 ((v * 16 : Nat) : Int) ((d : Nat) : Int) ((16 * v + d : Nat) : Int) rfl rfl rfl (by exact or16n (by omega) (by omega)) ?_
    refine fr_assign (.int .i32 ((16 * v + d : Nat) : Int)) rfl ?_
    refine fr_end ?_
    refine to_blockN ?_
    exact hq _ ((((((((((((((((((((((((((((((((((((((Keep.refl _ _).upd rfl).upd rfl).upd rfl).upd rfl).upd rfl).upd rfl).upd rfl).upd rfl).upd rfl).upd rfl).upd rfl).upd rfl).upd rfl).upd rfl).upd rfl).upd rfl).upd rfl).upd rfl).upd rfl).upd rfl).upd rfl).upd rfl).upd rfl).upd rfl).upd rfl).upd rfl).upd rfl).upd rfl).upd rfl).upd rfl).upd rfl).upd rfl).upd rfl).upd rfl).upd rfl).upd rfl).upd rfl) rfl
  refine fr_eq .i32 21 ((c : Nat) : Int) 101 false rfl hsw rfl (by exact eqF (by omega)) ?_
  refine fr_assign (.bool false) rfl ?_
  refine fr_end ?_
  refine to_then ?_
  refine fr_false rfl ?_
  refine fr_region ?_
  refine fr_eq .i32 21 ((c : Nat) : Int) 102 true rfl hsw rfl (by exact eqT (by omega)) ?_
  refine fr_assign (.bool true) rfl ?_
  refine fr_end ?_
  refine to_then ?_
  refine fr_true rfl ?_
  refine fr_region ?_
  refine fr_move (.int .i32 ((v : Nat) : Int)) hval ?_
  refine fr_mul .i32 21 ((v : Nat) : Int) 16 ((v * 16 : Nat) : Int) rfl rfl rfl (by exact w32' (by omega) (by omega) (by omega)) ?_
  refine fr_move (.int .i32 ((c : Nat) : Int)) hvar ?_
  refine fr_add .i32 21 ((c : Nat) : Int) 10 ((c + 10 : Nat) : Int) rfl rfl rfl (by exact w32' (by omega) (by omega) (by omega)) ?_
  refine fr_sub .i32 21 ((c + 10 : Nat) : Int) 97 ((d : Nat) : Int) rfl rfl rfl (by exact w32' (by omega) (by omega) (by omega)) ?_
  refine fr_or .i32 21 ((v * 16 : Nat) : Int) ((d : Nat) : Int) ((16 * v + d : Nat) : Int) rfl rfl rfl (by exact or16n (by omega) (by omega)) ?_
  refine fr_assign (.int .i32 ((16 * v + d : Nat) : Int)) rfl ?_
  refine fr_end ?_
  refine to_blockN ?_
  exact hq _ ((((((((((((((((((((((((((((((((((((((((Keep.refl _ _).upd rfl).upd rfl).upd rfl).upd rfl).upd rfl).upd rfl).upd rfl).upd rfl).upd rfl).upd rfl).upd rfl).upd rfl).upd rfl).upd rfl).upd rfl).upd rfl).upd rfl).upd rfl).upd rfl).upd rfl).upd rfl).upd rfl).upd rfl).upd rfl).upd rfl).upd rfl).upd rfl).upd rfl).upd rfl).upd rfl).upd rfl).upd rfl).upd rfl).upd rfl).upd rfl).upd rfl).upd rfl).upd rfl).upd rfl) rfl
set_option maxRecDepth 100000 in
theorem hex9_2 {w : World} {f : Nat → Value} {c d v : Nat} {Q : Exit → Act → World → Prop} (hsw : f 276 = .int .i32 (c : Int)) (hvar : f 27 = .int .i32 (c : Int)) (hval : f 25 = .int .i32 (v : Int)) (h1 : 65 ≤ c) (h2 : c ≤ 70) (hd : d + 55 = c) (hv : v ≤ 134217726)
    (hq : ∀ g, Keep (fun k => Nat.beq k 25 || (Nat.ble 282 k && Nat.ble k 323)) f g → g 25 = .int .i32 ((16 * v + d : Nat) : Int) → Q .normal (mk 567 g) w) :
    (sub B29 [1, 1, 1, 0, 0, 0, 1, 0, 1, 1, 0, 1, 0, 1, 1, 1, 0, 1, 1, 1, 0, 1, 1, 1, 1, 1, 1, 1, 1, 1, 1, 1, 1, 1, 1, 1, 1, 1, 0, 1, 1, 0, 1, 0, 0, 1, 0, 0, 1, 1, 1]).wp Tryz.prog Q (mk 567 f) w := by
  conv => arg 2; whnf
  refine wp_block ?_
  refine fr_seq ?_
  refine fr_seq ?_
  refine fr_region ?_
  refine fr_eq .i32 21 ((c : Nat) : Int) 48 false rfl hsw rfl (by exact eqF (by omega)) ?_
  refine fr_assign (.bool false) rfl ?_
  refine fr_end ?_
  refine to_then ?_
  refine fr_false rfl ?_
  refine fr_seq ?_
  refine fr_region ?_
  refine fr_eq .i32 21 ((c : Nat) : Int) 49 false rfl hsw rfl (by exact eqF (by omega)) ?_
  refine fr_assign (.bool false) rfl ?_
  refine fr_end ?_
  refine to_then ?_
  refine fr_false rfl ?_
  refine fr_seq ?_
  refine fr_region ?_
  refine fr_eq .i32 21 ((c : Nat) : Int) 50 false rfl hsw rfl (by exact eqF (by omega)) ?_
  refine fr_assign (.bool false) rfl ?_
  refine fr_end ?_
  refine to_then ?_
  refine fr_false rfl ?_
  refine fr_seq ?_
  refine fr_region ?_
  refine fr_eq .i32 21 ((c : Nat) : Int) 51 false rfl hsw rfl (by exact eqF (by omega)) ?_
  refine fr_assign (.bool false) rfl ?_
  refine fr_end ?_
  refine to_then ?_
  refine fr_false rfl ?_
  refine fr_seq ?_
  refine fr_region ?_
  refine fr_eq .i32 21 ((c : Nat) : Int) 52 false rfl hsw rfl (by exact eqF (by omega)) ?_
  refine fr_assign (.bool false) rfl ?_
  refine fr_end ?_
  refine to_then ?_
  refine fr_false rfl ?_
  refine fr_seq ?_
  refine fr_region ?_
  refine fr_eq .i32 21 ((c : Nat) : Int) 53 false rfl hsw rfl (by exact eqF (by omega)) ?_
  refine fr_assign (.bool false) rfl ?_
  refine fr_end ?_
  refine to_then ?_
  refine fr_false rfl ?_
  refine fr_seq ?_
  refine fr_region ?_
  refine fr_eq .i32 21 ((c : Nat) : Int) 54 false rfl hsw rfl (by exact eqF (by omega)) ?_
  refine fr_assign (.bool false) rfl ?_
  refine fr_end ?_
  refine to_then ?_
  refine fr_false rfl ?_
  refine fr_seq ?_
  refine fr_region ?_
  refine fr_eq .i32 21 ((c : Nat) : Int) 55 false rfl hsw rfl (by exact eqF (by omega)) ?_
  refine fr_assign (.bool false) rfl ?_
  refine fr_end ?_
  refine to_then ?_
  refine fr_false rfl ?_
  refine fr_seq ?_
  refine fr_region ?_
  refine fr_eq .i32 21 ((c : Nat) : Int) 56 false rfl hsw rfl (by exact eqF (by omega)) ?_
  refine fr_assign (.bool false) rfl ?_
  refine fr_end ?_
  refine to_then ?_
  refine fr_false rfl ?_
  refine fr_region ?_
  refine fr_eq .i32 21 ((c : Nat) : Int) 57 false rfl hsw rfl (by exact eqF (by omega)) ?_
  refine fr_assign (.bool false) rfl ?_
  refine fr_end ?_
  refine to_then ?_
  refine fr_false rfl ?_
  refine fr_seq ?_
  refine fr_seq ?_
  refine fr_region ?_
  refine fr_eq .i32 21 ((c : Nat) : Int) 97 false rfl hsw rfl (by exact eqF (by omega)) ?_
  refine fr_assign (.bool false) rfl ?_
  refine fr_end ?_
  refine to_then ?_
  refine fr_false rfl ?_
  refine fr_seq ?_
  refine fr_region ?_
  refine fr_eq .i32 21 ((c : Nat) : Int) 98 false rfl hsw rfl (by exact eqF (by omega)) ?_
  refine fr_assign (.bool false) rfl ?_
  refine fr_end ?_
  refine to_then ?_
  refine fr_false rfl ?_
  refine fr_seq ?_
  refine fr_region ?_
  refine fr_eq .i32 21 ((c : Nat) : Int) 99 false rfl hsw rfl (by exact eqF (by omega)) ?_
  refine fr_assign (.bool false) rfl ?_
  refine fr_end ?_
  refine to_then ?_
  refine fr_false rfl ?_
  refine fr_seq ?_
  refine fr_region ?_
  refine fr_eq .i32 21 ((c : Nat) : Int) 100 false rfl hsw rfl (by exact eqF (by omega)) ?_
  refine fr_assign (.bool false) rfl ?_
  refine fr_end ?_
  refine to_then ?_
  refine fr_false rfl ?_
  refine fr_seq ?_
  refine fr_region ?_
  refine fr_eq .i32 21 ((c : Nat) : Int) 101 false rfl hsw rfl (by exact eqF (by omega)) ?_
  refine fr_assign (.bool false) rfl ?_
  refine fr_end ?_
  refine to_then ?_
  refine fr_false rfl ?_
  refine fr_region ?_
  refine fr_eq .i32 21 ((c : Nat) : Int) 102 false rfl hsw rfl (by exact eqF (by omega)) ?_
  refine fr_assign (.bool false) rfl ?_
  refine fr_end ?_
  refine to_then ?_
  refine fr_false rfl ?_
  refine fr_seq ?_
  refine fr_seq ?_
  refine fr_region ?_
  by_cases hc65 : c = 65
  · refine fr_eq .i32 21 ((c : Nat) : Int) 65 true rfl hsw rfl (by exact eqT (by omega)) ?_
    refine fr_assign (.bool true) rfl ?_
    refine fr_end ?_
    refine to_then ?_
    refine fr_true rfl ?_
    refine wp_skip ?_
    refine to_then ?_
    refine fr_true rfl ?_
    refine fr_region ?_
    refine fr_move (.int .i32 ((v : Nat) : Int)) hval ?_
    refine fr_mul .i32 21 ((v : Nat) : Int) 16 ((v * 16 : Nat) : Int) rfl rfl rfl (by exact w32' (by omega) (by omega) (by omega)) ?_
    refine fr_move (.int .i32 ((c : Nat) : Int)) hvar ?_
    refine fr_add .i32 21 ((c : Nat) : Int) 10 ((c + 10 : Nat) : Int) rfl rfl rfl (by exact w32' (by omega) (by omega) (by omega)) ?_
    refine fr_sub .i32 21 ((c + 10 : Nat) : Int) 65 ((d : Nat) : Int) rfl rfl rfl (by exact w32' (by omega) (by omega) (by omega)) ?_
    refine fr_or .i32 21 ((v * 16 : Nat) : Int) ((d : Nat) : Int) ((16 * v + d : Nat) : Int) rfl rfl rfl (by exact or16n (by omega) (by omega)) ?_
    refine fr_assign (.int .i32 ((16 * v + d : Nat) : Int)) rfl ?_
    refine fr_end ?_
    refine to_blockN ?_
    exact hq _ ((((((((((((((((((((((((((((((((((((((((((Keep.refl _ _).upd rfl).upd rfl).upd rfl).upd rfl).upd rfl).upd rfl).upd rfl).upd rfl).upd rfl).upd rfl).upd rfl).upd rfl).upd rfl).upd rfl).upd rfl).upd rfl).upd rfl).upd rfl).upd rfl).upd rfl).upd rfl).upd rfl).upd rfl).upd rfl).upd rfl).upd rfl).upd rfl).upd rfl).upd rfl).upd rfl).upd rfl).upd rfl).upd rfl).upd rfl).upd rfl).upd rfl).upd rfl).upd rfl).upd rfl).upd rfl).upd rfl) rfl
  refine fr_eq .i32 21 ((c : Nat) : Int) 65 false rfl hsw rfl (by exact eqF (by omega)) ?_
  refine fr_assign (.bool false) rfl ?_
  refine fr_end ?_
  refine to_then ?_
  refine fr_false rfl ?_
  refine fr_seq ?_
  refine fr_region ?_
  by_cases hc66 : c = 66
  · refine fr_eq .i32 21 ((c : Nat) : Int) 66 true rfl hsw rfl (by exact eqT (by omega)) ?_
    refine fr_assign (.bool true) rfl ?_
    refine fr_end ?_
    refine to_then ?_
    refine fr_true rfl ?_
    refine wp_skip ?_
    refine to_then ?_
    refine fr_true rfl ?_
    refine fr_region ?_
    refine fr_move (.int .i32 ((v : Nat) : Int)) hval ?_
    refine fr_mul .i32 21 ((v : Nat) : Int) 16 ((v * 16 : Nat) : Int) rfl rfl rfl (by exact w32' (by omega) (by omega) (by omega)) ?_
    refine fr_move (.int .i32 ((c : Nat) : Int)) hvar ?_
    refine fr_add .i32 21 ((c : Nat) : Int) 10 ((c + 10 : Nat) : Int) rfl rfl rfl (by exact w32' (by omega) (by omega) (by omega)) ?_
    refine fr_sub .i32 21 ((c + 10 : Nat) : Int) 65 ((d : Nat) : Int) rfl rfl rfl (by exact w32' (by omega) (by omega) (by omega)) ?_
    refine fr_or .i32 21 ((v * 16 : Nat) : Int) ((d : Nat) : Int) ((16 * v + d : Nat) : Int) rfl rfl rfl (by exact or16n (by omega) (by omega)) ?_
    refine fr_assign (.int .i32 ((16 * v + d : Nat) : Int)) rfl ?_
    refine fr_end ?_
    refine to_blockN ?_
    exact hq _ ((((((((((((((((((((((((((((((((((((((((((((Keep.refl _ _).upd rfl).upd rfl).upd rfl).upd rfl).upd rfl).upd rfl).upd rfl).upd rfl).upd rfl).upd rfl).upd rfl).upd rfl).upd rfl).upd rfl).upd rfl).upd rfl).upd rfl).upd rfl).upd rfl).upd rfl).upd rfl).upd rfl).upd rfl).upd rfl).upd rfl).upd rfl).upd rfl).upd rfl).upd rfl).upd rfl).upd rfl).upd rfl).upd rfl).upd rfl).upd rfl).upd rfl).upd rfl).upd rfl).upd rfl).upd rfl).upd rfl).upd rfl).upd rfl) rfl
  refine fr_eq .i32 21 ((c : Nat) : Int) 66 false rfl hsw rfl (by exact eqF (by omega)) ?_
  refine fr_assign (.bool false) rfl ?_
  refine fr_end ?_
  refine to_then ?_
  refine fr_false rfl ?_
  refine fr_seq ?_
  refine fr_region ?_
  by_cases hc67 : c = 67
  · refine fr_eq .i32 21 ((c : Nat) : Int) 67 true rfl hsw rfl (by exact eqT (by omega)) ?_
    refine fr_assign (.bool true) rfl ?_
    refine fr_end ?_
    refine to_then ?_
    refine fr_true rfl ?_
    refine wp_skip ?_
    refine to_then ?_
    refine fr_true rfl ?_
    refine fr_region ?_
    refine fr_move (.int .i32 ((v : Nat) : Int)) hval ?_
    refine fr_mul .i32 21 ((v : Nat) : Int) 16 ((v * 16 : Nat) : Int) rfl rfl rfl (by exact w32' (by omega) (by omega) (by omega)) ?_
    refine fr_move (.int .i32 ((c : Nat) : Int)) hvar ?_
    refine fr_add .i32 21 ((c : Nat) : Int) 10 ((c + 10 : Nat) : Int) rfl rfl rfl (by exact w32' (by omega) (by omega) (by omega)) ?_
    refine fr_sub .i32 21 ((c + 10 : Nat) : Int) 65 ((d : Nat) : Int) rfl rfl rfl (by exact w32' (by omega) (by omega) (by omega)) ?_
    refine fr_or .i32 21 ((v * 16 : Nat) : Int) ((d : Nat) : Int) ((16 * v + d : Nat) : Int) rfl rfl rfl (by exact or16n (by omega) (by omega)) ?_
    refine fr_assign (.int .i32 ((16 * v + d : Nat) : Int)) rfl ?_
    refine fr_end ?_
    refine to_blockN ?_
    exact hq _ ((((((((((((((((((((((((((((((((((((((((((((((Keep.refl _ _).upd rfl).upd rfl).upd rfl).upd rfl).upd rfl).upd rfl).upd rfl).upd rfl).upd rfl).upd rfl).upd rfl).upd rfl).upd rfl).upd rfl).upd rfl).upd rfl).upd rfl).upd rfl).upd rfl).upd rfl).upd rfl).upd rfl).upd rfl).upd rfl).upd rfl).upd rfl).upd rfl).upd rfl).upd rfl).upd rfl).upd rfl).upd rfl).upd rfl).upd rfl).upd rfl).upd rfl).upd rfl).upd rfl).upd rfl).upd rfl).upd rfl).upd rfl).upd rfl).upd rfl).upd rfl) rfl
  refine fr_eq .i32 21 ((c : Nat) : Int) 67 false rfl hsw rfl (by exact eqF (by omega)) ?_
  refine fr_assign (.bool false) rfl ?_
  refine fr_end ?_
  refine to_then ?_
  refine fr_false rfl ?_
  refine fr_seq ?_
  refine fr_region ?_
  by_cases hc68 : c = 68
  · refine fr_eq .i32 21 ((c : Nat) : Int) 68 true rfl hsw rfl (by exact eqT (by omega)) ?_
    refine fr_assign (.bool true) rfl ?_
    refine fr_end ?_
    refine to_then ?_
    refine fr_true rfl ?_
    refine wp_skip ?_
    refine to_then ?_
    refine fr_true rfl ?_
    refine fr_region ?_
    refine fr_move (.int .i32 ((v : Nat) : Int)) hval ?_
    refine fr_mul .i32 21 ((v : Nat) : Int) 16 ((v * 16 : Nat) : Int) rfl rfl rfl (by exact w32' (by omega) (by omega) (by omega)) ?_
    refine fr_move (.int .i32 ((c : Nat) : Int)) hvar ?_
    refine fr_add .i32 21 ((c : Nat) : Int) 10 ((c + 10 : Nat) : Int) rfl rfl rfl (by exact w32' (by omega) (by omega) (by omega)) ?_
    refine fr_sub .i32 21 ((c + 10 : Nat) : Int) 65 ((d : Nat) : Int) rfl rfl rfl (by exact w32' (by omega) (by omega) (by omega)) ?_
    refine fr_or .i32 21 ((v * 16 : Nat) : Int) ((d : Nat) : Int) ((16 * v + d : Nat) : Int) rfl rfl rfl (by exact or16n (by omega) (by omega)) ?_
    refine fr_assign (.int .i32 ((16 * v + d : Nat) : Int)) rfl ?_
    refine fr_end ?_
    refine to_blockN ?_
    exact hq _ ((((((((((((((((((((((((((((((((((((((((((((((((Keep.refl _ _).upd rfl).upd rfl).upd rfl).upd rfl).upd rfl).upd rfl).upd rfl).upd rfl).upd rfl).upd rfl).upd rfl).upd rfl).upd rfl).upd rfl).upd rfl).upd rfl).upd rfl).upd rfl).upd rfl).upd rfl).upd rfl).upd rfl).upd rfl).upd rfl).upd rfl).upd rfl).upd rfl).upd rfl).upd rfl).upd rfl).upd rfl).upd rfl).upd rfl).upd rfl).upd rfl).upd rfl).upd rfl).upd rfl).upd rfl).upd rfl).upd rfl).upd rfl).upd rfl).upd rfl).upd rfl).upd rfl).upd rfl) rfl
  refine fr_eq .i32 21 ((c : Nat) : Int) 68 false rfl hsw rfl (by exact eqF (by omega)) ?_
  refine fr_assign (.bool false) rfl ?_
  refine fr_end ?_
  refine to_then ?_
  refine fr_false rfl ?_
  refine fr_seq ?_
  refine fr_region ?_
  by_cases hc69 : c = 69
  · refine fr_eq .i32 21 ((c : Nat) : Int) 69 true rfl hsw rfl (by exact eqT (by omega)) ?_
    refine fr_assign (.bool true) rfl ?_
    refine fr_end ?_
    refine to_then ?_
    refine fr_true rfl ?_
    refine wp_skip ?_
    refine to_then ?_
    refine fr_true rfl ?_
    refine fr_region ?_
    refine fr_move (.int .i32 ((v : Nat) : Int)) hval ?_
    refine fr_mul .i32 21 ((v : Nat) : Int) 16 ((v * 16 : Nat) : Int) rfl rfl rfl (by exact w32' (by omega) (by omega) (by omega)) ?_
    refine fr_move (.int .i32 ((c : Nat) : Int)) hvar ?_
    refine fr_add .i32 21 ((c : Nat) : Int) 10 ((c + 10 : Nat) : Int) rfl rfl rfl (by exact w32' (by omega) (by omega) (by omega)) ?_
    refine fr_sub .i32 21 ((c + 10 : Nat) : Int) 65 ((d : Nat) : Int) rfl rfl rfl (by exact w32' (by omega) (by omega) (by omega)) ?_
    refine fr_or .i32 21 ((v * 16 : Nat) : Int) ((d : Nat) : Int) ((16 * v + d : Nat) : Int) rfl rfl rfl (by exact or16n (by omega) (by omega)) ?_
    refine fr_assign (.int .i32 ((16 * v + d : Nat) : Int)) rfl ?_
    refine fr_end ?_
    refine to_blockN ?_
    exact hq _ ((((((((((((((((((((((((((((((((((((((((((((((((((Keep.refl _ _).upd rfl).upd rfl).upd rfl).upd rfl).upd rfl).upd rfl).upd rfl).upd rfl).upd rfl).upd rfl).upd rfl).upd rfl).upd rfl).upd rfl).upd rfl).upd rfl).upd rfl).upd rfl).upd rfl).upd rfl).upd rfl).upd rfl).upd rfl).upd rfl).upd rfl).upd rfl).upd rfl).upd rfl).upd rfl).upd rfl).upd rfl).upd rfl).upd rfl).upd rfl).upd rfl).upd rfl).upd rfl).upd rfl).upd rfl).upd rfl).upd rfl).upd rfl).upd rfl).upd rfl).upd rfl).upd rfl).upd rfl).upd rfl).upd rfl) rfl
  refine fr_eq .i32 21 ((c : Nat) : Int) 69 false rfl hsw rfl (by exact eqF (by omega)) ?_
  refine fr_assign (.bool false) rfl ?_
  refine fr_end ?_
  refine to_then ?_
  refine fr_false rfl ?_
  refine fr_region ?_
  refine fr_eq .i32 21 ((c : Nat) : Int) 70 true rfl hsw rfl (by exact eqT (by omega)) ?_
  refine fr_assign (.bool true) rfl ?_
  refine fr_end ?_
  refine to_then ?_
  refine fr_true rfl ?_
  refine fr_region ?_
  refine fr_move (.int .i32 ((v : Nat) : Int)) hval ?_
  refine fr_mul .i32 21 ((v : Nat) : Int) 16 ((v * 16 : Nat) : Int) rfl rfl rfl (by exact w32' (by omega) (by omega) (by omega)) ?_
  refine fr_move (.int .i32 ((c : Nat) : Int)) hvar ?_
  refine fr_add .i32 21 ((c : Nat) : Int) 10 ((c + 10 : Nat) : Int) rfl rfl rfl (by exact w32' (by omega) (by omega) (by omega)) ?_
  refine fr_sub .i32 21 ((c + 10 : Nat) : Int) 65 ((d : Nat) : Int) rfl rfl rfl (by exact w32' (by omega) (by omega) (by omega)) ?_
  refine fr_or .i32 21 ((v * 16 : Nat) : Int) ((d : Nat) : Int) ((16 * v + d : Nat) : Int) rfl rfl rfl (by exact or16n (by omega) (by omega)) ?_
  refine fr_assign (.int .i32 ((16 * v + d : Nat) : Int)) rfl ?_
  refine fr_end ?_
  refine to_blockN ?_
  exact hq _ ((((((((((((((((((((((((((((((((((((((((((((((((((((Keep.refl _ _).upd rfl).upd rfl).upd rfl).upd rfl).upd rfl).upd rfl).upd rfl).upd rfl).upd rfl).upd rfl).upd rfl).upd rfl).upd rfl).upd rfl).upd rfl).upd rfl).upd rfl).upd rfl).upd rfl).upd rfl).upd rfl).upd rfl).upd rfl).upd rfl).upd rfl).upd rfl).upd rfl).upd rfl).upd rfl).upd rfl).upd rfl).upd rfl).upd rfl).upd rfl).upd rfl).upd rfl).upd rfl).upd rfl).upd rfl).upd rfl).upd rfl).upd rfl).upd rfl).upd rfl).upd rfl).upd rfl).upd rfl).upd rfl).upd rfl).upd rfl).upd rfl) rfl
theorem hex9 {w : World} {f : Nat → Value} {c d v : Nat} {Q : Exit → Act → World → Prop} (hsw : f 276 = .int .i32 (c : Int)) (hvar : f 27 = .int .i32 (c : Int)) (hval : f 25 = .int .i32 (v : Int)) (hd : hexv c = some d) (hv : v ≤ 134217726)
    (hq : ∀ g, Keep (fun k => Nat.beq k 25 || (Nat.ble 282 k && Nat.ble k 323)) f g → g 25 = .int .i32 ((16 * v + d : Nat) : Int) → Q .normal (mk 567 g) w) :
    (sub B29 [1, 1, 1, 0, 0, 0, 1, 0, 1, 1, 0, 1, 0, 1, 1, 1, 0, 1, 1, 1, 0, 1, 1, 1, 1, 1, 1, 1, 1, 1, 1, 1, 1, 1, 1, 1, 1, 1, 0, 1, 1, 0, 1, 0, 0, 1, 0, 0, 1, 1, 1]).wp Tryz.prog Q (mk 567 f) w := by
  rcases hexv_cases hd with ⟨a, b, e⟩ | ⟨a, b, e⟩ | ⟨a, b, e⟩
  · exact hex9_0 hsw hvar hval a b e hv hq
  · exact hex9_1 hsw hvar hval a b e hv hq
  · exact hex9_2 hsw hvar hval a b e hv hq
end Go.Proofs.YthknielnhmoobaaGreatDoor
