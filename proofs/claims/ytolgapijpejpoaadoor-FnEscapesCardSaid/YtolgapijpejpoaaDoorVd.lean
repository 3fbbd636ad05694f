/- The walk of Go's decoder of escapes: a part. Printed by gen_tte2.py. -/
import Derived.Test.YtolgapijpejpoaaDoorVc
namespace Go.Proofs.YtolgapijpejpoaaDoor
open Go.RowKit Go.Lib
set_option maxRecDepth 100000 in
theorem spine_wx {X st : Nat} {s : ByteArray} {w : World} {f : Nat → Value} {wr : World} {v : Value} {u : List Nat} {i B : Nat} {B0 : Nat → Prop} {Q : Exit → Act → World → Prop} {c2 : Nat} (e : TEnv X st s w B) (hb0 : OffAny B0) (h : At X st s true w f wr v u i)
    (hc2 : c2 = 120) (h81 : f 81 = .int .i32 (c2 : Int)) (h14 : f 14 = .int .i64 ((1 : Nat) : Int)) (h16 : f 16 = .int .i64 ((1 : Nat) : Int)) (hdg : digitsF s 2 i 0 = none) (hq : WQ B0 w Q) :
    (sub B29 [1, 1, 1, 0, 0, 0, 1, 0, 1, 1, 0, 1, 0, 1, 1, 1, 0, 1, 1, 1]).wp Tryd.prog Q (mk 567 f) wr := by
  have hml : s.size ≤ maxLen := by have := e.hs; unfold maxLen; omega
  have hs := e.hs; have hst := e.hst; have hi := h.hi
  conv => arg 2; whnf
  refine wp_block ?_
  refine fr_seq ?_
  refine fr_region ?_
  refine fr_eq .i32 21 ((c2 : Nat) : Int) 98 false rfl h81 rfl (by exact eqF (by omega)) ?_
  refine fr_assign (.bool false) rfl ?_
  refine fr_end ?_
  refine to_then ?_
  refine fr_false rfl ?_
  refine fr_cut f (fun k => Nat.beq k 99 || Nat.beq k 98) (((Keep.refl _ _).upd rfl).upd rfl) ?_
  intro f1 hk
  replace h := h.keep hk rfl rfl rfl rfl rfl rfl
  replace h81 := (hk 81 rfl).trans h81
  replace h14 := (hk 14 rfl).trans h14
  replace h16 := (hk 16 rfl).trans h16
  clear hk
  refine fr_seq ?_
  refine fr_region ?_
  refine fr_eq .i32 21 ((c2 : Nat) : Int) 102 false rfl h81 rfl (by exact eqF (by omega)) ?_
  refine fr_assign (.bool false) rfl ?_
  refine fr_end ?_
  refine to_then ?_
  refine fr_false rfl ?_
  refine fr_cut f1 (fun k => Nat.beq k 104 || Nat.beq k 103) (((Keep.refl _ _).upd rfl).upd rfl) ?_
  intro f2 hk
  replace h := h.keep hk rfl rfl rfl rfl rfl rfl
  replace h81 := (hk 81 rfl).trans h81
  replace h14 := (hk 14 rfl).trans h14
  replace h16 := (hk 16 rfl).trans h16
  clear hk
  refine fr_seq ?_
  refine fr_region ?_
  refine fr_eq .i32 21 ((c2 : Nat) : Int) 110 false rfl h81 rfl (by exact eqF (by omega)) ?_
  refine fr_assign (.bool false) rfl ?_
  refine fr_end ?_
  refine to_then ?_
  refine fr_false rfl ?_
  refine fr_cut f2 (fun k => Nat.beq k 109 || Nat.beq k 108) (((Keep.refl _ _).upd rfl).upd rfl) ?_
  intro f3 hk
  replace h := h.keep hk rfl rfl rfl rfl rfl rfl
  replace h81 := (hk 81 rfl).trans h81
  replace h14 := (hk 14 rfl).trans h14
  replace h16 := (hk 16 rfl).trans h16
  clear hk
  refine fr_seq ?_
  refine fr_region ?_
  refine fr_eq .i32 21 ((c2 : Nat) : Int) 114 false rfl h81 rfl (by exact eqF (by omega)) ?_
  refine fr_assign (.bool false) rfl ?_
  refine fr_end ?_
  refine to_then ?_
  refine fr_false rfl ?_
  refine fr_cut f3 (fun k => Nat.beq k 114 || Nat.beq k 113) (((Keep.refl _ _).upd rfl).upd rfl) ?_
  intro f4 hk
  replace h := h.keep hk rfl rfl rfl rfl rfl rfl
  replace h81 := (hk 81 rfl).trans h81
  replace h14 := (hk 14 rfl).trans h14
  replace h16 := (hk 16 rfl).trans h16
  clear hk
  refine fr_seq ?_
  refine fr_region ?_
  refine fr_eq .i32 21 ((c2 : Nat) : Int) 116 false rfl h81 rfl (by exact eqF (by omega)) ?_
  refine fr_assign (.bool false) rfl ?_
  refine fr_end ?_
  refine to_then ?_
  refine fr_false rfl ?_
  refine fr_cut f4 (fun k => Nat.beq k 119 || Nat.beq k 118) (((Keep.refl _ _).upd rfl).upd rfl) ?_
  intro f5 hk
  replace h := h.keep hk rfl rfl rfl rfl rfl rfl
  replace h81 := (hk 81 rfl).trans h81
  replace h14 := (hk 14 rfl).trans h14
  replace h16 := (hk 16 rfl).trans h16
  clear hk
  refine fr_seq ?_
  refine fr_region ?_
  refine fr_eq .i32 21 ((c2 : Nat) : Int) 118 false rfl h81 rfl (by exact eqF (by omega)) ?_
  refine fr_assign (.bool false) rfl ?_
  refine fr_end ?_
  refine to_then ?_
  refine fr_false rfl ?_
  refine fr_cut f5 (fun k => Nat.beq k 124 || Nat.beq k 123) (((Keep.refl _ _).upd rfl).upd rfl) ?_
  intro f6 hk
  replace h := h.keep hk rfl rfl rfl rfl rfl rfl
  replace h81 := (hk 81 rfl).trans h81
  replace h14 := (hk 14 rfl).trans h14
  replace h16 := (hk 16 rfl).trans h16
  clear hk
  refine fr_seq ?_
  refine fr_seq ?_
  refine fr_region ?_
  refine fr_eq .i32 21 ((c2 : Nat) : Int) 48 false rfl h81 rfl (by exact eqF (by omega)) ?_
  refine fr_assign (.bool false) rfl ?_
  refine fr_end ?_
  refine to_then ?_
  refine fr_false rfl ?_
  refine fr_cut f6 (fun k => Nat.beq k 139 || Nat.beq k 138) (((Keep.refl _ _).upd rfl).upd rfl) ?_
  intro f7 hk
  replace h := h.keep hk rfl rfl rfl rfl rfl rfl
  replace h81 := (hk 81 rfl).trans h81
  replace h14 := (hk 14 rfl).trans h14
  replace h16 := (hk 16 rfl).trans h16
  clear hk
  refine fr_seq ?_
  refine fr_region ?_
  refine fr_eq .i32 21 ((c2 : Nat) : Int) 49 false rfl h81 rfl (by exact eqF (by omega)) ?_
  refine fr_assign (.bool false) rfl ?_
  refine fr_end ?_
  refine to_then ?_
  refine fr_false rfl ?_
  refine fr_cut f7 (fun k => Nat.beq k 140 || Nat.beq k 138) (((Keep.refl _ _).upd rfl).upd rfl) ?_
  intro f8 hk
  replace h := h.keep hk rfl rfl rfl rfl rfl rfl
  replace h81 := (hk 81 rfl).trans h81
  replace h14 := (hk 14 rfl).trans h14
  replace h16 := (hk 16 rfl).trans h16
  clear hk
  refine fr_seq ?_
  refine fr_region ?_
  refine fr_eq .i32 21 ((c2 : Nat) : Int) 50 false rfl h81 rfl (by exact eqF (by omega)) ?_
  refine fr_assign (.bool false) rfl ?_
  refine fr_end ?_
  refine to_then ?_
  refine fr_false rfl ?_
  refine fr_cut f8 (fun k => Nat.beq k 141 || Nat.beq k 138) (((Keep.refl _ _).upd rfl).upd rfl) ?_
  intro f9 hk
  replace h := h.keep hk rfl rfl rfl rfl rfl rfl
  replace h81 := (hk 81 rfl).trans h81
  replace h14 := (hk 14 rfl).trans h14
  replace h16 := (hk 16 rfl).trans h16
  clear hk
  refine fr_seq ?_
  refine fr_region ?_
  refine fr_eq .i32 21 ((c2 : Nat) : Int) 51 false rfl h81 rfl (by exact eqF (by omega)) ?_
  refine fr_assign (.bool false) rfl ?_
  refine fr_end ?_
  refine to_then ?_
  refine fr_false rfl ?_
  refine fr_cut f9 (fun k => Nat.beq k 142 || Nat.beq k 138) (((Keep.refl _ _).upd rfl).upd rfl) ?_
  intro f10 hk
  replace h := h.keep hk rfl rfl rfl rfl rfl rfl
  replace h81 := (hk 81 rfl).trans h81
  replace h14 := (hk 14 rfl).trans h14
  replace h16 := (hk 16 rfl).trans h16
  clear hk
  refine fr_seq ?_
  refine fr_region ?_
  refine fr_eq .i32 21 ((c2 : Nat) : Int) 52 false rfl h81 rfl (by exact eqF (by omega)) ?_
  refine fr_assign (.bool false) rfl ?_
  refine fr_end ?_
  refine to_then ?_
  refine fr_false rfl ?_
  refine fr_cut f10 (fun k => Nat.beq k 143 || Nat.beq k 138) (((Keep.refl _ _).upd rfl).upd rfl) ?_
  intro f11 hk
  replace h := h.keep hk rfl rfl rfl rfl rfl rfl
  replace h81 := (hk 81 rfl).trans h81
  replace h14 := (hk 14 rfl).trans h14
  replace h16 := (hk 16 rfl).trans h16
  clear hk
  refine fr_seq ?_
  refine fr_region ?_
  refine fr_eq .i32 21 ((c2 : Nat) : Int) 53 false rfl h81 rfl (by exact eqF (by omega)) ?_
  refine fr_assign (.bool false) rfl ?_
  refine fr_end ?_
  refine to_then ?_
  refine fr_false rfl ?_
  refine fr_cut f11 (fun k => Nat.beq k 144 || Nat.beq k 138) (((Keep.refl _ _).upd rfl).upd rfl) ?_
  intro f12 hk
  replace h := h.keep hk rfl rfl rfl rfl rfl rfl
  replace h81 := (hk 81 rfl).trans h81
  replace h14 := (hk 14 rfl).trans h14
  replace h16 := (hk 16 rfl).trans h16
  clear hk
  refine fr_seq ?_
  refine fr_region ?_
  refine fr_eq .i32 21 ((c2 : Nat) : Int) 54 false rfl h81 rfl (by exact eqF (by omega)) ?_
  refine fr_assign (.bool false) rfl ?_
  refine fr_end ?_
  refine to_then ?_
  refine fr_false rfl ?_
  refine fr_cut f12 (fun k => Nat.beq k 145 || Nat.beq k 138) (((Keep.refl _ _).upd rfl).upd rfl) ?_
  intro f13 hk
  replace h := h.keep hk rfl rfl rfl rfl rfl rfl
  replace h81 := (hk 81 rfl).trans h81
  replace h14 := (hk 14 rfl).trans h14
  replace h16 := (hk 16 rfl).trans h16
  clear hk
  refine fr_region ?_
  refine fr_eq .i32 21 ((c2 : Nat) : Int) 55 false rfl h81 rfl (by exact eqF (by omega)) ?_
  refine fr_assign (.bool false) rfl ?_
  refine fr_end ?_
  refine to_then ?_
  refine fr_false rfl ?_
  refine fr_cut f13 (fun k => Nat.beq k 146 || Nat.beq k 138) (((Keep.refl _ _).upd rfl).upd rfl) ?_
  intro f14 hk
  replace h := h.keep hk rfl rfl rfl rfl rfl rfl
  replace h81 := (hk 81 rfl).trans h81
  replace h14 := (hk 14 rfl).trans h14
  replace h16 := (hk 16 rfl).trans h16
  clear hk
  refine fr_seq ?_
  refine fr_seq ?_
  refine fr_region ?_
  refine fr_eq .i32 21 ((c2 : Nat) : Int) 56 false rfl h81 rfl (by exact eqF (by omega)) ?_
  refine fr_assign (.bool false) rfl ?_
  refine fr_end ?_
  refine to_then ?_
  refine fr_false rfl ?_
  refine fr_cut f14 (fun k => Nat.beq k 238 || Nat.beq k 237) (((Keep.refl _ _).upd rfl).upd rfl) ?_
  intro f15 hk
  replace h := h.keep hk rfl rfl rfl rfl rfl rfl
  replace h81 := (hk 81 rfl).trans h81
  replace h14 := (hk 14 rfl).trans h14
  replace h16 := (hk 16 rfl).trans h16
  clear hk
  refine fr_region ?_
  refine fr_eq .i32 21 ((c2 : Nat) : Int) 57 false rfl h81 rfl (by exact eqF (by omega)) ?_
  refine fr_assign (.bool false) rfl ?_
  refine fr_end ?_
  refine to_then ?_
  refine fr_false rfl ?_
  refine fr_cut f15 (fun k => Nat.beq k 239 || Nat.beq k 237) (((Keep.refl _ _).upd rfl).upd rfl) ?_
  intro f16 hk
  replace h := h.keep hk rfl rfl rfl rfl rfl rfl
  replace h81 := (hk 81 rfl).trans h81
  replace h14 := (hk 14 rfl).trans h14
  replace h16 := (hk 16 rfl).trans h16
  clear hk
  refine fr_seq ?_
  refine fr_region ?_
  refine fr_eq .i32 21 ((c2 : Nat) : Int) 120 true rfl h81 rfl (by exact eqT (by omega)) ?_
  refine fr_assign (.bool true) rfl ?_
  refine fr_end ?_
  refine to_then ?_
  refine fr_true rfl ?_
  refine fr_cut f16 (fun k => Nat.beq k 251 || Nat.beq k 250) (((Keep.refl _ _).upd rfl).upd rfl) ?_
  intro f17 hk
  replace h := h.keep hk rfl rfl rfl rfl rfl rfl
  replace h81 := (hk 81 rfl).trans h81
  replace h14 := (hk 14 rfl).trans h14
  replace h16 := (hk 16 rfl).trans h16
  clear hk
  exact esc_xw e hb0 h hdg hq.blk
set_option maxRecDepth 100000 in
theorem spine_wu {X st : Nat} {s : ByteArray} {w : World} {f : Nat → Value} {wr : World} {v : Value} {u : List Nat} {i B : Nat} {B0 : Nat → Prop} {Q : Exit → Act → World → Prop} {c2 : Nat} (e : TEnv X st s w B) (hb0 : OffAny B0) (h : At X st s true w f wr v u i)
    (hc2 : c2 = 117) (h81 : f 81 = .int .i32 (c2 : Int)) (h14 : f 14 = .int .i64 ((1 : Nat) : Int)) (h16 : f 16 = .int .i64 ((1 : Nat) : Int)) (hA : AreOk X B0 w s) (hst0 : st = 0) (hs6 : s.size ≤ 1048576) (hi2 : 2 ≤ i) (hpt : pointF s i = none) (hq : WQ B0 w Q) :
    (sub B29 [1, 1, 1, 0, 0, 0, 1, 0, 1, 1, 0, 1, 0, 1, 1, 1, 0, 1, 1, 1]).wp Tryd.prog Q (mk 567 f) wr := by
  have hml : s.size ≤ maxLen := by have := e.hs; unfold maxLen; omega
  have hs := e.hs; have hst := e.hst; have hi := h.hi
  conv => arg 2; whnf
  refine wp_block ?_
  refine fr_seq ?_
  refine fr_region ?_
  refine fr_eq .i32 21 ((c2 : Nat) : Int) 98 false rfl h81 rfl (by exact eqF (by omega)) ?_
  refine fr_assign (.bool false) rfl ?_
  refine fr_end ?_
  refine to_then ?_
  refine fr_false rfl ?_
  refine fr_cut f (fun k => Nat.beq k 99 || Nat.beq k 98) (((Keep.refl _ _).upd rfl).upd rfl) ?_
  intro f1 hk
  replace h := h.keep hk rfl rfl rfl rfl rfl rfl
  replace h81 := (hk 81 rfl).trans h81
  replace h14 := (hk 14 rfl).trans h14
  replace h16 := (hk 16 rfl).trans h16
  clear hk
  refine fr_seq ?_
  refine fr_region ?_
  refine fr_eq .i32 21 ((c2 : Nat) : Int) 102 false rfl h81 rfl (by exact eqF (by omega)) ?_
  refine fr_assign (.bool false) rfl ?_
  refine fr_end ?_
  refine to_then ?_
  refine fr_false rfl ?_
  refine fr_cut f1 (fun k => Nat.beq k 104 || Nat.beq k 103) (((Keep.refl _ _).upd rfl).upd rfl) ?_
  intro f2 hk
  replace h := h.keep hk rfl rfl rfl rfl rfl rfl
  replace h81 := (hk 81 rfl).trans h81
  replace h14 := (hk 14 rfl).trans h14
  replace h16 := (hk 16 rfl).trans h16
  clear hk
  refine fr_seq ?_
  refine fr_region ?_
  refine fr_eq .i32 21 ((c2 : Nat) : Int) 110 false rfl h81 rfl (by exact eqF (by omega)) ?_
  refine fr_assign (.bool false) rfl ?_
  refine fr_end ?_
  refine to_then ?_
  refine fr_false rfl ?_
  refine fr_cut f2 (fun k => Nat.beq k 109 || Nat.beq k 108) (((Keep.refl _ _).upd rfl).upd rfl) ?_
  intro f3 hk
  replace h := h.keep hk rfl rfl rfl rfl rfl rfl
  replace h81 := (hk 81 rfl).trans h81
  replace h14 := (hk 14 rfl).trans h14
  replace h16 := (hk 16 rfl).trans h16
  clear hk
  refine fr_seq ?_
  refine fr_region ?_
  refine fr_eq .i32 21 ((c2 : Nat) : Int) 114 false rfl h81 rfl (by exact eqF (by omega)) ?_
  refine fr_assign (.bool false) rfl ?_
  refine fr_end ?_
  refine to_then ?_
  refine fr_false rfl ?_
  refine fr_cut f3 (fun k => Nat.beq k 114 || Nat.beq k 113) (((Keep.refl _ _).upd rfl).upd rfl) ?_
  intro f4 hk
  replace h := h.keep hk rfl rfl rfl rfl rfl rfl
  replace h81 := (hk 81 rfl).trans h81
  replace h14 := (hk 14 rfl).trans h14
  replace h16 := (hk 16 rfl).trans h16
  clear hk
  refine fr_seq ?_
  refine fr_region ?_
  refine fr_eq .i32 21 ((c2 : Nat) : Int) 116 false rfl h81 rfl (by exact eqF (by omega)) ?_
  refine fr_assign (.bool false) rfl ?_
  refine fr_end ?_
  refine to_then ?_
  refine fr_false rfl ?_
  refine fr_cut f4 (fun k => Nat.beq k 119 || Nat.beq k 118) (((Keep.refl _ _).upd rfl).upd rfl) ?_
  intro f5 hk
  replace h := h.keep hk rfl rfl rfl rfl rfl rfl
  replace h81 := (hk 81 rfl).trans h81
  replace h14 := (hk 14 rfl).trans h14
  replace h16 := (hk 16 rfl).trans h16
  clear hk
  refine fr_seq ?_
  refine fr_region ?_
  refine fr_eq .i32 21 ((c2 : Nat) : Int) 118 false rfl h81 rfl (by exact eqF (by omega)) ?_
  refine fr_assign (.bool false) rfl ?_
  refine fr_end ?_
  refine to_then ?_
  refine fr_false rfl ?_
  refine fr_cut f5 (fun k => Nat.beq k 124 || Nat.beq k 123) (((Keep.refl _ _).upd rfl).upd rfl) ?_
  intro f6 hk
  replace h := h.keep hk rfl rfl rfl rfl rfl rfl
  replace h81 := (hk 81 rfl).trans h81
  replace h14 := (hk 14 rfl).trans h14
  replace h16 := (hk 16 rfl).trans h16
  clear hk
  refine fr_seq ?_
  refine fr_seq ?_
  refine fr_region ?_
  refine fr_eq .i32 21 ((c2 : Nat) : Int) 48 false rfl h81 rfl (by exact eqF (by omega)) ?_
  refine fr_assign (.bool false) rfl ?_
  refine fr_end ?_
  refine to_then ?_
  refine fr_false rfl ?_
  refine fr_cut f6 (fun k => Nat.beq k 139 || Nat.beq k 138) (((Keep.refl _ _).upd rfl).upd rfl) ?_
  intro f7 hk
  replace h := h.keep hk rfl rfl rfl rfl rfl rfl
  replace h81 := (hk 81 rfl).trans h81
  replace h14 := (hk 14 rfl).trans h14
  replace h16 := (hk 16 rfl).trans h16
  clear hk
  refine fr_seq ?_
  refine fr_region ?_
  refine fr_eq .i32 21 ((c2 : Nat) : Int) 49 false rfl h81 rfl (by exact eqF (by omega)) ?_
  refine fr_assign (.bool false) rfl ?_
  refine fr_end ?_
  refine to_then ?_
  refine fr_false rfl ?_
  refine fr_cut f7 (fun k => Nat.beq k 140 || Nat.beq k 138) (((Keep.refl _ _).upd rfl).upd rfl) ?_
  intro f8 hk
  replace h := h.keep hk rfl rfl rfl rfl rfl rfl
  replace h81 := (hk 81 rfl).trans h81
  replace h14 := (hk 14 rfl).trans h14
  replace h16 := (hk 16 rfl).trans h16
  clear hk
  refine fr_seq ?_
  refine fr_region ?_
  refine fr_eq .i32 21 ((c2 : Nat) : Int) 50 false rfl h81 rfl (by exact eqF (by omega)) ?_
  refine fr_assign (.bool false) rfl ?_
  refine fr_end ?_
  refine to_then ?_
  refine fr_false rfl ?_
  refine fr_cut f8 (fun k => Nat.beq k 141 || Nat.beq k 138) (((Keep.refl _ _).upd rfl).upd rfl) ?_
  intro f9 hk
  replace h := h.keep hk rfl rfl rfl rfl rfl rfl
  replace h81 := (hk 81 rfl).trans h81
  replace h14 := (hk 14 rfl).trans h14
  replace h16 := (hk 16 rfl).trans h16
  clear hk
  refine fr_seq ?_
  refine fr_region ?_
  refine fr_eq .i32 21 ((c2 : Nat) : Int) 51 false rfl h81 rfl (by exact eqF (by omega)) ?_
  refine fr_assign (.bool false) rfl ?_
  refine fr_end ?_
  refine to_then ?_
  refine fr_false rfl ?_
  refine fr_cut f9 (fun k => Nat.beq k 142 || Nat.beq k 138) (((Keep.refl _ _).upd rfl).upd rfl) ?_
  intro f10 hk
  replace h := h.keep hk rfl rfl rfl rfl rfl rfl
  replace h81 := (hk 81 rfl).trans h81
  replace h14 := (hk 14 rfl).trans h14
  replace h16 := (hk 16 rfl).trans h16
  clear hk
  refine fr_seq ?_
  refine fr_region ?_
  refine fr_eq .i32 21 ((c2 : Nat) : Int) 52 false rfl h81 rfl (by exact eqF (by omega)) ?_
  refine fr_assign (.bool false) rfl ?_
  refine fr_end ?_
  refine to_then ?_
  refine fr_false rfl ?_
  refine fr_cut f10 (fun k => Nat.beq k 143 || Nat.beq k 138) (((Keep.refl _ _).upd rfl).upd rfl) ?_
  intro f11 hk
  replace h := h.keep hk rfl rfl rfl rfl rfl rfl
  replace h81 := (hk 81 rfl).trans h81
  replace h14 := (hk 14 rfl).trans h14
  replace h16 := (hk 16 rfl).trans h16
  clear hk
  refine fr_seq ?_
  refine fr_region ?_
  refine fr_eq .i32 21 ((c2 : Nat) : Int) 53 false rfl h81 rfl (by exact eqF (by omega)) ?_
  refine fr_assign (.bool false) rfl ?_
  refine fr_end ?_
  refine to_then ?_
  refine fr_false rfl ?_
  refine fr_cut f11 (fun k => Nat.beq k 144 || Nat.beq k 138) (((Keep.refl _ _).upd rfl).upd rfl) ?_
  intro f12 hk
  replace h := h.keep hk rfl rfl rfl rfl rfl rfl
  replace h81 := (hk 81 rfl).trans h81
  replace h14 := (hk 14 rfl).trans h14
  replace h16 := (hk 16 rfl).trans h16
  clear hk
  refine fr_seq ?_
  refine fr_region ?_
  refine fr_eq .i32 21 ((c2 : Nat) : Int) 54 false rfl h81 rfl (by exact eqF (by omega)) ?_
  refine fr_assign (.bool false) rfl ?_
  refine fr_end ?_
  refine to_then ?_
  refine fr_false rfl ?_
  refine fr_cut f12 (fun k => Nat.beq k 145 || Nat.beq k 138) (((Keep.refl _ _).upd rfl).upd rfl) ?_
  intro f13 hk
  replace h := h.keep hk rfl rfl rfl rfl rfl rfl
  replace h81 := (hk 81 rfl).trans h81
  replace h14 := (hk 14 rfl).trans h14
  replace h16 := (hk 16 rfl).trans h16
  clear hk
  refine fr_region ?_
  refine fr_eq .i32 21 ((c2 : Nat) : Int) 55 false rfl h81 rfl (by exact eqF (by omega)) ?_
  refine fr_assign (.bool false) rfl ?_
  refine fr_end ?_
  refine to_then ?_
  refine fr_false rfl ?_
  refine fr_cut f13 (fun k => Nat.beq k 146 || Nat.beq k 138) (((Keep.refl _ _).upd rfl).upd rfl) ?_
  intro f14 hk
  replace h := h.keep hk rfl rfl rfl rfl rfl rfl
  replace h81 := (hk 81 rfl).trans h81
  replace h14 := (hk 14 rfl).trans h14
  replace h16 := (hk 16 rfl).trans h16
  clear hk
  refine fr_seq ?_
  refine fr_seq ?_
  refine fr_region ?_
  refine fr_eq .i32 21 ((c2 : Nat) : Int) 56 false rfl h81 rfl (by exact eqF (by omega)) ?_
  refine fr_assign (.bool false) rfl ?_
  refine fr_end ?_
  refine to_then ?_
  refine fr_false rfl ?_
  refine fr_cut f14 (fun k => Nat.beq k 238 || Nat.beq k 237) (((Keep.refl _ _).upd rfl).upd rfl) ?_
  intro f15 hk
  replace h := h.keep hk rfl rfl rfl rfl rfl rfl
  replace h81 := (hk 81 rfl).trans h81
  replace h14 := (hk 14 rfl).trans h14
  replace h16 := (hk 16 rfl).trans h16
  clear hk
  refine fr_region ?_
  refine fr_eq .i32 21 ((c2 : Nat) : Int) 57 false rfl h81 rfl (by exact eqF (by omega)) ?_
  refine fr_assign (.bool false) rfl ?_
  refine fr_end ?_
  refine to_then ?_
  refine fr_false rfl ?_
  refine fr_cut f15 (fun k => Nat.beq k 239 || Nat.beq k 237) (((Keep.refl _ _).upd rfl).upd rfl) ?_
  intro f16 hk
  replace h := h.keep hk rfl rfl rfl rfl rfl rfl
  replace h81 := (hk 81 rfl).trans h81
  replace h14 := (hk 14 rfl).trans h14
  replace h16 := (hk 16 rfl).trans h16
  clear hk
  refine fr_seq ?_
  refine fr_region ?_
  refine fr_eq .i32 21 ((c2 : Nat) : Int) 120 false rfl h81 rfl (by exact eqF (by omega)) ?_
  refine fr_assign (.bool false) rfl ?_
  refine fr_end ?_
  refine to_then ?_
  refine fr_false rfl ?_
  refine fr_cut f16 (fun k => Nat.beq k 251 || Nat.beq k 250) (((Keep.refl _ _).upd rfl).upd rfl) ?_
  intro f17 hk
  replace h := h.keep hk rfl rfl rfl rfl rfl rfl
  replace h81 := (hk 81 rfl).trans h81
  replace h14 := (hk 14 rfl).trans h14
  replace h16 := (hk 16 rfl).trans h16
  clear hk
  refine fr_seq ?_
  refine fr_region ?_
  refine fr_eq .i32 21 ((c2 : Nat) : Int) 117 true rfl h81 rfl (by exact eqT (by omega)) ?_
  refine fr_assign (.bool true) rfl ?_
  refine fr_end ?_
  refine to_then ?_
  refine fr_true rfl ?_
  refine fr_cut f17 (fun k => Nat.beq k 326 || Nat.beq k 325) (((Keep.refl _ _).upd rfl).upd rfl) ?_
  intro f18 hk
  replace h := h.keep hk rfl rfl rfl rfl rfl rfl
  replace h81 := (hk 81 rfl).trans h81
  replace h14 := (hk 14 rfl).trans h14
  replace h16 := (hk 16 rfl).trans h16
  clear hk
  obtain ⟨c, n, hrn⟩ : ∃ c n, rn s i = (c, n) := ⟨_, _, rfl⟩
  unfold pointF at hpt
  by_cases hc : c = 123
  · obtain ⟨h1, h2⟩ := rune_byte hrn (by omega)
    rw [if_pos (h1.trans hc)] at hpt
    have hn1 : n = 1 := by omega
    subst hn1
    exact esc_uw_b e hb0 h hc hst0 hs6 hi2 hrn h14 h16 hA (by omega) hpt hq.blk
  · rw [if_neg (fun k => hc (byte_rune hrn k))] at hpt
    exact esc_uw_u e hb0 h hc hrn hpt hq.blk
end Go.Proofs.YtolgapijpejpoaaDoor
