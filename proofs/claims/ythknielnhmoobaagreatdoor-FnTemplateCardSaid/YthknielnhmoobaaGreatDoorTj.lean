/- The walk of Go's decoder of escapes: a part. Printed by gen_tte2.py. -/
import Derived.Test.YthknielnhmoobaaGreatDoorTk
namespace Go.Proofs.YthknielnhmoobaaGreatDoor
open Go.RowKit Go.Lib
set_option maxRecDepth 100000 in
theorem esc_spine {X st : Nat} {s : ByteArray} {rep : Bool} {w : World} {f : Nat → Value} {wr : World} {v : Value} {u : List Nat} {i c2 n1 n2 j B : Nat} {a : List Nat} {Q : Exit → Act → World → Prop} (e : TEnv X st s w B) (h : At X st s rep w f wr v u i)
    (h81 : f 81 = .int .i32 (c2 : Int)) (h15 : f 15 = .int .i32 (c2 : Int)) (h14 : f 14 = .int .i64 (n1 : Int)) (h16 : f 16 = .int .i64 (n2 : Int)) (hn1 : n1 ≤ s.size) (hn2 : n2 ≤ s.size) (hc : c2 ≤ 1114111) (hu : u.length ≤ 4398046511104) (ec : EscCase s i c2 a j) (hi2 : 2 ≤ i) (htxt : c2 = 48 → s.extract (i - 2) i = ⟨#[92, 48]⟩) (hq : EscOut X st s rep w u a j Q) :
    (sub B29 [1, 1, 1, 0, 0, 0, 1, 0, 1, 1, 0, 1, 0, 1, 1, 1, 0, 1, 1, 1]).wp Tryz.prog Q (mk 567 f) wr := by
  have hml : s.size ≤ maxLen := by have := e.hs; unfold maxLen; omega
  have hs := e.hs; have hst := e.hst; have hi := h.hi
  have hdg9 := ec.digit
  conv => arg 2; whnf
  refine wp_block ?_
  refine fr_seq ?_
  refine fr_region ?_
  by_cases hc98 : c2 = 98
  · refine fr_eq .i32 21 ((c2 : Nat) : Int) 98 true rfl h81 rfl (by exact eqT (by omega)) ?_
    refine fr_assign (.bool true) rfl ?_
    refine fr_end ?_
    refine to_then ?_
    refine fr_true rfl ?_
    refine fr_cut f (fun k => Nat.beq k 99 || Nat.beq k 98) (((Keep.refl _ _).upd rfl).upd rfl) ?_
    intro f1 hk
    replace h := h.keep hk rfl rfl rfl rfl rfl rfl
    replace h81 := (hk 81 rfl).trans h81
    replace h15 := (hk 15 rfl).trans h15
    replace h14 := (hk 14 rfl).trans h14
    replace h16 := (hk 16 rfl).trans h16
    clear hk
    obtain ⟨rfl, rfl⟩ := ec.simple 8 (by subst hc98; rfl)
    exact esc_simple98 e h hu (hq.block (k := 3) rfl)
  refine fr_eq .i32 21 ((c2 : Nat) : Int) 98 false rfl h81 rfl (by exact eqF (by omega)) ?_
  refine fr_assign (.bool false) rfl ?_
  refine fr_end ?_
  refine to_then ?_
  refine fr_false rfl ?_
  refine fr_cut f (fun k => Nat.beq k 99 || Nat.beq k 98) (((Keep.refl _ _).upd rfl).upd rfl) ?_
  intro f1 hk
  replace h := h.keep hk rfl rfl rfl rfl rfl rfl
  replace h81 := (hk 81 rfl).trans h81
  replace h15 := (hk 15 rfl).trans h15
  replace h14 := (hk 14 rfl).trans h14
  replace h16 := (hk 16 rfl).trans h16
  clear hk
  refine fr_seq ?_
  refine fr_region ?_
  by_cases hc102 : c2 = 102
  · refine fr_eq .i32 21 ((c2 : Nat) : Int) 102 true rfl h81 rfl (by exact eqT (by omega)) ?_
    refine fr_assign (.bool true) rfl ?_
    refine fr_end ?_
    refine to_then ?_
    refine fr_true rfl ?_
    refine fr_cut f1 (fun k => Nat.beq k 104 || Nat.beq k 103) (((Keep.refl _ _).upd rfl).upd rfl) ?_
    intro f2 hk
    replace h := h.keep hk rfl rfl rfl rfl rfl rfl
    replace h81 := (hk 81 rfl).trans h81
    replace h15 := (hk 15 rfl).trans h15
    replace h14 := (hk 14 rfl).trans h14
    replace h16 := (hk 16 rfl).trans h16
    clear hk
    obtain ⟨rfl, rfl⟩ := ec.simple 12 (by subst hc102; rfl)
    exact esc_simple102 e h hu (hq.block (k := 3) rfl)
  refine fr_eq .i32 21 ((c2 : Nat) : Int) 102 false rfl h81 rfl (by exact eqF (by omega)) ?_
  refine fr_assign (.bool false) rfl ?_
  refine fr_end ?_
  refine to_then ?_
  refine fr_false rfl ?_
  refine fr_cut f1 (fun k => Nat.beq k 104 || Nat.beq k 103) (((Keep.refl _ _).upd rfl).upd rfl) ?_
  intro f2 hk
  replace h := h.keep hk rfl rfl rfl rfl rfl rfl
  replace h81 := (hk 81 rfl).trans h81
  replace h15 := (hk 15 rfl).trans h15
  replace h14 := (hk 14 rfl).trans h14
  replace h16 := (hk 16 rfl).trans h16
  clear hk
  refine fr_seq ?_
  refine fr_region ?_
  by_cases hc110 : c2 = 110
  · refine fr_eq .i32 21 ((c2 : Nat) : Int) 110 true rfl h81 rfl (by exact eqT (by omega)) ?_
    refine fr_assign (.bool true) rfl ?_
    refine fr_end ?_
    refine to_then ?_
    refine fr_true rfl ?_
    refine fr_cut f2 (fun k => Nat.beq k 109 || Nat.beq k 108) (((Keep.refl _ _).upd rfl).upd rfl) ?_
    intro f3 hk
    replace h := h.keep hk rfl rfl rfl rfl rfl rfl
    replace h81 := (hk 81 rfl).trans h81
    replace h15 := (hk 15 rfl).trans h15
    replace h14 := (hk 14 rfl).trans h14
    replace h16 := (hk 16 rfl).trans h16
    clear hk
    obtain ⟨rfl, rfl⟩ := ec.simple 10 (by subst hc110; rfl)
    exact esc_simple110 e h hu (hq.block (k := 3) rfl)
  refine fr_eq .i32 21 ((c2 : Nat) : Int) 110 false rfl h81 rfl (by exact eqF (by omega)) ?_
  refine fr_assign (.bool false) rfl ?_
  refine fr_end ?_
  refine to_then ?_
  refine fr_false rfl ?_
  refine fr_cut f2 (fun k => Nat.beq k 109 || Nat.beq k 108) (((Keep.refl _ _).upd rfl).upd rfl) ?_
  intro f3 hk
  replace h := h.keep hk rfl rfl rfl rfl rfl rfl
  replace h81 := (hk 81 rfl).trans h81
  replace h15 := (hk 15 rfl).trans h15
  replace h14 := (hk 14 rfl).trans h14
  replace h16 := (hk 16 rfl).trans h16
  clear hk
  refine fr_seq ?_
  refine fr_region ?_
  by_cases hc114 : c2 = 114
  · refine fr_eq .i32 21 ((c2 : Nat) : Int) 114 true rfl h81 rfl (by exact eqT (by omega)) ?_
    refine fr_assign (.bool true) rfl ?_
    refine fr_end ?_
    refine to_then ?_
    refine fr_true rfl ?_
    refine fr_cut f3 (fun k => Nat.beq k 114 || Nat.beq k 113) (((Keep.refl _ _).upd rfl).upd rfl) ?_
    intro f4 hk
    replace h := h.keep hk rfl rfl rfl rfl rfl rfl
    replace h81 := (hk 81 rfl).trans h81
    replace h15 := (hk 15 rfl).trans h15
    replace h14 := (hk 14 rfl).trans h14
    replace h16 := (hk 16 rfl).trans h16
    clear hk
    obtain ⟨rfl, rfl⟩ := ec.simple 13 (by subst hc114; rfl)
    exact esc_simple114 e h hu (hq.block (k := 3) rfl)
  refine fr_eq .i32 21 ((c2 : Nat) : Int) 114 false rfl h81 rfl (by exact eqF (by omega)) ?_
  refine fr_assign (.bool false) rfl ?_
  refine fr_end ?_
  refine to_then ?_
  refine fr_false rfl ?_
  refine fr_cut f3 (fun k => Nat.beq k 114 || Nat.beq k 113) (((Keep.refl _ _).upd rfl).upd rfl) ?_
  intro f4 hk
  replace h := h.keep hk rfl rfl rfl rfl rfl rfl
  replace h81 := (hk 81 rfl).trans h81
  replace h15 := (hk 15 rfl).trans h15
  replace h14 := (hk 14 rfl).trans h14
  replace h16 := (hk 16 rfl).trans h16
  clear hk
  refine fr_seq ?_
  refine fr_region ?_
  by_cases hc116 : c2 = 116
  · refine fr_eq .i32 21 ((c2 : Nat) : Int) 116 true rfl h81 rfl (by exact eqT (by omega)) ?_
    refine fr_assign (.bool true) rfl ?_
    refine fr_end ?_
    refine to_then ?_
    refine fr_true rfl ?_
    refine fr_cut f4 (fun k => Nat.beq k 119 || Nat.beq k 118) (((Keep.refl _ _).upd rfl).upd rfl) ?_
    intro f5 hk
    replace h := h.keep hk rfl rfl rfl rfl rfl rfl
    replace h81 := (hk 81 rfl).trans h81
    replace h15 := (hk 15 rfl).trans h15
    replace h14 := (hk 14 rfl).trans h14
    replace h16 := (hk 16 rfl).trans h16
    clear hk
    obtain ⟨rfl, rfl⟩ := ec.simple 9 (by subst hc116; rfl)
    exact esc_simple116 e h hu (hq.block (k := 3) rfl)
  refine fr_eq .i32 21 ((c2 : Nat) : Int) 116 false rfl h81 rfl (by exact eqF (by omega)) ?_
  refine fr_assign (.bool false) rfl ?_
  refine fr_end ?_
  refine to_then ?_
  refine fr_false rfl ?_
  refine fr_cut f4 (fun k => Nat.beq k 119 || Nat.beq k 118) (((Keep.refl _ _).upd rfl).upd rfl) ?_
  intro f5 hk
  replace h := h.keep hk rfl rfl rfl rfl rfl rfl
  replace h81 := (hk 81 rfl).trans h81
  replace h15 := (hk 15 rfl).trans h15
  replace h14 := (hk 14 rfl).trans h14
  replace h16 := (hk 16 rfl).trans h16
  clear hk
  refine fr_seq ?_
  refine fr_region ?_
  by_cases hc118 : c2 = 118
  · refine fr_eq .i32 21 ((c2 : Nat) : Int) 118 true rfl h81 rfl (by exact eqT (by omega)) ?_
    refine fr_assign (.bool true) rfl ?_
    refine fr_end ?_
    refine to_then ?_
    refine fr_true rfl ?_
    refine fr_cut f5 (fun k => Nat.beq k 124 || Nat.beq k 123) (((Keep.refl _ _).upd rfl).upd rfl) ?_
    intro f6 hk
    replace h := h.keep hk rfl rfl rfl rfl rfl rfl
    replace h81 := (hk 81 rfl).trans h81
    replace h15 := (hk 15 rfl).trans h15
    replace h14 := (hk 14 rfl).trans h14
    replace h16 := (hk 16 rfl).trans h16
    clear hk
    obtain ⟨rfl, rfl⟩ := ec.simple 11 (by subst hc118; rfl)
    exact esc_simple118 e h hu (hq.block (k := 3) rfl)
  refine fr_eq .i32 21 ((c2 : Nat) : Int) 118 false rfl h81 rfl (by exact eqF (by omega)) ?_
  refine fr_assign (.bool false) rfl ?_
  refine fr_end ?_
  refine to_then ?_
  refine fr_false rfl ?_
  refine fr_cut f5 (fun k => Nat.beq k 124 || Nat.beq k 123) (((Keep.refl _ _).upd rfl).upd rfl) ?_
  intro f6 hk
  replace h := h.keep hk rfl rfl rfl rfl rfl rfl
  replace h81 := (hk 81 rfl).trans h81
  replace h15 := (hk 15 rfl).trans h15
  replace h14 := (hk 14 rfl).trans h14
  replace h16 := (hk 16 rfl).trans h16
  clear hk
  refine fr_seq ?_
  refine fr_seq ?_
  refine fr_region ?_
  by_cases hc48 : c2 = 48
  · refine fr_eq .i32 21 ((c2 : Nat) : Int) 48 true rfl h81 rfl (by exact eqT (by omega)) ?_
    refine fr_assign (.bool true) rfl ?_
    refine fr_end ?_
    refine to_then ?_
    refine fr_true rfl ?_
    refine wp_skip ?_
    refine to_then ?_
    refine fr_true rfl ?_
    refine fr_cut f6 (fun k => Nat.beq k 139 || Nat.beq k 138) (((Keep.refl _ _).upd rfl).upd rfl) ?_
    intro f7 hk
    replace h := h.keep hk rfl rfl rfl rfl rfl rfl
    replace h81 := (hk 81 rfl).trans h81
    replace h15 := (hk 15 rfl).trans h15
    replace h14 := (hk 14 rfl).trans h14
    replace h16 := (hk 16 rfl).trans h16
    clear hk
    obtain ⟨hb, rfl, hj⟩ := ec.nul hc48
    subst j
    obtain ⟨c3, n3, hrn⟩ : ∃ c3 n3, rn s i = (c3, n3) := ⟨_, _, rfl⟩
    exact esc_nul e h hc48 h15 hi2 (htxt hc48) hrn (nul_next hrn hb) (hq.block (k := 3) rfl)
  refine fr_eq .i32 21 ((c2 : Nat) : Int) 48 false rfl h81 rfl (by exact eqF (by omega)) ?_
  refine fr_assign (.bool false) rfl ?_
  refine fr_end ?_
  refine to_then ?_
  refine fr_false rfl ?_
  refine fr_cut f6 (fun k => Nat.beq k 139 || Nat.beq k 138) (((Keep.refl _ _).upd rfl).upd rfl) ?_
  intro f7 hk
  replace h := h.keep hk rfl rfl rfl rfl rfl rfl
  replace h81 := (hk 81 rfl).trans h81
  replace h15 := (hk 15 rfl).trans h15
  replace h14 := (hk 14 rfl).trans h14
  replace h16 := (hk 16 rfl).trans h16
  clear hk
  refine fr_seq ?_
  refine fr_region ?_
  refine fr_eq .i32 21 ((c2 : Nat) : Int) 49 false rfl h81 rfl (by exact eqF (by omega)) ?_
  refine fr_assign (.bool false) rfl ?_
  refine fr_end ?_
  refine to_then ?_
  refine fr_false rfl ?_
  refine fr_cut f7 (fun k => Nat.beq k 140 || Nat.beq k 138) (((Keep.refl _ _).upd rfl).upd rfl) ?_
  intro f8 hk
  replace h := h.keep hk rfl rfl rfl rfl rfl rfl
  replace h81 := (hk 81 rfl).trans h81
  replace h15 := (hk 15 rfl).trans h15
  replace h14 := (hk 14 rfl).trans h14
  replace h16 := (hk 16 rfl).trans h16
  clear hk
  refine fr_seq ?_
  refine fr_region ?_
  refine fr_eq .i32 21 ((c2 : Nat) : Int) 50 false rfl h81 rfl (by exact eqF (by omega)) ?_
  refine fr_assign (.bool false) rfl ?_
  refine fr_end ?_
  refine to_then ?_
  refine fr_false rfl ?_
  refine fr_cut f8 (fun k => Nat.beq k 141 || Nat.beq k 138) (((Keep.refl _ _).upd rfl).upd rfl) ?_
  intro f9 hk
  replace h := h.keep hk rfl rfl rfl rfl rfl rfl
  replace h81 := (hk 81 rfl).trans h81
  replace h15 := (hk 15 rfl).trans h15
  replace h14 := (hk 14 rfl).trans h14
  replace h16 := (hk 16 rfl).trans h16
  clear hk
  refine fr_seq ?_
  refine fr_region ?_
  refine fr_eq .i32 21 ((c2 : Nat) : Int) 51 false rfl h81 rfl (by exact eqF (by omega)) ?_
  refine fr_assign (.bool false) rfl ?_
  refine fr_end ?_
  refine to_then ?_
  refine fr_false rfl ?_
  refine fr_cut f9 (fun k => Nat.beq k 142 || Nat.beq k 138) (((Keep.refl _ _).upd rfl).upd rfl) ?_
  intro f10 hk
  replace h := h.keep hk rfl rfl rfl rfl rfl rfl
  replace h81 := (hk 81 rfl).trans h81
  replace h15 := (hk 15 rfl).trans h15
  replace h14 := (hk 14 rfl).trans h14
  replace h16 := (hk 16 rfl).trans h16
  clear hk
  refine fr_seq ?_
  refine fr_region ?_
  refine fr_eq .i32 21 ((c2 : Nat) : Int) 52 false rfl h81 rfl (by exact eqF (by omega)) ?_
  refine fr_assign (.bool false) rfl ?_
  refine fr_end ?_
  refine to_then ?_
  refine fr_false rfl ?_
  refine fr_cut f10 (fun k => Nat.beq k 143 || Nat.beq k 138) (((Keep.refl _ _).upd rfl).upd rfl) ?_
  intro f11 hk
  replace h := h.keep hk rfl rfl rfl rfl rfl rfl
  replace h81 := (hk 81 rfl).trans h81
  replace h15 := (hk 15 rfl).trans h15
  replace h14 := (hk 14 rfl).trans h14
  replace h16 := (hk 16 rfl).trans h16
  clear hk
  refine fr_seq ?_
  refine fr_region ?_
  refine fr_eq .i32 21 ((c2 : Nat) : Int) 53 false rfl h81 rfl (by exact eqF (by omega)) ?_
  refine fr_assign (.bool false) rfl ?_
  refine fr_end ?_
  refine to_then ?_
  refine fr_false rfl ?_
  refine fr_cut f11 (fun k => Nat.beq k 144 || Nat.beq k 138) (((Keep.refl _ _).upd rfl).upd rfl) ?_
  intro f12 hk
  replace h := h.keep hk rfl rfl rfl rfl rfl rfl
  replace h81 := (hk 81 rfl).trans h81
  replace h15 := (hk 15 rfl).trans h15
  replace h14 := (hk 14 rfl).trans h14
  replace h16 := (hk 16 rfl).trans h16
  clear hk
  refine fr_seq ?_
  refine fr_region ?_
  refine fr_eq .i32 21 ((c2 : Nat) : Int) 54 false rfl h81 rfl (by exact eqF (by omega)) ?_
  refine fr_assign (.bool false) rfl ?_
  refine fr_end ?_
  refine to_then ?_
  refine fr_false rfl ?_
  refine fr_cut f12 (fun k => Nat.beq k 145 || Nat.beq k 138) (((Keep.refl _ _).upd rfl).upd rfl) ?_
  intro f13 hk
  replace h := h.keep hk rfl rfl rfl rfl rfl rfl
  replace h81 := (hk 81 rfl).trans h81
  replace h15 := (hk 15 rfl).trans h15
  replace h14 := (hk 14 rfl).trans h14
  replace h16 := (hk 16 rfl).trans h16
  clear hk
  refine fr_region ?_
  refine fr_eq .i32 21 ((c2 : Nat) : Int) 55 false rfl h81 rfl (by exact eqF (by omega)) ?_
  refine fr_assign (.bool false) rfl ?_
  refine fr_end ?_
  refine to_then ?_
  refine fr_false rfl ?_
  refine fr_cut f13 (fun k => Nat.beq k 146 || Nat.beq k 138) (((Keep.refl _ _).upd rfl).upd rfl) ?_
  intro f14 hk
  replace h := h.keep hk rfl rfl rfl rfl rfl rfl
  replace h81 := (hk 81 rfl).trans h81
  replace h15 := (hk 15 rfl).trans h15
  replace h14 := (hk 14 rfl).trans h14
  replace h16 := (hk 16 rfl).trans h16
  clear hk
  refine fr_seq ?_
  refine fr_seq ?_
  refine fr_region ?_
  refine fr_eq .i32 21 ((c2 : Nat) : Int) 56 false rfl h81 rfl (by exact eqF (by omega)) ?_
  refine fr_assign (.bool false) rfl ?_
  refine fr_end ?_
  refine to_then ?_
  refine fr_false rfl ?_
  refine fr_cut f14 (fun k => Nat.beq k 238 || Nat.beq k 237) (((Keep.refl _ _).upd rfl).upd rfl) ?_
  intro f15 hk
  replace h := h.keep hk rfl rfl rfl rfl rfl rfl
  replace h81 := (hk 81 rfl).trans h81
  replace h15 := (hk 15 rfl).trans h15
  replace h14 := (hk 14 rfl).trans h14
  replace h16 := (hk 16 rfl).trans h16
  clear hk
  refine fr_region ?_
  refine fr_eq .i32 21 ((c2 : Nat) : Int) 57 false rfl h81 rfl (by exact eqF (by omega)) ?_
  refine fr_assign (.bool false) rfl ?_
  refine fr_end ?_
  refine to_then ?_
  refine fr_false rfl ?_
  refine fr_cut f15 (fun k => Nat.beq k 239 || Nat.beq k 237) (((Keep.refl _ _).upd rfl).upd rfl) ?_
  intro f16 hk
  replace h := h.keep hk rfl rfl rfl rfl rfl rfl
  replace h81 := (hk 81 rfl).trans h81
  replace h15 := (hk 15 rfl).trans h15
  replace h14 := (hk 14 rfl).trans h14
  replace h16 := (hk 16 rfl).trans h16
  clear hk
  refine fr_seq ?_
  refine fr_region ?_
  by_cases hc120 : c2 = 120
  · refine fr_eq .i32 21 ((c2 : Nat) : Int) 120 true rfl h81 rfl (by exact eqT (by omega)) ?_
    refine fr_assign (.bool true) rfl ?_
    refine fr_end ?_
    refine to_then ?_
    refine fr_true rfl ?_
    refine fr_cut f16 (fun k => Nat.beq k 251 || Nat.beq k 250) (((Keep.refl _ _).upd rfl).upd rfl) ?_
    intro f17 hk
    replace h := h.keep hk rfl rfl rfl rfl rfl rfl
    replace h81 := (hk 81 rfl).trans h81
    replace h15 := (hk 15 rfl).trans h15
    replace h14 := (hk 14 rfl).trans h14
    replace h16 := (hk 16 rfl).trans h16
    clear hk
    obtain ⟨p, hdg, rfl⟩ := ec.x hc120
    exact esc_x e h hdg (digits2_le hdg) (hq.block (k := 3) rfl)
  refine fr_eq .i32 21 ((c2 : Nat) : Int) 120 false rfl h81 rfl (by exact eqF (by omega)) ?_
  refine fr_assign (.bool false) rfl ?_
  refine fr_end ?_
  refine to_then ?_
  refine fr_false rfl ?_
  refine fr_cut f16 (fun k => Nat.beq k 251 || Nat.beq k 250) (((Keep.refl _ _).upd rfl).upd rfl) ?_
  intro f17 hk
  replace h := h.keep hk rfl rfl rfl rfl rfl rfl
  replace h81 := (hk 81 rfl).trans h81
  replace h15 := (hk 15 rfl).trans h15
  replace h14 := (hk 14 rfl).trans h14
  replace h16 := (hk 16 rfl).trans h16
  clear hk
  refine fr_seq ?_
  refine fr_region ?_
  by_cases hc117 : c2 = 117
  · refine fr_eq .i32 21 ((c2 : Nat) : Int) 117 true rfl h81 rfl (by exact eqT (by omega)) ?_
    refine fr_assign (.bool true) rfl ?_
    refine fr_end ?_
    refine to_then ?_
    refine fr_true rfl ?_
    refine fr_cut f17 (fun k => Nat.beq k 326 || Nat.beq k 325) (((Keep.refl _ _).upd rfl).upd rfl) ?_
    intro f18 hk
    replace h := h.keep hk rfl rfl rfl rfl rfl rfl
    replace h81 := (hk 81 rfl).trans h81
    replace h15 := (hk 15 rfl).trans h15
    replace h14 := (hk 14 rfl).trans h14
    replace h16 := (hk 16 rfl).trans h16
    clear hk
    obtain ⟨p, hpt, rfl⟩ := ec.u hc117
    obtain ⟨c, n, hrn⟩ : ∃ c n, rn s i = (c, n) := ⟨_, _, rfl⟩
    have hpp := (pointF_max hpt)
    unfold pointF at hpt
    by_cases hc : c = 123
    · obtain ⟨h1, h2⟩ := rune_byte hrn (by omega)
      rw [if_pos (h1.trans hc)] at hpt
      rw [← h2] at hpt
      exact esc_u_b e h hc hrn hpt h14 h16 hn1 hn2 hpp (hq.block (k := 3) rfl)
    · rw [if_neg (fun k => hc (byte_rune hrn k))] at hpt
      exact esc_u_u e h hc hrn hpt hpp (hq.block (k := 3) rfl)
  refine fr_eq .i32 21 ((c2 : Nat) : Int) 117 false rfl h81 rfl (by exact eqF (by omega)) ?_
  refine fr_assign (.bool false) rfl ?_
  refine fr_end ?_
  refine to_then ?_
  refine fr_false rfl ?_
  refine fr_cut f17 (fun k => Nat.beq k 326 || Nat.beq k 325) (((Keep.refl _ _).upd rfl).upd rfl) ?_
  intro f18 hk
  replace h := h.keep hk rfl rfl rfl rfl rfl rfl
  replace h81 := (hk 81 rfl).trans h81
  replace h15 := (hk 15 rfl).trans h15
  replace h14 := (hk 14 rfl).trans h14
  replace h16 := (hk 16 rfl).trans h16
  clear hk
  refine fr_seq ?_
  refine fr_region ?_
  by_cases hc13 : c2 = 13
  · refine fr_eq .i32 21 ((c2 : Nat) : Int) 13 true rfl h81 rfl (by exact eqT (by omega)) ?_
    refine fr_assign (.bool true) rfl ?_
    refine fr_end ?_
    refine to_then ?_
    refine fr_true rfl ?_
    refine fr_cut f18 (fun k => Nat.beq k 508 || Nat.beq k 507) (((Keep.refl _ _).upd rfl).upd rfl) ?_
    intro f19 hk
    replace h := h.keep hk rfl rfl rfl rfl rfl rfl
    replace h81 := (hk 81 rfl).trans h81
    replace h15 := (hk 15 rfl).trans h15
    replace h14 := (hk 14 rfl).trans h14
    replace h16 := (hk 16 rfl).trans h16
    clear hk
    by_cases hb : bt s i = 10
    · obtain ⟨rfl, rfl⟩ := ec.cr hc13 hb
      exact esc_cr_a e h (bt_lt_size hb) hb (hq.block (k := 3) rfl)
    · obtain ⟨rfl, hj⟩ := ec.cr2 hc13 hb
      subst j
      by_cases hlt : i < s.size
      · exact esc_cr_b e h hlt hb (hq.block (k := 3) rfl)
      · exact esc_cr_c e h (by omega) (hq.block (k := 3) rfl)
  refine fr_eq .i32 21 ((c2 : Nat) : Int) 13 false rfl h81 rfl (by exact eqF (by omega)) ?_
  refine fr_assign (.bool false) rfl ?_
  refine fr_end ?_
  refine to_then ?_
  refine fr_false rfl ?_
  refine fr_cut f18 (fun k => Nat.beq k 508 || Nat.beq k 507) (((Keep.refl _ _).upd rfl).upd rfl) ?_
  intro f19 hk
  replace h := h.keep hk rfl rfl rfl rfl rfl rfl
  replace h81 := (hk 81 rfl).trans h81
  replace h15 := (hk 15 rfl).trans h15
  replace h14 := (hk 14 rfl).trans h14
  replace h16 := (hk 16 rfl).trans h16
  clear hk
  refine fr_seq ?_
  refine fr_seq ?_
  refine fr_region ?_
  by_cases hc10 : c2 = 10
  · refine fr_eq .i32 21 ((c2 : Nat) : Int) 10 true rfl h81 rfl (by exact eqT (by omega)) ?_
    refine fr_assign (.bool true) rfl ?_
    refine fr_end ?_
    refine to_then ?_
    refine fr_true rfl ?_
    refine wp_skip ?_
    refine to_then ?_
    refine fr_true rfl ?_
    refine fr_cut f19 (fun k => Nat.beq k 532 || Nat.beq k 531) (((Keep.refl _ _).upd rfl).upd rfl) ?_
    intro f20 hk
    replace h := h.keep hk rfl rfl rfl rfl rfl rfl
    replace h81 := (hk 81 rfl).trans h81
    replace h15 := (hk 15 rfl).trans h15
    replace h14 := (hk 14 rfl).trans h14
    replace h16 := (hk 16 rfl).trans h16
    clear hk
    obtain ⟨rfl, rfl⟩ := ec.ln (by omega)
    exact esc_line e h (hq.block (k := 3) rfl)
  refine fr_eq .i32 21 ((c2 : Nat) : Int) 10 false rfl h81 rfl (by exact eqF (by omega)) ?_
  refine fr_assign (.bool false) rfl ?_
  refine fr_end ?_
  refine to_then ?_
  refine fr_false rfl ?_
  refine fr_cut f19 (fun k => Nat.beq k 532 || Nat.beq k 531) (((Keep.refl _ _).upd rfl).upd rfl) ?_
  intro f20 hk
  replace h := h.keep hk rfl rfl rfl rfl rfl rfl
  replace h81 := (hk 81 rfl).trans h81
  replace h15 := (hk 15 rfl).trans h15
  replace h14 := (hk 14 rfl).trans h14
  replace h16 := (hk 16 rfl).trans h16
  clear hk
  refine fr_seq ?_
  refine fr_region ?_
  by_cases hc8232 : c2 = 8232
  · refine fr_eq .i32 21 ((c2 : Nat) : Int) 8232 true rfl h81 rfl (by exact eqT (by omega)) ?_
    refine fr_assign (.bool true) rfl ?_
    refine fr_end ?_
    refine to_then ?_
    refine fr_true rfl ?_
    refine wp_skip ?_
    refine to_then ?_
    refine fr_true rfl ?_
    refine fr_cut f20 (fun k => Nat.beq k 533 || Nat.beq k 531) (((Keep.refl _ _).upd rfl).upd rfl) ?_
    intro f21 hk
    replace h := h.keep hk rfl rfl rfl rfl rfl rfl
    replace h81 := (hk 81 rfl).trans h81
    replace h15 := (hk 15 rfl).trans h15
    replace h14 := (hk 14 rfl).trans h14
    replace h16 := (hk 16 rfl).trans h16
    clear hk
    obtain ⟨rfl, rfl⟩ := ec.ln (by omega)
    exact esc_line e h (hq.block (k := 3) rfl)
  refine fr_eq .i32 21 ((c2 : Nat) : Int) 8232 false rfl h81 rfl (by exact eqF (by omega)) ?_
  refine fr_assign (.bool false) rfl ?_
  refine fr_end ?_
  refine to_then ?_
  refine fr_false rfl ?_
  refine fr_cut f20 (fun k => Nat.beq k 533 || Nat.beq k 531) (((Keep.refl _ _).upd rfl).upd rfl) ?_
  intro f21 hk
  replace h := h.keep hk rfl rfl rfl rfl rfl rfl
  replace h81 := (hk 81 rfl).trans h81
  replace h15 := (hk 15 rfl).trans h15
  replace h14 := (hk 14 rfl).trans h14
  replace h16 := (hk 16 rfl).trans h16
  clear hk
  refine fr_region ?_
  by_cases hc8233 : c2 = 8233
  · refine fr_eq .i32 21 ((c2 : Nat) : Int) 8233 true rfl h81 rfl (by exact eqT (by omega)) ?_
    refine fr_assign (.bool true) rfl ?_
    refine fr_end ?_
    refine to_then ?_
    refine fr_true rfl ?_
    refine fr_cut f21 (fun k => Nat.beq k 534 || Nat.beq k 531) (((Keep.refl _ _).upd rfl).upd rfl) ?_
    intro f22 hk
    replace h := h.keep hk rfl rfl rfl rfl rfl rfl
    replace h81 := (hk 81 rfl).trans h81
    replace h15 := (hk 15 rfl).trans h15
    replace h14 := (hk 14 rfl).trans h14
    replace h16 := (hk 16 rfl).trans h16
    clear hk
    obtain ⟨rfl, rfl⟩ := ec.ln (by omega)
    exact esc_line e h (hq.block (k := 3) rfl)
  refine fr_eq .i32 21 ((c2 : Nat) : Int) 8233 false rfl h81 rfl (by exact eqF (by omega)) ?_
  refine fr_assign (.bool false) rfl ?_
  refine fr_end ?_
  refine to_then ?_
  refine fr_false rfl ?_
  refine fr_cut f21 (fun k => Nat.beq k 534 || Nat.beq k 531) (((Keep.refl _ _).upd rfl).upd rfl) ?_
  intro f22 hk
  replace h := h.keep hk rfl rfl rfl rfl rfl rfl
  replace h81 := (hk 81 rfl).trans h81
  replace h15 := (hk 15 rfl).trans h15
  replace h14 := (hk 14 rfl).trans h14
  replace h16 := (hk 16 rfl).trans h16
  clear hk
  obtain ⟨rfl, rfl⟩ := ec.rest (simpleF_no hc98 hc102 hc110 hc114 hc116 hc118) (by omega) (by omega) (by omega) (by omega) (by omega) (by omega) (by omega)
  exact esc_default e h h15 hc (hq.block (k := 3) rfl)
end Go.Proofs.YthknielnhmoobaaGreatDoor
