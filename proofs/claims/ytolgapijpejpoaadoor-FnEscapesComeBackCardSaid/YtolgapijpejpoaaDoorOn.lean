/- The walk of the reference's writer of one character. Printed by gen_one.py. -/
import Derived.Test.YtolgapijpejpoaaDoorGs
namespace Go.Proofs.YtolgapijpejpoaaDoor
open Go.RowKit Go.Lib
noncomputable def B39 : Code := (Tryd.f39.body).getD .skip
def hardB (p q : Nat) : Bool := decide (p = q ∨ p = 92 ∨ p = 36 ∨ isLn p = true ∨ (55296 ≤ p ∧ p < 57344))
theorem hard_t {p q : Nat} (h : p = q ∨ p = 92 ∨ p = 36 ∨ isLn p = true ∨ (55296 ≤ p ∧ p < 57344)) : Value.bool true = .bool (hardB p q) := by unfold hardB; rw [decide_eq_true h]
theorem hard_f {p q : Nat} (h1 : ¬ p = q) (h2 : ¬ p = 92) (h3 : ¬ p = 36) (h4 : isLn p = false) (h5 : ¬ (55296 ≤ p ∧ p < 57344)) : Value.bool false = .bool (hardB p q) := by
  unfold hardB
  rw [decide_eq_false]
  rintro (h | h | h | h | h)
  · exact h1 h
  · exact h2 h
  · exact h3 h
  · rw [h4] at h; cases h
  · exact h5 h
/-- The ways on behind a character written. -/
structure OneRet (w0 : World) (C : Nat) (vN : Value) (p q lim : Nat) (Q : Exit → Act → World → Prop) : Prop where
  out : ∀ g w' t, g 6 = .string t → Means t (unitsOf p) → 1 ≤ t.size → t.size ≤ 12 → OneAt w0 w' C vN (lim + 12) → Q .ret (mk 119 g) w'
structure OneOut (w0 : World) (C : Nat) (vN : Value) (p q lim : Nat) (Q : Exit → Act → World → Prop) : Prop where
  out : ∀ g w' t, g 6 = .string t → Means t (unitsOf p) → 1 ≤ t.size → t.size ≤ 12 → OneAt w0 w' C vN (lim + 12) → Q .ret (mk 119 g) w'
  fall : ∀ g w', g 0 = .pointer (some ⟨C, 0, none⟩) → g 1 = .int .i32 (p : Int) → g 2 = .int .u8 (q : Int) → OneAt w0 w' C vN (lim + 8) → Q .normal (mk 119 g) w'
set_option maxRecDepth 100000 in
theorem one_r1 {w : World} {f : Nat → Value} {C p q : Nat} {Q : Exit → Act → World → Prop} (h0 : f 0 = .pointer (some ⟨C, 0, none⟩)) (h1 : f 1 = .int .i32 (p : Int)) (h2 : f 2 = .int .u8 (q : Int)) (hq : q = 34 ∨ q = 39) (hp : p ≤ 1114111) (hk : ∀ g, g 0 = .pointer (some ⟨C, 0, none⟩) → g 1 = .int .i32 (p : Int) → g 2 = .int .u8 (q : Int) → g 7 = .bool (hardB p q) → Q .normal (mk 119 g) w) :
    (sub B39 [1, 0]).wp Tryd.prog Q (mk 119 f) w := by
  conv => arg 2; whnf
  refine fr_region ?_
  refine fr_move (.int .i32 ((p : Nat) : Int)) h1 ?_
  refine fr_move (.int .u8 ((q : Nat) : Int)) h2 ?_
  refine fr_conv 5 21 .u8 .i32 _ ((q : Nat) : Int) rfl rfl rfl (by exact w32' rfl (by omega) (by omega)) ?_
  by_cases hf1 : p = q
  · refine fr_eq .i32 21 ((p : Nat) : Int) ((q : Nat) : Int) true rfl rfl rfl (by exact eqT (by omega)) ?_
    refine fr_move (.bool true) rfl ?_
    refine fr_skip 4 12 false true rfl rfl rfl rfl ?_
    refine fr_skip 4 12 false true rfl rfl rfl rfl ?_
    refine fr_pick true (.bool true) rfl rfl ?_
    refine fr_move (.bool true) rfl ?_
    refine fr_skip 8 16 false true rfl rfl rfl rfl ?_
    refine fr_skip 8 16 false true rfl rfl rfl rfl ?_
    refine fr_pick true (.bool true) rfl rfl ?_
    refine fr_move (.bool true) rfl ?_
    refine fr_skip 12 20 false true rfl rfl rfl rfl ?_
    refine fr_skip 12 20 false true rfl rfl rfl rfl ?_
    refine fr_pick true (.bool true) rfl rfl ?_
    refine fr_move (.bool true) rfl ?_
    refine fr_skip 16 24 false true rfl rfl rfl rfl ?_
    refine fr_skip 16 24 false true rfl rfl rfl rfl ?_
    refine fr_skip 16 24 false true rfl rfl rfl rfl ?_
    refine fr_skipU 19 27 true rfl rfl rfl ?_
    refine fr_skipU 19 27 true rfl rfl rfl ?_
    refine fr_skip 16 24 false true rfl rfl rfl rfl ?_
    refine fr_pick true (.bool true) rfl rfl ?_
    refine fr_assign (.bool true) rfl ?_
    refine fr_end ?_
    exact hk _ h0 h1 h2 (hard_t (by omega))
  refine fr_eq .i32 21 ((p : Nat) : Int) ((q : Nat) : Int) false rfl rfl rfl (by exact eqF (by omega)) ?_
  refine fr_move (.bool false) rfl ?_
  refine fr_open 4 12 false rfl rfl rfl ?_
  refine fr_move (.int .i32 ((p : Nat) : Int)) h1 ?_
  by_cases hf2 : p = 92
  · refine fr_open 4 12 false rfl rfl rfl ?_
    refine fr_eq .i32 21 ((p : Nat) : Int) 92 true rfl rfl rfl (by exact eqT (by omega)) ?_
    refine fr_pick false (.bool true) rfl rfl ?_
    refine fr_move (.bool true) rfl ?_
    refine fr_skip 8 16 false true rfl rfl rfl rfl ?_
    refine fr_skip 8 16 false true rfl rfl rfl rfl ?_
    refine fr_pick true (.bool true) rfl rfl ?_
    refine fr_move (.bool true) rfl ?_
    refine fr_skip 12 20 false true rfl rfl rfl rfl ?_
    refine fr_skip 12 20 false true rfl rfl rfl rfl ?_
    refine fr_pick true (.bool true) rfl rfl ?_
    refine fr_move (.bool true) rfl ?_
    refine fr_skip 16 24 false true rfl rfl rfl rfl ?_
    refine fr_skip 16 24 false true rfl rfl rfl rfl ?_
    refine fr_skip 16 24 false true rfl rfl rfl rfl ?_
    refine fr_skipU 19 27 true rfl rfl rfl ?_
    refine fr_skipU 19 27 true rfl rfl rfl ?_
    refine fr_skip 16 24 false true rfl rfl rfl rfl ?_
    refine fr_pick true (.bool true) rfl rfl ?_
    refine fr_assign (.bool true) rfl ?_
    refine fr_end ?_
    exact hk _ h0 h1 h2 (hard_t (by omega))
  refine fr_open 4 12 false rfl rfl rfl ?_
  refine fr_eq .i32 21 ((p : Nat) : Int) 92 false rfl rfl rfl (by exact eqF (by omega)) ?_
  refine fr_pick false (.bool false) rfl rfl ?_
  refine fr_move (.bool false) rfl ?_
  refine fr_open 8 16 false rfl rfl rfl ?_
  refine fr_move (.int .i32 ((p : Nat) : Int)) h1 ?_
  by_cases hf3 : p = 36
  · refine fr_open 8 16 false rfl rfl rfl ?_
    refine fr_eq .i32 21 ((p : Nat) : Int) 36 true rfl rfl rfl (by exact eqT (by omega)) ?_
    refine fr_pick false (.bool true) rfl rfl ?_
    refine fr_move (.bool true) rfl ?_
    refine fr_skip 12 20 false true rfl rfl rfl rfl ?_
    refine fr_skip 12 20 false true rfl rfl rfl rfl ?_
    refine fr_pick true (.bool true) rfl rfl ?_
    refine fr_move (.bool true) rfl ?_
    refine fr_skip 16 24 false true rfl rfl rfl rfl ?_
    refine fr_skip 16 24 false true rfl rfl rfl rfl ?_
    refine fr_skip 16 24 false true rfl rfl rfl rfl ?_
    refine fr_skipU 19 27 true rfl rfl rfl ?_
    refine fr_skipU 19 27 true rfl rfl rfl ?_
    refine fr_skip 16 24 false true rfl rfl rfl rfl ?_
    refine fr_pick true (.bool true) rfl rfl ?_
    refine fr_assign (.bool true) rfl ?_
    refine fr_end ?_
    exact hk _ h0 h1 h2 (hard_t (by omega))
  refine fr_open 8 16 false rfl rfl rfl ?_
  refine fr_eq .i32 21 ((p : Nat) : Int) 36 false rfl rfl rfl (by exact eqF (by omega)) ?_
  refine fr_pick false (.bool false) rfl rfl ?_
  refine fr_move (.bool false) rfl ?_
  refine fr_open 12 20 false rfl rfl rfl ?_
  refine fr_move (.int .i32 ((p : Nat) : Int)) h1 ?_
  by_cases hf4 : isLn p = true
  · refine fr_open 12 20 false rfl rfl rfl ?_
    refine fr_isLine p rfl _ ?_
    rw [hf4]
    refine fr_pick false (.bool true) rfl rfl ?_
    refine fr_move (.bool true) rfl ?_
    refine fr_skip 16 24 false true rfl rfl rfl rfl ?_
    refine fr_skip 16 24 false true rfl rfl rfl rfl ?_
    refine fr_skip 16 24 false true rfl rfl rfl rfl ?_
    refine fr_skipU 19 27 true rfl rfl rfl ?_
    refine fr_skipU 19 27 true rfl rfl rfl ?_
    refine fr_skip 16 24 false true rfl rfl rfl rfl ?_
    refine fr_pick true (.bool true) rfl rfl ?_
    refine fr_assign (.bool true) rfl ?_
    refine fr_end ?_
    exact hk _ h0 h1 h2 (hard_t (Or.inr (Or.inr (Or.inr (Or.inl hf4)))))
  refine fr_open 12 20 false rfl rfl rfl ?_
  refine fr_isLine p rfl _ ?_
  rw [show isLn p = false from by simpa using hf4]
  refine fr_pick false (.bool false) rfl rfl ?_
  refine fr_move (.bool false) rfl ?_
  refine fr_open 16 24 false rfl rfl rfl ?_
  refine fr_move (.int .i32 ((p : Nat) : Int)) h1 ?_
  by_cases hf5 : 55296 ≤ p
  · refine fr_open 16 24 false rfl rfl rfl ?_
    refine fr_geq .i32 21 ((p : Nat) : Int) 55296 true rfl rfl rfl (by exact leT (by omega)) ?_
    refine fr_open 16 24 false rfl rfl rfl ?_
    refine fr_move (.bool true) rfl ?_
    refine fr_open 19 27 true rfl rfl rfl ?_
    refine fr_move (.int .i32 ((p : Nat) : Int)) h1 ?_
    by_cases hf6 : p < 57344
    · refine fr_open 19 27 true rfl rfl rfl ?_
      refine fr_lss .i32 21 ((p : Nat) : Int) 57344 true rfl rfl rfl (by exact ltT (by omega)) ?_
      refine fr_open 16 24 false rfl rfl rfl ?_
      refine fr_pick true (.bool true) rfl rfl ?_
      refine fr_pick false (.bool true) rfl rfl ?_
      refine fr_assign (.bool true) rfl ?_
      refine fr_end ?_
      exact hk _ h0 h1 h2 (hard_t (by omega))
    refine fr_open 19 27 true rfl rfl rfl ?_
    refine fr_lss .i32 21 ((p : Nat) : Int) 57344 false rfl rfl rfl (by exact ltF (by omega)) ?_
    refine fr_open 16 24 false rfl rfl rfl ?_
    refine fr_pick true (.bool false) rfl rfl ?_
    refine fr_pick false (.bool false) rfl rfl ?_
    refine fr_assign (.bool false) rfl ?_
    refine fr_end ?_
    exact hk _ h0 h1 h2 (hard_f (by omega) (by omega) (by omega) (by simpa using hf4) (by omega))
  refine fr_open 16 24 false rfl rfl rfl ?_
  refine fr_geq .i32 21 ((p : Nat) : Int) 55296 false rfl rfl rfl (by exact leF (by omega)) ?_
  refine fr_open 16 24 false rfl rfl rfl ?_
  refine fr_move (.bool false) rfl ?_
  refine fr_skip 19 27 true false rfl rfl rfl rfl ?_
  refine fr_skip 19 27 true false rfl rfl rfl rfl ?_
  refine fr_open 16 24 false rfl rfl rfl ?_
  refine fr_pick false (.bool false) rfl rfl ?_
  refine fr_pick false (.bool false) rfl rfl ?_
  refine fr_assign (.bool false) rfl ?_
  refine fr_end ?_
  exact hk _ h0 h1 h2 (hard_f (by omega) (by omega) (by omega) (by simpa using hf4) (by omega))
set_option maxRecDepth 100000 in
theorem one_tail {w0 w : World} {f : Nat → Value} {C p q lim : Nat} {vN : Value} {Q : Exit → Act → World → Prop} (hO : OneAt w0 w C vN (lim + 8)) (hl : lim ≤ 1152921504606846976) (h0 : f 0 = .pointer (some ⟨C, 0, none⟩)) (h1 : f 1 = .int .i32 (p : Int)) (h2 : f 2 = .int .u8 (q : Int)) (hq : q = 34 ∨ q = 39) (hp : p ≤ 1114111) (hk : OneRet w0 C vN p q lim Q) :
    (sub B39 [1, 1, 1, 1]).wp Tryd.prog Q (mk 119 f) w := by
  have hel := encode_le ((p : Nat) : Int)
  conv => arg 2; whnf
  refine fr_seq ?_
  refine fr_region ?_
  refine fr_move (.int .i32 ((p : Nat) : Int)) h1 ?_
  refine fr_conv 21 3 .i32 .i64 _ ((p : Nat) : Int) rfl rfl rfl (by exact w64' rfl (by omega) (by omega)) ?_
  refine fr_move ((.pointer (some ⟨C, 0, none⟩))) h0 ?_
  refine fr_of 6 rfl rfl hO (by omega) (by omega) (by omega) _ ?_
  intro k7 w8 hk9 hO10 _
  refine fr_add .i64 3 1 ((k7 : Nat) : Int) ((1 + k7 : Nat) : Int) rfl rfl rfl (by exact w64' (by omega) (by omega) (by omega)) ?_
  refine fr_move ((.pointer (some ⟨C, 0, none⟩))) h0 ?_
  refine fr_of 2 rfl rfl hO10 (by omega) (by omega) (by omega) _ ?_
  intro k11 w12 hk13 hO14 _
  refine fr_eq .i64 3 ((k11 : Nat) : Int) 0 (((k11 : Nat) : Int) == 0) rfl rfl rfl rfl ?_
  refine fr_hexw p 6 (1 + k7) (((k11 : Nat) : Int) == 0) rfl rfl rfl hO14 (by omega) (by omega) (by have h : (16 : Nat) ^ 6 = 16777216 := rfl; omega) (by omega) (by omega) _ ?_
  intro t15 w16 ht15 ht15a ht15b ht15c hO17
  refine fr_addS ⟨#[92, 117, 123]⟩ t15 rfl rfl (by simp only [ByteArray.size_append, size1, size2, size3, size4]; omega) ?_
  refine fr_addS (⟨#[92, 117, 123]⟩ ++ t15) ⟨#[125]⟩ rfl rfl (by simp only [ByteArray.size_append, size1, size2, size3, size4]; omega) ?_
  refine fr_assign ((.string ((⟨#[92, 117, 123]⟩ ++ t15) ++ ⟨#[125]⟩))) rfl ?_
  refine fr_end ?_
  refine to_then ?_
  refine wp_ret ?_
  exact hk.out _ _ _ rfl (means_b ht15 ht15a hp) (by first | omega | (simp only [ByteArray.size_append, size1, size2, size3]; omega)) (by first | omega | (simp only [ByteArray.size_append, size1, size2, size3]; omega)) (hO17.mono (by omega))
set_option maxRecDepth 100000 in
theorem one_12 {w0 w : World} {f : Nat → Value} {C p q lim : Nat} {vN : Value} {Q : Exit → Act → World → Prop} (hO : OneAt w0 w C vN (lim + 5)) (hl : lim ≤ 1152921504606846976) (h0 : f 0 = .pointer (some ⟨C, 0, none⟩)) (h1 : f 1 = .int .i32 (p : Int)) (h2 : f 2 = .int .u8 (q : Int)) (hq : q = 34 ∨ q = 39) (hp : p ≤ 1114111) (hk : OneOut w0 C vN p q lim Q) :
    (sub B39 [1, 1, 1, 0, 0, 1, 1, 1, 1, 1, 1, 1, 1]).wp Tryd.prog Q (mk 119 f) w := by
  have hel := encode_le ((p : Nat) : Int)
  conv => arg 2; whnf
  refine fr_seq ?_
  refine fr_region ?_
  refine fr_move (.int .i32 ((p : Nat) : Int)) h1 ?_
  by_cases hf18 : p = 9
  · refine fr_eq .i32 21 ((p : Nat) : Int) 9 true rfl rfl rfl (by exact eqT (by omega)) ?_
    refine fr_move (.bool true) rfl ?_
    refine fr_open 2 103 true rfl rfl rfl ?_
    refine fr_move ((.pointer (some ⟨C, 0, none⟩))) h0 ?_
    refine fr_open 2 103 true rfl rfl rfl ?_
    refine fr_of 2 rfl rfl hO (by omega) (by omega) (by omega) _ ?_
    intro k19 w20 hk21 hO22 _
    by_cases hf23 : k19 = 0
    · refine fr_open 2 103 true rfl rfl rfl ?_
      refine fr_eq .i64 3 ((k19 : Nat) : Int) 0 true rfl rfl rfl (by exact eqT (by omega)) ?_
      refine fr_pick true (.bool true) rfl rfl ?_
      refine fr_assign (.bool true) rfl ?_
      refine fr_end ?_
      refine to_then ?_
      refine fr_true rfl ?_
      refine fr_seq ?_
      refine fr_region ?_
      refine fr_assign ((.string ⟨#[92, 116]⟩)) rfl ?_
      refine fr_end ?_
      refine to_then ?_
      refine wp_ret ?_
      exact hk.out _ _ _ rfl (by rw [show p = 9 by omega]; exact means_t) (by first | omega | (simp only [ByteArray.size_append, size1, size2, size3]; omega)) (by first | omega | (simp only [ByteArray.size_append, size1, size2, size3]; omega)) (hO22.mono (by omega))
    refine fr_open 2 103 true rfl rfl rfl ?_
    refine fr_eq .i64 3 ((k19 : Nat) : Int) 0 false rfl rfl rfl (by exact eqF (by omega)) ?_
    refine fr_pick true (.bool false) rfl rfl ?_
    refine fr_assign (.bool false) rfl ?_
    refine fr_end ?_
    refine to_then ?_
    refine fr_false rfl ?_
    refine wp_skip ?_
    exact hk.fall _ _ h0 h1 h2 (hO22.mono (by omega))
  refine fr_eq .i32 21 ((p : Nat) : Int) 9 false rfl rfl rfl (by exact eqF (by omega)) ?_
  refine fr_move (.bool false) rfl ?_
  refine fr_skip 2 103 true false rfl rfl rfl rfl ?_
  refine fr_skip 2 103 true false rfl rfl rfl rfl ?_
  refine fr_skip 2 103 true false rfl rfl rfl rfl ?_
  refine fr_pick false (.bool false) rfl rfl ?_
  refine fr_assign (.bool false) rfl ?_
  refine fr_end ?_
  refine to_then ?_
  refine fr_false rfl ?_
  refine wp_skip ?_
  exact hk.fall _ _ h0 h1 h2 (hO.mono (by omega))
set_option maxRecDepth 100000 in
theorem one_10 {w0 w : World} {f : Nat → Value} {C p q lim : Nat} {vN : Value} {Q : Exit → Act → World → Prop} (hO : OneAt w0 w C vN (lim + 4)) (hl : lim ≤ 1152921504606846976) (h0 : f 0 = .pointer (some ⟨C, 0, none⟩)) (h1 : f 1 = .int .i32 (p : Int)) (h2 : f 2 = .int .u8 (q : Int)) (hq : q = 34 ∨ q = 39) (hp : p ≤ 1114111) (hk : OneOut w0 C vN p q lim Q) :
    (sub B39 [1, 1, 1, 0, 0, 1, 1, 1, 1, 1, 1]).wp Tryd.prog Q (mk 119 f) w := by
  have hel := encode_le ((p : Nat) : Int)
  conv => arg 2; whnf
  refine fr_seq ?_
  refine fr_region ?_
  refine fr_move (.int .i32 ((p : Nat) : Int)) h1 ?_
  by_cases hf24 : p = 10
  · refine fr_eq .i32 21 ((p : Nat) : Int) 10 true rfl rfl rfl (by exact eqT (by omega)) ?_
    refine fr_move (.bool true) rfl ?_
    refine fr_open 2 95 true rfl rfl rfl ?_
    refine fr_move ((.pointer (some ⟨C, 0, none⟩))) h0 ?_
    refine fr_open 2 95 true rfl rfl rfl ?_
    refine fr_of 2 rfl rfl hO (by omega) (by omega) (by omega) _ ?_
    intro k25 w26 hk27 hO28 _
    by_cases hf29 : k25 = 0
    · refine fr_open 2 95 true rfl rfl rfl ?_
      refine fr_eq .i64 3 ((k25 : Nat) : Int) 0 true rfl rfl rfl (by exact eqT (by omega)) ?_
      refine fr_pick true (.bool true) rfl rfl ?_
      refine fr_assign (.bool true) rfl ?_
      refine fr_end ?_
      refine to_then ?_
      refine fr_true rfl ?_
      refine fr_seq ?_
      refine fr_region ?_
      refine fr_assign ((.string ⟨#[92, 110]⟩)) rfl ?_
      refine fr_end ?_
      refine to_then ?_
      refine wp_ret ?_
      exact hk.out _ _ _ rfl (by rw [show p = 10 by omega]; exact means_n) (by first | omega | (simp only [ByteArray.size_append, size1, size2, size3]; omega)) (by first | omega | (simp only [ByteArray.size_append, size1, size2, size3]; omega)) (hO28.mono (by omega))
    refine fr_open 2 95 true rfl rfl rfl ?_
    refine fr_eq .i64 3 ((k25 : Nat) : Int) 0 false rfl rfl rfl (by exact eqF (by omega)) ?_
    refine fr_pick true (.bool false) rfl rfl ?_
    refine fr_assign (.bool false) rfl ?_
    refine fr_end ?_
    refine to_then ?_
    refine fr_false rfl ?_
    exact one_12 (hO28.mono (by omega)) hl h0 h1 h2 hq hp hk
  refine fr_eq .i32 21 ((p : Nat) : Int) 10 false rfl rfl rfl (by exact eqF (by omega)) ?_
  refine fr_move (.bool false) rfl ?_
  refine fr_skip 2 95 true false rfl rfl rfl rfl ?_
  refine fr_skip 2 95 true false rfl rfl rfl rfl ?_
  refine fr_skip 2 95 true false rfl rfl rfl rfl ?_
  refine fr_pick false (.bool false) rfl rfl ?_
  refine fr_assign (.bool false) rfl ?_
  refine fr_end ?_
  refine to_then ?_
  refine fr_false rfl ?_
  exact one_12 (hO.mono (by omega)) hl h0 h1 h2 hq hp hk
set_option maxRecDepth 100000 in
theorem one_8 {w0 w : World} {f : Nat → Value} {C p q lim : Nat} {vN : Value} {Q : Exit → Act → World → Prop} (hO : OneAt w0 w C vN (lim + 3)) (hl : lim ≤ 1152921504606846976) (h0 : f 0 = .pointer (some ⟨C, 0, none⟩)) (h1 : f 1 = .int .i32 (p : Int)) (h2 : f 2 = .int .u8 (q : Int)) (hq : q = 34 ∨ q = 39) (hp : p ≤ 1114111) (hk : OneOut w0 C vN p q lim Q) :
    (sub B39 [1, 1, 1, 0, 0, 1, 1, 1, 1]).wp Tryd.prog Q (mk 119 f) w := by
  have hel := encode_le ((p : Nat) : Int)
  conv => arg 2; whnf
  refine fr_seq ?_
  refine fr_region ?_
  refine fr_move ((.pointer (some ⟨C, 0, none⟩))) h0 ?_
  refine fr_of 3 rfl rfl hO (by omega) (by omega) (by omega) _ ?_
  intro k30 w31 hk32 hO33 _
  by_cases hf34 : k30 = 0
  · refine fr_eq .i64 3 ((k30 : Nat) : Int) 0 true rfl rfl rfl (by exact eqT (by omega)) ?_
    refine fr_move (.bool true) rfl ?_
    refine fr_open 3 75 true rfl rfl rfl ?_
    refine fr_move (.int .i32 ((p : Nat) : Int)) h1 ?_
    refine fr_open 3 75 true rfl rfl rfl ?_
    refine fr_move (.int .u8 ((q : Nat) : Int)) h2 ?_
    refine fr_open 3 75 true rfl rfl rfl ?_
    refine fr_conv 5 21 .u8 .i32 _ ((q : Nat) : Int) rfl rfl rfl (by exact w32' rfl (by omega) (by omega)) ?_
    by_cases hf35 : p = q
    · refine fr_open 3 75 true rfl rfl rfl ?_
      refine fr_eq .i32 21 ((p : Nat) : Int) ((q : Nat) : Int) true rfl rfl rfl (by exact eqT (by omega)) ?_
      refine fr_open 3 75 true rfl rfl rfl ?_
      refine fr_move (.bool true) rfl ?_
      refine fr_skip 8 80 false true rfl rfl rfl rfl ?_
      refine fr_skip 8 80 false true rfl rfl rfl rfl ?_
      refine fr_open 3 75 true rfl rfl rfl ?_
      refine fr_pick true (.bool true) rfl rfl ?_
      refine fr_open 3 75 true rfl rfl rfl ?_
      refine fr_move (.bool true) rfl ?_
      refine fr_skip 12 84 false true rfl rfl rfl rfl ?_
      refine fr_skip 12 84 false true rfl rfl rfl rfl ?_
      refine fr_open 3 75 true rfl rfl rfl ?_
      refine fr_pick true (.bool true) rfl rfl ?_
      refine fr_pick true (.bool true) rfl rfl ?_
      refine fr_assign (.bool true) rfl ?_
      refine fr_end ?_
      refine to_then ?_
      refine fr_true rfl ?_
      refine fr_seq ?_
      refine fr_region ?_
      refine fr_move (.int .i32 ((p : Nat) : Int)) h1 ?_
      refine fr_rune p rfl ?_
      refine fr_addS ⟨#[92]⟩ (Utf8.encode ((p : Nat) : Int)) rfl rfl (by simp only [ByteArray.size_append, size1, size2, size3, size4]; omega) ?_
      refine fr_assign ((.string (⟨#[92]⟩ ++ (Utf8.encode ((p : Nat) : Int))))) rfl ?_
      refine fr_end ?_
      refine to_then ?_
      refine wp_ret ?_
      exact hk.out _ _ _ rfl (means_self (by omega)) (by first | omega | (simp only [ByteArray.size_append, size1, size2, size3]; omega)) (by first | omega | (simp only [ByteArray.size_append, size1, size2, size3]; omega)) (hO33.mono (by omega))
    refine fr_open 3 75 true rfl rfl rfl ?_
    refine fr_eq .i32 21 ((p : Nat) : Int) ((q : Nat) : Int) false rfl rfl rfl (by exact eqF (by omega)) ?_
    refine fr_open 3 75 true rfl rfl rfl ?_
    refine fr_move (.bool false) rfl ?_
    refine fr_open 8 80 false rfl rfl rfl ?_
    refine fr_move (.int .i32 ((p : Nat) : Int)) h1 ?_
    by_cases hf36 : p = 92
    · refine fr_open 8 80 false rfl rfl rfl ?_
      refine fr_eq .i32 21 ((p : Nat) : Int) 92 true rfl rfl rfl (by exact eqT (by omega)) ?_
      refine fr_open 3 75 true rfl rfl rfl ?_
      refine fr_pick false (.bool true) rfl rfl ?_
      refine fr_open 3 75 true rfl rfl rfl ?_
      refine fr_move (.bool true) rfl ?_
      refine fr_skip 12 84 false true rfl rfl rfl rfl ?_
      refine fr_skip 12 84 false true rfl rfl rfl rfl ?_
      refine fr_open 3 75 true rfl rfl rfl ?_
      refine fr_pick true (.bool true) rfl rfl ?_
      refine fr_pick true (.bool true) rfl rfl ?_
      refine fr_assign (.bool true) rfl ?_
      refine fr_end ?_
      refine to_then ?_
      refine fr_true rfl ?_
      refine fr_seq ?_
      refine fr_region ?_
      refine fr_move (.int .i32 ((p : Nat) : Int)) h1 ?_
      refine fr_rune p rfl ?_
      refine fr_addS ⟨#[92]⟩ (Utf8.encode ((p : Nat) : Int)) rfl rfl (by simp only [ByteArray.size_append, size1, size2, size3, size4]; omega) ?_
      refine fr_assign ((.string (⟨#[92]⟩ ++ (Utf8.encode ((p : Nat) : Int))))) rfl ?_
      refine fr_end ?_
      refine to_then ?_
      refine wp_ret ?_
      exact hk.out _ _ _ rfl (means_self (by omega)) (by first | omega | (simp only [ByteArray.size_append, size1, size2, size3]; omega)) (by first | omega | (simp only [ByteArray.size_append, size1, size2, size3]; omega)) (hO33.mono (by omega))
    refine fr_open 8 80 false rfl rfl rfl ?_
    refine fr_eq .i32 21 ((p : Nat) : Int) 92 false rfl rfl rfl (by exact eqF (by omega)) ?_
    refine fr_open 3 75 true rfl rfl rfl ?_
    refine fr_pick false (.bool false) rfl rfl ?_
    refine fr_open 3 75 true rfl rfl rfl ?_
    refine fr_move (.bool false) rfl ?_
    refine fr_open 12 84 false rfl rfl rfl ?_
    refine fr_move (.int .i32 ((p : Nat) : Int)) h1 ?_
    by_cases hf37 : p = 36
    · refine fr_open 12 84 false rfl rfl rfl ?_
      refine fr_eq .i32 21 ((p : Nat) : Int) 36 true rfl rfl rfl (by exact eqT (by omega)) ?_
      refine fr_open 3 75 true rfl rfl rfl ?_
      refine fr_pick false (.bool true) rfl rfl ?_
      refine fr_pick true (.bool true) rfl rfl ?_
      refine fr_assign (.bool true) rfl ?_
      refine fr_end ?_
      refine to_then ?_
      refine fr_true rfl ?_
      refine fr_seq ?_
      refine fr_region ?_
      refine fr_move (.int .i32 ((p : Nat) : Int)) h1 ?_
      refine fr_rune p rfl ?_
      refine fr_addS ⟨#[92]⟩ (Utf8.encode ((p : Nat) : Int)) rfl rfl (by simp only [ByteArray.size_append, size1, size2, size3, size4]; omega) ?_
      refine fr_assign ((.string (⟨#[92]⟩ ++ (Utf8.encode ((p : Nat) : Int))))) rfl ?_
      refine fr_end ?_
      refine to_then ?_
      refine wp_ret ?_
      exact hk.out _ _ _ rfl (means_self (by omega)) (by first | omega | (simp only [ByteArray.size_append, size1, size2, size3]; omega)) (by first | omega | (simp only [ByteArray.size_append, size1, size2, size3]; omega)) (hO33.mono (by omega))
    refine fr_open 12 84 false rfl rfl rfl ?_
    refine fr_eq .i32 21 ((p : Nat) : Int) 36 false rfl rfl rfl (by exact eqF (by omega)) ?_
    refine fr_open 3 75 true rfl rfl rfl ?_
    refine fr_pick false (.bool false) rfl rfl ?_
    refine fr_pick true (.bool false) rfl rfl ?_
    refine fr_assign (.bool false) rfl ?_
    refine fr_end ?_
    refine to_then ?_
    refine fr_false rfl ?_
    exact one_10 (hO33.mono (by omega)) hl h0 h1 h2 hq hp hk
  refine fr_eq .i64 3 ((k30 : Nat) : Int) 0 false rfl rfl rfl (by exact eqF (by omega)) ?_
  refine fr_move (.bool false) rfl ?_
  refine fr_skip 3 75 true false rfl rfl rfl rfl ?_
  refine fr_skip 3 75 true false rfl rfl rfl rfl ?_
  refine fr_skip 3 75 true false rfl rfl rfl rfl ?_
  refine fr_skip 3 75 true false rfl rfl rfl rfl ?_
  refine fr_skip 3 75 true false rfl rfl rfl rfl ?_
  refine fr_skipU 8 80 false rfl rfl rfl ?_
  refine fr_skipU 8 80 false rfl rfl rfl ?_
  refine fr_skip 3 75 true false rfl rfl rfl rfl ?_
  refine fr_skip 3 75 true false rfl rfl rfl rfl ?_
  refine fr_skipU 12 84 false rfl rfl rfl ?_
  refine fr_skipU 12 84 false rfl rfl rfl ?_
  refine fr_skip 3 75 true false rfl rfl rfl rfl ?_
  refine fr_pick false (.bool false) rfl rfl ?_
  refine fr_assign (.bool false) rfl ?_
  refine fr_end ?_
  refine to_then ?_
  refine fr_false rfl ?_
  exact one_10 (hO33.mono (by omega)) hl h0 h1 h2 hq hp hk
set_option maxRecDepth 100000 in
theorem one_6 {w0 w : World} {f : Nat → Value} {C p q lim : Nat} {vN : Value} {Q : Exit → Act → World → Prop} (hO : OneAt w0 w C vN (lim + 2)) (hl : lim ≤ 1152921504606846976) (h0 : f 0 = .pointer (some ⟨C, 0, none⟩)) (h1 : f 1 = .int .i32 (p : Int)) (h2 : f 2 = .int .u8 (q : Int)) (hq : q = 34 ∨ q = 39) (hp : p ≤ 1114111) (hk : OneOut w0 C vN p q lim Q) :
    (sub B39 [1, 1, 1, 0, 0, 1, 1]).wp Tryd.prog Q (mk 119 f) w := by
  have hel := encode_le ((p : Nat) : Int)
  conv => arg 2; whnf
  refine fr_seq ?_
  refine fr_region ?_
  refine fr_move ((.pointer (some ⟨C, 0, none⟩))) h0 ?_
  refine fr_of 2 rfl rfl hO (by omega) (by omega) (by omega) _ ?_
  intro k38 w39 hk40 hO41 _
  by_cases hf42 : k38 = 0
  · refine fr_eq .i64 3 ((k38 : Nat) : Int) 0 true rfl rfl rfl (by exact eqT (by omega)) ?_
    refine fr_move (.bool true) rfl ?_
    refine fr_open 3 60 true rfl rfl rfl ?_
    refine fr_move (.int .i32 ((p : Nat) : Int)) h1 ?_
    by_cases hf43 : p ≤ 65535
    · refine fr_open 3 60 true rfl rfl rfl ?_
      refine fr_leq .i32 21 ((p : Nat) : Int) 65535 true rfl rfl rfl (by exact leT (by omega)) ?_
      refine fr_pick true (.bool true) rfl rfl ?_
      refine fr_assign (.bool true) rfl ?_
      refine fr_end ?_
      refine to_then ?_
      refine fr_true rfl ?_
      refine fr_seq ?_
      refine fr_region ?_
      refine fr_move (.int .i32 ((p : Nat) : Int)) h1 ?_
      refine fr_conv 21 3 .i32 .i64 _ ((p : Nat) : Int) rfl rfl rfl (by exact w64' rfl (by omega) (by omega)) ?_
      refine fr_move ((.pointer (some ⟨C, 0, none⟩))) h0 ?_
      refine fr_of 2 rfl rfl hO41 (by omega) (by omega) (by omega) _ ?_
      intro k44 w45 hk46 hO47 _
      refine fr_eq .i64 3 ((k44 : Nat) : Int) 0 (((k44 : Nat) : Int) == 0) rfl rfl rfl rfl ?_
      refine fr_hexw p 4 (4) (((k44 : Nat) : Int) == 0) rfl rfl rfl hO47 (by omega) (by omega) (by have h : (16 : Nat) ^ 4 = 65536 := rfl; omega) (by omega) (by omega) _ ?_
      intro t48 w49 ht48 ht48a ht48b ht48c hO50
      refine fr_addS ⟨#[92, 117]⟩ t48 rfl rfl (by simp only [ByteArray.size_append, size1, size2, size3, size4]; omega) ?_
      refine fr_assign ((.string (⟨#[92, 117]⟩ ++ t48))) rfl ?_
      refine fr_end ?_
      refine to_then ?_
      refine wp_ret ?_
      exact hk.out _ _ _ rfl (means_u ht48 (by omega)) (by first | omega | (simp only [ByteArray.size_append, size1, size2, size3]; omega)) (by first | omega | (simp only [ByteArray.size_append, size1, size2, size3]; omega)) (hO50.mono (by omega))
    refine fr_open 3 60 true rfl rfl rfl ?_
    refine fr_leq .i32 21 ((p : Nat) : Int) 65535 false rfl rfl rfl (by exact leF (by omega)) ?_
    refine fr_pick true (.bool false) rfl rfl ?_
    refine fr_assign (.bool false) rfl ?_
    refine fr_end ?_
    refine to_then ?_
    refine fr_false rfl ?_
    exact one_8 (hO41.mono (by omega)) hl h0 h1 h2 hq hp hk
  refine fr_eq .i64 3 ((k38 : Nat) : Int) 0 false rfl rfl rfl (by exact eqF (by omega)) ?_
  refine fr_move (.bool false) rfl ?_
  refine fr_skip 3 60 true false rfl rfl rfl rfl ?_
  refine fr_skip 3 60 true false rfl rfl rfl rfl ?_
  refine fr_pick false (.bool false) rfl rfl ?_
  refine fr_assign (.bool false) rfl ?_
  refine fr_end ?_
  refine to_then ?_
  refine fr_false rfl ?_
  exact one_8 (hO41.mono (by omega)) hl h0 h1 h2 hq hp hk
set_option maxRecDepth 100000 in
theorem one_4 {w0 w : World} {f : Nat → Value} {C p q lim : Nat} {vN : Value} {Q : Exit → Act → World → Prop} (hO : OneAt w0 w C vN (lim + 1)) (hl : lim ≤ 1152921504606846976) (h0 : f 0 = .pointer (some ⟨C, 0, none⟩)) (h1 : f 1 = .int .i32 (p : Int)) (h2 : f 2 = .int .u8 (q : Int)) (hq : q = 34 ∨ q = 39) (hp : p ≤ 1114111) (hk : OneOut w0 C vN p q lim Q) :
    (sub B39 [1, 1, 1, 0, 0]).wp Tryd.prog Q (mk 119 f) w := by
  have hel := encode_le ((p : Nat) : Int)
  conv => arg 2; whnf
  refine fr_seq ?_
  refine fr_region ?_
  refine fr_move ((.pointer (some ⟨C, 0, none⟩))) h0 ?_
  refine fr_of 3 rfl rfl hO (by omega) (by omega) (by omega) _ ?_
  intro k51 w52 hk53 hO54 _
  by_cases hf55 : k51 = 0
  · refine fr_eq .i64 3 ((k51 : Nat) : Int) 0 true rfl rfl rfl (by exact eqT (by omega)) ?_
    refine fr_move (.bool true) rfl ?_
    refine fr_open 3 45 true rfl rfl rfl ?_
    refine fr_move (.int .i32 ((p : Nat) : Int)) h1 ?_
    by_cases hf56 : p < 256
    · refine fr_open 3 45 true rfl rfl rfl ?_
      refine fr_lss .i32 21 ((p : Nat) : Int) 256 true rfl rfl rfl (by exact ltT (by omega)) ?_
      refine fr_pick true (.bool true) rfl rfl ?_
      refine fr_assign (.bool true) rfl ?_
      refine fr_end ?_
      refine to_then ?_
      refine fr_true rfl ?_
      refine fr_seq ?_
      refine fr_region ?_
      refine fr_move (.int .i32 ((p : Nat) : Int)) h1 ?_
      refine fr_conv 21 3 .i32 .i64 _ ((p : Nat) : Int) rfl rfl rfl (by exact w64' rfl (by omega) (by omega)) ?_
      refine fr_move ((.pointer (some ⟨C, 0, none⟩))) h0 ?_
      refine fr_of 2 rfl rfl hO54 (by omega) (by omega) (by omega) _ ?_
      intro k57 w58 hk59 hO60 _
      refine fr_eq .i64 3 ((k57 : Nat) : Int) 0 (((k57 : Nat) : Int) == 0) rfl rfl rfl rfl ?_
      refine fr_hexw p 2 (2) (((k57 : Nat) : Int) == 0) rfl rfl rfl hO60 (by omega) (by omega) (by have h : (16 : Nat) ^ 2 = 256 := rfl; omega) (by omega) (by omega) _ ?_
      intro t61 w62 ht61 ht61a ht61b ht61c hO63
      refine fr_addS ⟨#[92, 120]⟩ t61 rfl rfl (by simp only [ByteArray.size_append, size1, size2, size3, size4]; omega) ?_
      refine fr_assign ((.string (⟨#[92, 120]⟩ ++ t61))) rfl ?_
      refine fr_end ?_
      refine to_then ?_
      refine wp_ret ?_
      exact hk.out _ _ _ rfl (means_x ht61 (by omega)) (by first | omega | (simp only [ByteArray.size_append, size1, size2, size3]; omega)) (by first | omega | (simp only [ByteArray.size_append, size1, size2, size3]; omega)) (hO63.mono (by omega))
    refine fr_open 3 45 true rfl rfl rfl ?_
    refine fr_lss .i32 21 ((p : Nat) : Int) 256 false rfl rfl rfl (by exact ltF (by omega)) ?_
    refine fr_pick true (.bool false) rfl rfl ?_
    refine fr_assign (.bool false) rfl ?_
    refine fr_end ?_
    refine to_then ?_
    refine fr_false rfl ?_
    exact one_6 (hO54.mono (by omega)) hl h0 h1 h2 hq hp hk
  refine fr_eq .i64 3 ((k51 : Nat) : Int) 0 false rfl rfl rfl (by exact eqF (by omega)) ?_
  refine fr_move (.bool false) rfl ?_
  refine fr_skip 3 45 true false rfl rfl rfl rfl ?_
  refine fr_skip 3 45 true false rfl rfl rfl rfl ?_
  refine fr_pick false (.bool false) rfl rfl ?_
  refine fr_assign (.bool false) rfl ?_
  refine fr_end ?_
  refine to_then ?_
  refine fr_false rfl ?_
  exact one_6 (hO54.mono (by omega)) hl h0 h1 h2 hq hp hk
set_option maxRecDepth 100000 in
theorem one_2f {w0 w : World} {f : Nat → Value} {C p q lim : Nat} {vN : Value} {Q : Exit → Act → World → Prop} (hO : OneAt w0 w C vN (lim + 0)) (hl : lim ≤ 1152921504606846976) (h0 : f 0 = .pointer (some ⟨C, 0, none⟩)) (h1 : f 1 = .int .i32 (p : Int)) (h2 : f 2 = .int .u8 (q : Int)) (hq : q = 34 ∨ q = 39) (hp : p ≤ 1114111) (h7 : f 7 = .bool false) (hk : OneRet w0 C vN p q lim Q) (hg : Good p) (hg13 : p ≠ 13) (hg92 : p ≠ 92) :
    (sub B39 [1, 1]).wp Tryd.prog Q (mk 119 f) w := by
  have hel := encode_le ((p : Nat) : Int)
  have hep := encode_pos ((p : Nat) : Int)
  conv => arg 2; whnf
  refine fr_seq ?_
  refine fr_seq ?_
  refine fr_region ?_
  refine fr_move (.bool false) h7 ?_
  refine fr_not false 4 rfl ?_
  refine fr_move (.bool true) rfl ?_
  refine fr_open 2 34 true rfl rfl rfl ?_
  refine fr_move ((.pointer (some ⟨C, 0, none⟩))) h0 ?_
  refine fr_open 2 34 true rfl rfl rfl ?_
  refine fr_of 4 rfl rfl hO (by omega) (by omega) (by omega) _ ?_
  intro k64 w65 hk66 hO67 _
  by_cases hf68 : 0 < k64
  · refine fr_open 2 34 true rfl rfl rfl ?_
    refine fr_gtr .i64 3 ((k64 : Nat) : Int) 0 true rfl rfl rfl (by exact ltT (by omega)) ?_
    refine fr_pick true (.bool true) rfl rfl ?_
    refine fr_end ?_
    refine to_then ?_
    refine fr_true rfl ?_
    refine fr_seq ?_
    refine fr_region ?_
    refine fr_move (.int .i32 ((p : Nat) : Int)) h1 ?_
    refine fr_rune p rfl ?_
    refine fr_assign ((.string (Utf8.encode ((p : Nat) : Int)))) rfl ?_
    refine fr_end ?_
    refine to_then ?_
    refine wp_ret ?_
    refine to_thenR ?_
    exact hk.out _ _ _ rfl (means_plain hg hg13 hg92) (by first | omega | (simp only [ByteArray.size_append, size1, size2, size3]; omega)) (by first | omega | (simp only [ByteArray.size_append, size1, size2, size3]; omega)) (hO67.mono (by omega))
  refine fr_open 2 34 true rfl rfl rfl ?_
  refine fr_gtr .i64 3 ((k64 : Nat) : Int) 0 false rfl rfl rfl (by exact ltF (by omega)) ?_
  refine fr_pick true (.bool false) rfl rfl ?_
  refine fr_end ?_
  refine to_then ?_
  refine fr_false rfl ?_
  refine wp_skip ?_
  refine to_then ?_
  refine fr_seq ?_
  refine wp_block ?_
  refine one_4 (hO67.mono (by omega)) hl h0 h1 h2 hq hp ⟨?_, ?_⟩
  · intro g w9 t e1 e2 e3 e4 e5
    refine to_blockR ?_
    refine to_thenR ?_
    exact hk.out g w9 t e1 e2 e3 e4 e5
  · intro g w9 e0 e1 e2 e5
    refine to_blockN ?_
    refine to_then ?_
    exact one_tail e5 hl e0 e1 e2 hq hp hk
set_option maxRecDepth 100000 in
theorem one_2t {w0 w : World} {f : Nat → Value} {C p q lim : Nat} {vN : Value} {Q : Exit → Act → World → Prop} (hO : OneAt w0 w C vN (lim + 0)) (hl : lim ≤ 1152921504606846976) (h0 : f 0 = .pointer (some ⟨C, 0, none⟩)) (h1 : f 1 = .int .i32 (p : Int)) (h2 : f 2 = .int .u8 (q : Int)) (hq : q = 34 ∨ q = 39) (hp : p ≤ 1114111) (h7 : f 7 = .bool true) (hk : OneRet w0 C vN p q lim Q) :
    (sub B39 [1, 1]).wp Tryd.prog Q (mk 119 f) w := by
  have hel := encode_le ((p : Nat) : Int)
  conv => arg 2; whnf
  refine fr_seq ?_
  refine fr_seq ?_
  refine fr_region ?_
  refine fr_move (.bool true) h7 ?_
  refine fr_not true 4 rfl ?_
  refine fr_move (.bool false) rfl ?_
  refine fr_skip 2 34 true false rfl rfl rfl rfl ?_
  refine fr_skip 2 34 true false rfl rfl rfl rfl ?_
  refine fr_skip 2 34 true false rfl rfl rfl rfl ?_
  refine fr_pick false (.bool false) rfl rfl ?_
  refine fr_end ?_
  refine to_then ?_
  refine fr_false rfl ?_
  refine wp_skip ?_
  refine to_then ?_
  refine fr_seq ?_
  refine wp_block ?_
  refine one_4 (hO.mono (by omega)) hl h0 h1 h2 hq hp ⟨?_, ?_⟩
  · intro g w9 t e1 e2 e3 e4 e5
    refine to_blockR ?_
    refine to_thenR ?_
    exact hk.out g w9 t e1 e2 e3 e4 e5
  · intro g w9 e0 e1 e2 e5
    refine to_blockN ?_
    refine to_then ?_
    exact one_tail e5 hl e0 e1 e2 hq hp hk
theorem hard_ok {p q : Nat} (hp : p ≤ 1114111) (h : hardB p q = false) : Good p ∧ p ≠ 13 ∧ p ≠ 92 := by
  unfold hardB at h
  have h' := of_decide_eq_false h
  refine ⟨?_, ?_, fun e => h' (.inr (.inl e))⟩
  · unfold Good
    have : ¬ (55296 ≤ p ∧ p < 57344) := fun e => h' (.inr (.inr (.inr (.inr e))))
    omega
  · rintro rfl
    exact h' (.inr (.inr (.inr (.inl (by decide)))))
set_option maxRecDepth 100000 in
theorem one_body {w0 w : World} {f : Nat → Value} {C p q lim : Nat} {vN : Value} {Q : Exit → Act → World → Prop} (hO : OneAt w0 w C vN lim) (hl : lim ≤ 1152921504606846976) (h0 : f 0 = .pointer (some ⟨C, 0, none⟩)) (h1 : f 1 = .int .i32 (p : Int)) (h2 : f 2 = .int .u8 (q : Int)) (hq : q = 34 ∨ q = 39) (hp : p ≤ 1114111) (hk : OneRet w0 C vN p q lim Q) :
    B39.wp Tryd.prog Q (mk 119 f) w := by
  conv => arg 2; whnf
  refine fr_seq ?_
  refine fr_region ?_
  refine fr_assign ((.string ⟨#[]⟩)) rfl ?_
  refine fr_end ?_
  refine to_then ?_
  refine fr_seq ?_
  refine one_r1 h0 h1 h2 hq hp ?_
  intro g e0 e1 e2 e7
  refine to_then ?_
  cases hh : hardB p q with
  | true => rw [hh] at e7; exact one_2t (by exact hO) hl e0 e1 e2 hq hp e7 hk
  | false =>
    rw [hh] at e7
    obtain ⟨a1, a2, a3⟩ := hard_ok hp hh
    exact one_2f (by exact hO) hl e0 e1 e2 hq hp e7 hk a1 a2 a3
theorem fr_ret1 {n : Nat} {f : Nat → Value} {w : World} {fn : Func} {R : Ending → World → Prop} {i : Nat} (v : Value) (hr : fn.results = #[.tmp i]) (h : ev n f (.tmp i) = v) (h' : R (.returned v) w) : bodyPost Tryd.prog fn R .ret (mk n f) w := by
  refine bodyPost_ret (v := v) ?_ (by unfold mk; rfl) h'
  rw [results_tmp hr, mk_getD, h]
def OnePost (w0 : World) (C : Nat) (vN : Value) (p lim : Nat) (e : Ending) (w' : World) : Prop := ∃ t, e = .returned (.string t) ∧ Means t (unitsOf p) ∧ 1 ≤ t.size ∧ t.size ≤ 12 ∧ OneAt w0 w' C vN (lim + 12)
theorem one_any {w0 w : World} {C p q lim : Nat} {vN : Value} (hO : OneAt w0 w C vN lim) (hl : lim ≤ 1152921504606846976) (hq : q = 34 ∨ q = 39) (hp : p ≤ 1114111) :
    Calls Tryd.prog 39 #[.pointer (some ⟨C, 0, none⟩), .int .i32 (p : Int), .int .u8 (q : Int)] w (OnePost w0 C vN p lim) := by
  refine calls_of_wp (c := B39) Tryd.func39 rfl ?_
  rw [show Tryd.f39.ntmps = 119 from rfl, mk_enter 119 _ (by simp)]
  refine one_body (p := p) (q := q) hO hl rfl rfl rfl hq hp ⟨?_⟩
  · intro g w' t h6 hm h1 h12 hO'
    exact fr_ret1 (.string t) rfl h6 ⟨t, rfl, hm, h1, h12, hO'⟩
end Go.Proofs.YtolgapijpejpoaaDoor
