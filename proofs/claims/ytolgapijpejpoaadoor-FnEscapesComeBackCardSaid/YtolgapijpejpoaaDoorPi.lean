/- The walk of the reference's writer of units. Printed by gen_piece.py. -/
import Derived.Test.YtolgapijpejpoaaDoorOn
namespace Go.Proofs.YtolgapijpejpoaaDoor
open Go.RowKit Go.Lib
noncomputable def B31 : Code := (Tryd.f31.body).getD .skip
/-- Units that came in: a slice below the chooser. -/
structure UAt (w0 : World) (C b o cap : Nat) (xs : List Nat) : Prop where
  lt : b < C
  len : xs.length ≤ 65536
  cell : ∀ k, k < xs.length → w0.cell? ⟨b, o + k, none⟩ = some (.int .u16 (xs.getD k 0 : Nat))
theorem UAt.at {w0 w : World} {C b o cap lim k x : Nat} {xs : List Nat} {vN : Value} (h : UAt w0 C b o cap xs) (hO : OneAt w0 w C vN lim) (hk : k < xs.length) (hx : xs.getD k 0 = x) : w.cell? ⟨b, o + k, none⟩ = some (.int .u16 (x : Int)) := by
  have := h.cell k hk
  rw [hx] at this
  have hC := hO.hC
  have hlt := h.lt
  exact (World.cell?_of_block (hO.beside.block b (by omega) (by omega))).trans this
theorem fr_one {n : Nat} {f : Nat → Value} {w : World} {Q : Exit → Act → World → Prop} {ops : Array Oper} {rest : List Oper} {d : Nat} {pos : String} {ty : TypeId} {af : Array Edge} {x y z : Operand}
    {w0 : World} {C lim p q : Nat} {vN : Value} (hx : ev n f x = .pointer (some ⟨C, 0, none⟩)) (hy : ev n f y = .int .i32 (p : Int)) (hz : ev n f z = .int .u8 (q : Int)) (hO : OneAt w0 w C vN lim) (hl : lim ≤ 1152921504606846976) (hq : q = 34 ∨ q = 39) (hp : p ≤ 1114111) (ats : Array TypeId)
    (h : ∀ t w', Means t (unitsOf p) → 1 ≤ t.size → t.size ≤ 12 → OneAt w0 w' C vN (lim + 12) → wpList Tryd.prog ops Q rest (mk n (upd f d (.string t))) w') :
    wpList Tryd.prog ops Q (⟨some d, .call { callee := .value (.func 39), args := #[x, y, z], argTypes := ats }, ty, pos, af, none⟩ :: rest) (mk n f) w := by
  refine fr_callE 39 #[.pointer (some ⟨C, 0, none⟩), .int .i32 (p : Int), .int .u8 (q : Int)] ats #[x, y, z] (Φ := fun v w' => ∃ t, v = .string t ∧ Means t (unitsOf p) ∧ 1 ≤ t.size ∧ t.size ≤ 12 ∧ OneAt w0 w' C vN (lim + 12)) (by simp [hx, hy, hz]) ?_ (fun args w => by
    have h1 : ¬ Tryd.f39.name = "runtime.NumGoroutine" := by decide
    have h2 : ¬ Tryd.f39.body = none := by intro h; cases h
    simp [callFunc, go_sem, h1, h2]) ?_
  · refine (one_any hO hl hq hp).mono ?_
    rintro e w' ⟨t, rfl, h1, h2, h3, h4⟩
    exact ⟨_, rfl, t, rfl, h1, h2, h3, h4⟩
  · rintro v w' ⟨t, rfl, h1, h2, h3, h4⟩
    exact h t w' h1 h2 h3 h4
theorem take_one {xs : List Nat} {i x : Nat} (hi : i < xs.length) (hx : xs.getD i 0 = x) (h : x < 65536) : xs.take (i + 1) = xs.take i ++ unitsOf x := by
  rw [List.take_add_one, List.getElem?_eq_getElem hi]
  rw [List.getD_eq_getElem?_getD, List.getElem?_eq_getElem hi] at hx
  simp only [Option.getD_some] at hx
  rw [hx]
  unfold unitsOf
  rw [if_neg (by omega)]
  rfl
theorem take_two {xs : List Nat} {i x y : Nat} (hi : i < xs.length) (hx : xs.getD i 0 = x) (hi1 : i + 1 < xs.length) (hy : xs.getD (i + 1) 0 = y) (h0 : 55296 ≤ x) (h1 : x < 56320) (h2 : 56320 ≤ y) (h3 : y < 57344) :
    xs.take (i + 1 + 1) = xs.take i ++ unitsOf (65536 + (x - 55296) * 1024 + y - 56320) := by
  rw [List.take_add_one, List.take_add_one, List.getElem?_eq_getElem hi, List.getElem?_eq_getElem hi1]
  rw [List.getD_eq_getElem?_getD, List.getElem?_eq_getElem hi] at hx
  rw [List.getD_eq_getElem?_getD, List.getElem?_eq_getElem hi1] at hy
  simp only [Option.getD_some] at hx hy
  rw [hx, hy]
  unfold unitsOf
  rw [if_pos (by omega), show 55296 + (65536 + (x - 55296) * 1024 + y - 56320 - 65536) / 1024 = x by omega, show 56320 + (65536 + (x - 55296) * 1024 + y - 56320 - 65536) % 1024 = y by omega]
  simp
theorem means_cr3 {t : ByteArray} {a : List Nat} (h : Means t a) : Means (t ++ ⟨#[92, 13]⟩ ++ ⟨#[92, 10]⟩) (a ++ []) := by
  rw [ByteArray.append_assoc]
  exact h.append means_crbs
set_option maxRecDepth 100000 in
theorem piece_9 {w0 w : World} {f : Nat → Value} {C b o cap q lim i : Nat} {xs : List Nat} {t : ByteArray} {vN : Value} {Q : Exit → Act → World → Prop} {p j : Nat} (hO : OneAt w0 w C vN lim) (hl : lim ≤ 576460752303423490) (hu : UAt w0 C b o cap xs) (h0 : f 0 = .pointer (some ⟨C, 0, none⟩)) (h1 : f 1 = .slice (some ⟨b, o, none⟩) xs.length cap) (h2 : f 2 = .int .u8 (q : Int)) (h7 : f 7 = .string t) (hq : q = 34 ∨ q = 39) (h9 : f 9 = .int .i32 (p : Int)) (h8 : f 8 = .int .i64 (j : Int)) (hp : p ≤ 1114111) (ht : Means t (xs.take i)) (hts : t.size ≤ 1048576) (hun : xs.take (j + 1) = xs.take i ++ unitsOf p)
    (hk : ∀ g w' t2, g 0 = .pointer (some ⟨C, 0, none⟩) → g 1 = .slice (some ⟨b, o, none⟩) xs.length cap → g 2 = .int .u8 (q : Int) → g 7 = .string t2 → g 8 = .int .i64 (j : Int) → Means t2 (xs.take (j + 1)) → t2.size ≤ t.size + 16 → OneAt w0 w' C vN (lim + 15) → Q .normal (mk 99 g) w') :
    (sub B31 [1, 1, 0, 1, 0, 0, 1, 0, 0, 1, 1]).wp Tryd.prog Q (mk 99 f) w := by
  have hxl := hu.len
  have hml : 65536 ≤ maxLen := by decide
  conv => arg 2; whnf
  refine fr_seq ?_
  refine fr_region ?_
  refine fr_move ((.string t)) h7 ?_
  refine fr_move ((.pointer (some ⟨C, 0, none⟩))) h0 ?_
  refine fr_move (.int .i32 ((p : Nat) : Int)) h9 ?_
  refine fr_move (.int .u8 ((q : Nat) : Int)) h2 ?_
  refine fr_one (p := p) rfl rfl rfl hO (by omega) hq (by omega) _ ?_
  intro t1 w1 hm1 hz1 hz2 hO1
  refine fr_addS t t1 rfl rfl (by first | omega | (simp only [ByteArray.size_append, size1, size2, size3, size4]; omega)) ?_
  refine fr_assign ((.string (t ++ t1))) rfl ?_
  refine fr_end ?_
  refine to_then ?_
  refine fr_seq ?_
  refine fr_region ?_
  refine fr_move ((.pointer (some ⟨C, 0, none⟩))) h0 ?_
  refine fr_of 20 rfl rfl hO1 (by omega) (by omega) (by omega) _ ?_
  intro k1 w2 hk3 hO4 _
  by_cases hf5 : k1 = 19
  · refine fr_eq .i64 3 ((k1 : Nat) : Int) 19 true rfl rfl rfl (by exact eqT (by omega)) ?_
    refine fr_end ?_
    refine to_then ?_
    refine fr_true rfl ?_
    refine fr_seq ?_
    refine fr_region ?_
    refine fr_move ((.string (t ++ t1))) rfl ?_
    refine fr_build4S (⟨#[92, 10]⟩) (⟨#[92, 13, 10]⟩) (⟨#[92, 226, 128, 168]⟩) (⟨#[92, 13]⟩) _ rfl ?_
    have hOa := hO4.below ((Below.refl _ w2).alloc (Nat.le_refl _) (.cells #[.string ⟨#[92, 10]⟩, .string ⟨#[92, 13, 10]⟩, .string ⟨#[92, 226, 128, 168]⟩, .string ⟨#[92, 13]⟩] 9))
    refine fr_move ((.pointer (some ⟨C, 0, none⟩))) h0 ?_
    refine fr_of 4 rfl rfl hOa (by omega) (by omega) (by omega) _ ?_
    intro kc wc hkc hOc hbc
    have hnew : wc.heap[w2.heap.size]? = some (.cells #[.string ⟨#[92, 10]⟩, .string ⟨#[92, 13, 10]⟩, .string ⟨#[92, 226, 128, 168]⟩, .string ⟨#[92, 13]⟩] 9 (0, 0)) := by
      have hCb := hOa.hC
      have hbb := hO4.base
      rw [hbc.block _ (by simp) (by omega)]
      exact heap_alloc_new _ _
    obtain rfl | rfl | rfl | rfl : kc = 0 ∨ kc = 1 ∨ kc = 2 ∨ kc = 3 := by omega
    · refine fr_idxS w2.heap.size 4 4 (0) rfl rfl (by omega) (by decide) ?_
      refine fr_loadS _ (⟨#[92, 10]⟩ : ByteArray) rfl ((cells_of_block2 hnew 0).1) ?_
      refine fr_addS (t ++ t1) (⟨#[92, 10]⟩ : ByteArray) rfl rfl (by first | omega | (simp only [ByteArray.size_append, size1, size2, size3, size4]; omega)) ?_
      refine fr_assign ((.string ((t ++ t1) ++ (⟨#[92, 10]⟩ : ByteArray)))) rfl ?_
      refine fr_end ?_
      refine to_then ?_
      refine fr_seq ?_
      have hz3 : ((((t ++ t1) ++ (⟨#[92, 10]⟩ : ByteArray))) : ByteArray).size = t.size + t1.size + 2 := by simp only [ByteArray.size_append, size1, size2, size3, size4]
      refine fr_region ?_
      refine fr_move ((.string ((t ++ t1) ++ (⟨#[92, 10]⟩ : ByteArray)))) rfl ?_
      refine fr_len ((t ++ t1) ++ (⟨#[92, 10]⟩ : ByteArray)) rfl (by unfold maxLen; omega) ?_
      refine fr_gtr .i64 3 ((((t ++ t1) ++ (⟨#[92, 10]⟩ : ByteArray)).size : Nat) : Int) 2 true rfl rfl rfl (by exact ltT (by omega)) ?_
      refine fr_move (.bool true) rfl ?_
      refine fr_open 3 88 true rfl rfl rfl ?_
      refine fr_move ((.string ((t ++ t1) ++ (⟨#[92, 10]⟩ : ByteArray)))) rfl ?_
      refine fr_open 3 88 true rfl rfl rfl ?_
      refine fr_move ((.string ((t ++ t1) ++ (⟨#[92, 10]⟩ : ByteArray)))) rfl ?_
      refine fr_open 3 88 true rfl rfl rfl ?_
      refine fr_len ((t ++ t1) ++ (⟨#[92, 10]⟩ : ByteArray)) rfl (by unfold maxLen; omega) ?_
      refine fr_open 3 88 true rfl rfl rfl ?_
      refine fr_sub .i64 3 ((((t ++ t1) ++ (⟨#[92, 10]⟩ : ByteArray)).size : Nat) : Int) 1 ((t.size + t1.size + 1 : Nat) : Int) rfl rfl rfl (by exact w64' (by omega) (by omega) (by omega)) ?_
      refine fr_open 3 88 true rfl rfl rfl ?_
      refine fr_index ((t ++ t1) ++ (⟨#[92, 10]⟩ : ByteArray)) _ (t.size + t1.size + 1) rfl rfl rfl (by omega) (by unfold maxLen; omega) ?_
      refine fr_open 3 88 true rfl rfl rfl ?_
      refine fr_eq .u8 5 ((bt (((t ++ t1) ++ (⟨#[92, 10]⟩ : ByteArray))) (t.size + t1.size + 1) : Nat) : Int) 13 false rfl rfl rfl (by exact (by
        have hlast : bt (((t ++ t1) ++ (⟨#[92, 10]⟩ : ByteArray))) (t.size + t1.size + 1) = 10 := by
          have h := bt_append_right (t1 := t ++ t1) (t2 := (⟨#[92, 10]⟩ : ByteArray)) (k := 1) (by decide)
          rw [ByteArray.size_append] at h
          exact h.trans (by decide)
        rw [hlast]; rfl)) ?_
      refine fr_pick true (.bool false) rfl rfl ?_
      refine fr_end ?_
      refine to_then ?_
      refine fr_false rfl ?_
      refine wp_skip ?_
      exact hk _ _ _ h0 h1 h2 rfl h8 (by rw [hun, ← List.append_nil (xs.take i ++ unitsOf p)]; exact ((ht.append hm1).append means_line)) (by simp only [ByteArray.size_append, size1, size2, size3, size4]; omega) (hOc.mono (by omega))
    · refine fr_idxS w2.heap.size 4 4 (1) rfl rfl (by omega) (by decide) ?_
      refine fr_loadS _ (⟨#[92, 13, 10]⟩ : ByteArray) rfl ((cells_of_block2 hnew 1).1) ?_
      refine fr_addS (t ++ t1) (⟨#[92, 13, 10]⟩ : ByteArray) rfl rfl (by first | omega | (simp only [ByteArray.size_append, size1, size2, size3, size4]; omega)) ?_
      refine fr_assign ((.string ((t ++ t1) ++ (⟨#[92, 13, 10]⟩ : ByteArray)))) rfl ?_
      refine fr_end ?_
      refine to_then ?_
      refine fr_seq ?_
      have hz3 : ((((t ++ t1) ++ (⟨#[92, 13, 10]⟩ : ByteArray))) : ByteArray).size = t.size + t1.size + 3 := by simp only [ByteArray.size_append, size1, size2, size3, size4]
      refine fr_region ?_
      refine fr_move ((.string ((t ++ t1) ++ (⟨#[92, 13, 10]⟩ : ByteArray)))) rfl ?_
      refine fr_len ((t ++ t1) ++ (⟨#[92, 13, 10]⟩ : ByteArray)) rfl (by unfold maxLen; omega) ?_
      refine fr_gtr .i64 3 ((((t ++ t1) ++ (⟨#[92, 13, 10]⟩ : ByteArray)).size : Nat) : Int) 2 true rfl rfl rfl (by exact ltT (by omega)) ?_
      refine fr_move (.bool true) rfl ?_
      refine fr_open 3 88 true rfl rfl rfl ?_
      refine fr_move ((.string ((t ++ t1) ++ (⟨#[92, 13, 10]⟩ : ByteArray)))) rfl ?_
      refine fr_open 3 88 true rfl rfl rfl ?_
      refine fr_move ((.string ((t ++ t1) ++ (⟨#[92, 13, 10]⟩ : ByteArray)))) rfl ?_
      refine fr_open 3 88 true rfl rfl rfl ?_
      refine fr_len ((t ++ t1) ++ (⟨#[92, 13, 10]⟩ : ByteArray)) rfl (by unfold maxLen; omega) ?_
      refine fr_open 3 88 true rfl rfl rfl ?_
      refine fr_sub .i64 3 ((((t ++ t1) ++ (⟨#[92, 13, 10]⟩ : ByteArray)).size : Nat) : Int) 1 ((t.size + t1.size + 2 : Nat) : Int) rfl rfl rfl (by exact w64' (by omega) (by omega) (by omega)) ?_
      refine fr_open 3 88 true rfl rfl rfl ?_
      refine fr_index ((t ++ t1) ++ (⟨#[92, 13, 10]⟩ : ByteArray)) _ (t.size + t1.size + 2) rfl rfl rfl (by omega) (by unfold maxLen; omega) ?_
      refine fr_open 3 88 true rfl rfl rfl ?_
      refine fr_eq .u8 5 ((bt (((t ++ t1) ++ (⟨#[92, 13, 10]⟩ : ByteArray))) (t.size + t1.size + 2) : Nat) : Int) 13 false rfl rfl rfl (by exact (by
        have hlast : bt (((t ++ t1) ++ (⟨#[92, 13, 10]⟩ : ByteArray))) (t.size + t1.size + 2) = 10 := by
          have h := bt_append_right (t1 := t ++ t1) (t2 := (⟨#[92, 13, 10]⟩ : ByteArray)) (k := 2) (by decide)
          rw [ByteArray.size_append] at h
          exact h.trans (by decide)
        rw [hlast]; rfl)) ?_
      refine fr_pick true (.bool false) rfl rfl ?_
      refine fr_end ?_
      refine to_then ?_
      refine fr_false rfl ?_
      refine wp_skip ?_
      exact hk _ _ _ h0 h1 h2 rfl h8 (by rw [hun, ← List.append_nil (xs.take i ++ unitsOf p)]; exact ((ht.append hm1).append means_crlf)) (by simp only [ByteArray.size_append, size1, size2, size3, size4]; omega) (hOc.mono (by omega))
    · refine fr_idxS w2.heap.size 4 4 (2) rfl rfl (by omega) (by decide) ?_
      refine fr_loadS _ (⟨#[92, 226, 128, 168]⟩ : ByteArray) rfl ((cells_of_block2 hnew 2).1) ?_
      refine fr_addS (t ++ t1) (⟨#[92, 226, 128, 168]⟩ : ByteArray) rfl rfl (by first | omega | (simp only [ByteArray.size_append, size1, size2, size3, size4]; omega)) ?_
      refine fr_assign ((.string ((t ++ t1) ++ (⟨#[92, 226, 128, 168]⟩ : ByteArray)))) rfl ?_
      refine fr_end ?_
      refine to_then ?_
      refine fr_seq ?_
      have hz3 : ((((t ++ t1) ++ (⟨#[92, 226, 128, 168]⟩ : ByteArray))) : ByteArray).size = t.size + t1.size + 4 := by simp only [ByteArray.size_append, size1, size2, size3, size4]
      refine fr_region ?_
      refine fr_move ((.string ((t ++ t1) ++ (⟨#[92, 226, 128, 168]⟩ : ByteArray)))) rfl ?_
      refine fr_len ((t ++ t1) ++ (⟨#[92, 226, 128, 168]⟩ : ByteArray)) rfl (by unfold maxLen; omega) ?_
      refine fr_gtr .i64 3 ((((t ++ t1) ++ (⟨#[92, 226, 128, 168]⟩ : ByteArray)).size : Nat) : Int) 2 true rfl rfl rfl (by exact ltT (by omega)) ?_
      refine fr_move (.bool true) rfl ?_
      refine fr_open 3 88 true rfl rfl rfl ?_
      refine fr_move ((.string ((t ++ t1) ++ (⟨#[92, 226, 128, 168]⟩ : ByteArray)))) rfl ?_
      refine fr_open 3 88 true rfl rfl rfl ?_
      refine fr_move ((.string ((t ++ t1) ++ (⟨#[92, 226, 128, 168]⟩ : ByteArray)))) rfl ?_
      refine fr_open 3 88 true rfl rfl rfl ?_
      refine fr_len ((t ++ t1) ++ (⟨#[92, 226, 128, 168]⟩ : ByteArray)) rfl (by unfold maxLen; omega) ?_
      refine fr_open 3 88 true rfl rfl rfl ?_
      refine fr_sub .i64 3 ((((t ++ t1) ++ (⟨#[92, 226, 128, 168]⟩ : ByteArray)).size : Nat) : Int) 1 ((t.size + t1.size + 3 : Nat) : Int) rfl rfl rfl (by exact w64' (by omega) (by omega) (by omega)) ?_
      refine fr_open 3 88 true rfl rfl rfl ?_
      refine fr_index ((t ++ t1) ++ (⟨#[92, 226, 128, 168]⟩ : ByteArray)) _ (t.size + t1.size + 3) rfl rfl rfl (by omega) (by unfold maxLen; omega) ?_
      refine fr_open 3 88 true rfl rfl rfl ?_
      refine fr_eq .u8 5 ((bt (((t ++ t1) ++ (⟨#[92, 226, 128, 168]⟩ : ByteArray))) (t.size + t1.size + 3) : Nat) : Int) 13 false rfl rfl rfl (by exact (by
        have hlast : bt (((t ++ t1) ++ (⟨#[92, 226, 128, 168]⟩ : ByteArray))) (t.size + t1.size + 3) = 168 := by
          have h := bt_append_right (t1 := t ++ t1) (t2 := (⟨#[92, 226, 128, 168]⟩ : ByteArray)) (k := 3) (by decide)
          rw [ByteArray.size_append] at h
          exact h.trans (by decide)
        rw [hlast]; rfl)) ?_
      refine fr_pick true (.bool false) rfl rfl ?_
      refine fr_end ?_
      refine to_then ?_
      refine fr_false rfl ?_
      refine wp_skip ?_
      exact hk _ _ _ h0 h1 h2 rfl h8 (by rw [hun, ← List.append_nil (xs.take i ++ unitsOf p)]; exact ((ht.append hm1).append means_ls)) (by simp only [ByteArray.size_append, size1, size2, size3, size4]; omega) (hOc.mono (by omega))
    · refine fr_idxS w2.heap.size 4 4 (3) rfl rfl (by omega) (by decide) ?_
      refine fr_loadS _ (⟨#[92, 13]⟩ : ByteArray) rfl ((cells_of_block2 hnew 3).1) ?_
      refine fr_addS (t ++ t1) (⟨#[92, 13]⟩ : ByteArray) rfl rfl (by first | omega | (simp only [ByteArray.size_append, size1, size2, size3, size4]; omega)) ?_
      refine fr_assign ((.string ((t ++ t1) ++ (⟨#[92, 13]⟩ : ByteArray)))) rfl ?_
      refine fr_end ?_
      refine to_then ?_
      refine fr_seq ?_
      have hz3 : ((((t ++ t1) ++ (⟨#[92, 13]⟩ : ByteArray))) : ByteArray).size = t.size + t1.size + 2 := by simp only [ByteArray.size_append, size1, size2, size3, size4]
      refine fr_region ?_
      refine fr_move ((.string ((t ++ t1) ++ (⟨#[92, 13]⟩ : ByteArray)))) rfl ?_
      refine fr_len ((t ++ t1) ++ (⟨#[92, 13]⟩ : ByteArray)) rfl (by unfold maxLen; omega) ?_
      refine fr_gtr .i64 3 ((((t ++ t1) ++ (⟨#[92, 13]⟩ : ByteArray)).size : Nat) : Int) 2 true rfl rfl rfl (by exact ltT (by omega)) ?_
      refine fr_move (.bool true) rfl ?_
      refine fr_open 3 88 true rfl rfl rfl ?_
      refine fr_move ((.string ((t ++ t1) ++ (⟨#[92, 13]⟩ : ByteArray)))) rfl ?_
      refine fr_open 3 88 true rfl rfl rfl ?_
      refine fr_move ((.string ((t ++ t1) ++ (⟨#[92, 13]⟩ : ByteArray)))) rfl ?_
      refine fr_open 3 88 true rfl rfl rfl ?_
      refine fr_len ((t ++ t1) ++ (⟨#[92, 13]⟩ : ByteArray)) rfl (by unfold maxLen; omega) ?_
      refine fr_open 3 88 true rfl rfl rfl ?_
      refine fr_sub .i64 3 ((((t ++ t1) ++ (⟨#[92, 13]⟩ : ByteArray)).size : Nat) : Int) 1 ((t.size + t1.size + 1 : Nat) : Int) rfl rfl rfl (by exact w64' (by omega) (by omega) (by omega)) ?_
      refine fr_open 3 88 true rfl rfl rfl ?_
      refine fr_index ((t ++ t1) ++ (⟨#[92, 13]⟩ : ByteArray)) _ (t.size + t1.size + 1) rfl rfl rfl (by omega) (by unfold maxLen; omega) ?_
      refine fr_open 3 88 true rfl rfl rfl ?_
      refine fr_eq .u8 5 ((bt (((t ++ t1) ++ (⟨#[92, 13]⟩ : ByteArray))) (t.size + t1.size + 1) : Nat) : Int) 13 true rfl rfl rfl (by exact (by
        have hlast : bt (((t ++ t1) ++ (⟨#[92, 13]⟩ : ByteArray))) (t.size + t1.size + 1) = 13 := by
          have h := bt_append_right (t1 := t ++ t1) (t2 := (⟨#[92, 13]⟩ : ByteArray)) (k := 1) (by decide)
          rw [ByteArray.size_append] at h
          exact h.trans (by decide)
        rw [hlast]; rfl)) ?_
      refine fr_pick true (.bool true) rfl rfl ?_
      refine fr_end ?_
      refine to_then ?_
      refine fr_true rfl ?_
      refine fr_region ?_
      refine fr_move ((.string ((t ++ t1) ++ (⟨#[92, 13]⟩ : ByteArray)))) rfl ?_
      refine fr_addS ((t ++ t1) ++ (⟨#[92, 13]⟩ : ByteArray)) ⟨#[92, 10]⟩ rfl rfl (by first | omega | (simp only [ByteArray.size_append, size1, size2, size3, size4]; omega)) ?_
      refine fr_assign ((.string (((t ++ t1) ++ (⟨#[92, 13]⟩ : ByteArray)) ++ ⟨#[92, 10]⟩))) rfl ?_
      refine fr_end ?_
      exact hk _ _ _ h0 h1 h2 rfl h8 (by rw [hun, ← List.append_nil (xs.take i ++ unitsOf p)]; exact means_cr3 (ht.append hm1)) (by simp only [ByteArray.size_append, size1, size2, size3, size4]; omega) (hOc.mono (by omega))
  refine fr_eq .i64 3 ((k1 : Nat) : Int) 19 false rfl rfl rfl (by exact eqF (by omega)) ?_
  refine fr_end ?_
  refine to_then ?_
  refine fr_false rfl ?_
  refine wp_skip ?_
  exact hk _ _ (t ++ t1) h0 h1 h2 rfl h8 (by rw [hun]; exact ht.append hm1) (by rw [ByteArray.size_append]; omega) (hO4.mono (by omega))
set_option maxRecDepth 100000 in
theorem piece_5 {w0 w : World} {f : Nat → Value} {C b o cap q lim i : Nat} {xs : List Nat} {t : ByteArray} {vN : Value} {Q : Exit → Act → World → Prop} (hO : OneAt w0 w C vN lim) (hl : lim ≤ 576460752303423488) (hu : UAt w0 C b o cap xs) (h0 : f 0 = .pointer (some ⟨C, 0, none⟩)) (h1 : f 1 = .slice (some ⟨b, o, none⟩) xs.length cap) (h2 : f 2 = .int .u8 (q : Int)) (h7 : f 7 = .string t) (hq : q = 34 ∨ q = 39) (h8 : f 8 = .int .i64 (i : Int)) (hi : i < xs.length) (hxs : ∀ x ∈ xs, x < 65536) (ht : Means t (xs.take i)) (hts : t.size ≤ 1048576)
    (hk : ∀ g w' t2 j, g 0 = .pointer (some ⟨C, 0, none⟩) → g 1 = .slice (some ⟨b, o, none⟩) xs.length cap → g 2 = .int .u8 (q : Int) → g 7 = .string t2 → g 8 = .int .i64 (j : Nat) → Means t2 (xs.take (j + 1)) → t2.size ≤ t.size + 16 → OneAt w0 w' C vN (lim + 16) → i ≤ j → j < xs.length → Q .normal (mk 99 g) w') :
    (sub B31 [1, 1, 0, 1, 0, 0, 1, 0, 0]).wp Tryd.prog Q (mk 99 f) w := by
  have hxl := hu.len
  have hml : 65536 ≤ maxLen := by decide
  obtain ⟨x, hx⟩ : ∃ x, xs.getD i 0 = x := ⟨_, rfl⟩
  obtain ⟨y, hy⟩ : ∃ y, xs.getD (i + 1) 0 = y := ⟨_, rfl⟩
  have hx6 : x < 65536 := by rw [← hx, List.getD_eq_getElem?_getD, List.getElem?_eq_getElem hi]; exact hxs _ (List.getElem_mem _)
  have hy6 : y < 65536 := by
    rw [← hy, List.getD_eq_getElem?_getD]
    cases h : xs[i + 1]? with
    | none => decide
    | some z => exact hxs _ (List.mem_of_getElem? h)
  conv => arg 2; whnf
  refine fr_seq ?_
  refine fr_region ?_
  refine fr_move ((.slice (some ⟨b, o, none⟩) xs.length cap)) h1 ?_
  refine fr_move (.int .i64 ((i : Nat) : Int)) h8 ?_
  refine fr_idxU b o xs.length cap (i) rfl rfl (by omega) (by omega) ?_
  refine fr_loadU _ x rfl (hu.at hO hi hx) ?_
  refine fr_conv 41 21 .u16 .i32 _ ((x : Nat) : Int) rfl rfl rfl (by exact w32' rfl (by omega) (by omega)) ?_
  refine fr_assign (.int .i32 ((x : Nat) : Int)) rfl ?_
  refine fr_end ?_
  refine to_then ?_
  refine fr_seq ?_
  refine fr_seq ?_
  refine fr_region ?_
  refine fr_move (.int .i32 ((x : Nat) : Int)) rfl ?_
  by_cases hf6 : 55296 ≤ x
  · refine fr_geq .i32 21 ((x : Nat) : Int) 55296 true rfl rfl rfl (by exact leT (by omega)) ?_
    refine fr_move (.bool true) rfl ?_
    refine fr_open 2 23 true rfl rfl rfl ?_
    refine fr_move (.int .i32 ((x : Nat) : Int)) rfl ?_
    by_cases hf7 : x < 56320
    · refine fr_open 2 23 true rfl rfl rfl ?_
      refine fr_lss .i32 21 ((x : Nat) : Int) 56320 true rfl rfl rfl (by exact ltT (by omega)) ?_
      refine fr_pick true (.bool true) rfl rfl ?_
      refine fr_move (.bool true) rfl ?_
      refine fr_open 6 27 true rfl rfl rfl ?_
      refine fr_move (.int .i64 ((i : Nat) : Int)) h8 ?_
      refine fr_open 6 27 true rfl rfl rfl ?_
      refine fr_add .i64 3 ((i : Nat) : Int) 1 ((i + 1 : Nat) : Int) rfl rfl rfl (by exact w64' (by omega) (by omega) (by omega)) ?_
      refine fr_open 6 27 true rfl rfl rfl ?_
      refine fr_move ((.slice (some ⟨b, o, none⟩) xs.length cap)) h1 ?_
      refine fr_open 6 27 true rfl rfl rfl ?_
      refine fr_lenU _ _ _ rfl ?_ (by omega)
      by_cases hf8 : i + 1 < xs.length
      · refine fr_open 6 27 true rfl rfl rfl ?_
        refine fr_lss .i64 3 ((i + 1 : Nat) : Int) ((xs.length : Nat) : Int) true rfl rfl rfl (by exact ltT (by omega)) ?_
        refine fr_pick true (.bool true) rfl rfl ?_
        refine fr_move (.bool true) rfl ?_
        refine fr_open 13 34 true rfl rfl rfl ?_
        refine fr_move ((.slice (some ⟨b, o, none⟩) xs.length cap)) h1 ?_
        refine fr_open 13 34 true rfl rfl rfl ?_
        refine fr_move (.int .i64 ((i : Nat) : Int)) h8 ?_
        refine fr_open 13 34 true rfl rfl rfl ?_
        refine fr_add .i64 3 ((i : Nat) : Int) 1 ((i + 1 : Nat) : Int) rfl rfl rfl (by exact w64' (by omega) (by omega) (by omega)) ?_
        refine fr_open 13 34 true rfl rfl rfl ?_
        refine fr_idxU b o xs.length cap (i + 1) rfl rfl (by omega) (by omega) ?_
        refine fr_open 13 34 true rfl rfl rfl ?_
        refine fr_loadU _ y rfl (hu.at hO (by omega) hy) ?_
        by_cases hf9 : 56320 ≤ y
        · refine fr_open 13 34 true rfl rfl rfl ?_
          refine fr_geq .u16 41 ((y : Nat) : Int) 56320 true rfl rfl rfl (by exact leT (by omega)) ?_
          refine fr_pick true (.bool true) rfl rfl ?_
          refine fr_move (.bool true) rfl ?_
          refine fr_open 21 42 true rfl rfl rfl ?_
          refine fr_move ((.slice (some ⟨b, o, none⟩) xs.length cap)) h1 ?_
          refine fr_open 21 42 true rfl rfl rfl ?_
          refine fr_move (.int .i64 ((i : Nat) : Int)) h8 ?_
          refine fr_open 21 42 true rfl rfl rfl ?_
          refine fr_add .i64 3 ((i : Nat) : Int) 1 ((i + 1 : Nat) : Int) rfl rfl rfl (by exact w64' (by omega) (by omega) (by omega)) ?_
          refine fr_open 21 42 true rfl rfl rfl ?_
          refine fr_idxU b o xs.length cap (i + 1) rfl rfl (by omega) (by omega) ?_
          refine fr_open 21 42 true rfl rfl rfl ?_
          refine fr_loadU _ y rfl (hu.at hO (by omega) hy) ?_
          by_cases hf10 : y < 57344
          · refine fr_open 21 42 true rfl rfl rfl ?_
            refine fr_lss .u16 41 ((y : Nat) : Int) 57344 true rfl rfl rfl (by exact ltT (by omega)) ?_
            refine fr_pick true (.bool true) rfl rfl ?_
            refine fr_move (.bool true) rfl ?_
            refine fr_open 29 50 true rfl rfl rfl ?_
            refine fr_move ((.pointer (some ⟨C, 0, none⟩))) h0 ?_
            refine fr_open 29 50 true rfl rfl rfl ?_
            refine fr_of 4 rfl rfl hO (by omega) (by omega) (by omega) _ ?_
            intro k11 w12 hk13 hO14 _
            by_cases hf15 : 0 < k11
            · refine fr_open 29 50 true rfl rfl rfl ?_
              refine fr_gtr .i64 3 ((k11 : Nat) : Int) 0 true rfl rfl rfl (by exact ltT (by omega)) ?_
              refine fr_pick true (.bool true) rfl rfl ?_
              refine fr_end ?_
              refine to_then ?_
              refine fr_true rfl ?_
              refine fr_seq ?_
              refine fr_region ?_
              refine fr_move (.int .i32 ((x : Nat) : Int)) rfl ?_
              refine fr_sub .i32 21 ((x : Nat) : Int) 55296 ((x - 55296 : Nat) : Int) rfl rfl rfl (by exact w32' (by omega) (by omega) (by omega)) ?_
              refine fr_shl10 21 53 ((x - 55296 : Nat) : Int) (((x - 55296) * 1024 : Nat) : Int) rfl rfl rfl rfl (by exact w32' (by omega) (by omega) (by omega)) ?_
              refine fr_add .i32 21 65536 (((x - 55296) * 1024 : Nat) : Int) ((65536 + (x - 55296) * 1024 : Nat) : Int) rfl rfl rfl (by exact w32' (by omega) (by omega) (by omega)) ?_
              refine fr_move ((.slice (some ⟨b, o, none⟩) xs.length cap)) h1 ?_
              refine fr_move (.int .i64 ((i : Nat) : Int)) h8 ?_
              refine fr_add .i64 3 ((i : Nat) : Int) 1 ((i + 1 : Nat) : Int) rfl rfl rfl (by exact w64' (by omega) (by omega) (by omega)) ?_
              refine fr_idxU b o xs.length cap (i + 1) rfl rfl (by omega) (by omega) ?_
              refine fr_loadU _ y rfl (hu.at hO14 (by omega) hy) ?_
              refine fr_conv 41 21 .u16 .i32 _ ((y : Nat) : Int) rfl rfl rfl (by exact w32' rfl (by omega) (by omega)) ?_
              refine fr_add .i32 21 ((65536 + (x - 55296) * 1024 : Nat) : Int) ((y : Nat) : Int) ((65536 + (x - 55296) * 1024 + y : Nat) : Int) rfl rfl rfl (by exact w32' (by omega) (by omega) (by omega)) ?_
              refine fr_sub .i32 21 ((65536 + (x - 55296) * 1024 + y : Nat) : Int) 56320 ((65536 + (x - 55296) * 1024 + y - 56320 : Nat) : Int) rfl rfl rfl (by exact w32' (by omega) (by omega) (by omega)) ?_
              refine fr_assign (.int .i32 ((65536 + (x - 55296) * 1024 + y - 56320 : Nat) : Int)) rfl ?_
              refine fr_end ?_
              refine to_then ?_
              refine fr_region ?_
              refine fr_move (.int .i64 ((i : Nat) : Int)) h8 ?_
              refine fr_add .i64 3 ((i : Nat) : Int) 1 ((i + 1 : Nat) : Int) rfl rfl rfl (by exact w64' (by omega) (by omega) (by omega)) ?_
              refine fr_assign (.int .i64 ((i + 1 : Nat) : Int)) rfl ?_
              refine fr_end ?_
              refine to_then ?_
              exact piece_9 (p := 65536 + (x - 55296) * 1024 + y - 56320) (j := i + 1) (hO14.mono (Nat.le_refl _)) (by omega) hu h0 h1 h2 h7 hq rfl rfl (by omega) ht hts (take_two hi hx (by omega) hy (by omega) (by omega) (by omega) (by omega)) (fun g w' t2 a0 a1 a2 a3 a4 a5 a6 a7 => hk g w' t2 (i + 1) a0 a1 a2 a3 a4 a5 a6 (a7.mono (by omega)) (by omega) (by omega))
            refine fr_open 29 50 true rfl rfl rfl ?_
            refine fr_gtr .i64 3 ((k11 : Nat) : Int) 0 false rfl rfl rfl (by exact ltF (by omega)) ?_
            refine fr_pick true (.bool false) rfl rfl ?_
            refine fr_end ?_
            refine to_then ?_
            refine fr_false rfl ?_
            refine wp_skip ?_
            refine to_then ?_
            exact piece_9 (p := x) (j := i) (hO14.mono (Nat.le_refl _)) (by omega) hu h0 h1 h2 h7 hq rfl h8 (by omega) ht hts (take_one hi hx (by omega)) (fun g w' t2 a0 a1 a2 a3 a4 a5 a6 a7 => hk g w' t2 i a0 a1 a2 a3 a4 a5 a6 (a7.mono (by omega)) (by omega) (by omega))
          refine fr_open 21 42 true rfl rfl rfl ?_
          refine fr_lss .u16 41 ((y : Nat) : Int) 57344 false rfl rfl rfl (by exact ltF (by omega)) ?_
          refine fr_pick true (.bool false) rfl rfl ?_
          refine fr_move (.bool false) rfl ?_
          refine fr_skip 29 50 true false rfl rfl rfl rfl ?_
          refine fr_skip 29 50 true false rfl rfl rfl rfl ?_
          refine fr_skip 29 50 true false rfl rfl rfl rfl ?_
          refine fr_pick false (.bool false) rfl rfl ?_
          refine fr_end ?_
          refine to_then ?_
          refine fr_false rfl ?_
          refine wp_skip ?_
          refine to_then ?_
          exact piece_9 (p := x) (j := i) (hO.mono (Nat.le_refl _)) (by omega) hu h0 h1 h2 h7 hq rfl h8 (by omega) ht hts (take_one hi hx (by omega)) (fun g w' t2 a0 a1 a2 a3 a4 a5 a6 a7 => hk g w' t2 i a0 a1 a2 a3 a4 a5 a6 (a7.mono (by omega)) (by omega) (by omega))
        refine fr_open 13 34 true rfl rfl rfl ?_
        refine fr_geq .u16 41 ((y : Nat) : Int) 56320 false rfl rfl rfl (by exact leF (by omega)) ?_
        refine fr_pick true (.bool false) rfl rfl ?_
        refine fr_move (.bool false) rfl ?_
        refine fr_skip 21 42 true false rfl rfl rfl rfl ?_
        refine fr_skip 21 42 true false rfl rfl rfl rfl ?_
        refine fr_skip 21 42 true false rfl rfl rfl rfl ?_
        refine fr_skip 21 42 true false rfl rfl rfl rfl ?_
        refine fr_skip 21 42 true false rfl rfl rfl rfl ?_
        refine fr_skip 21 42 true false rfl rfl rfl rfl ?_
        refine fr_pick false (.bool false) rfl rfl ?_
        refine fr_move (.bool false) rfl ?_
        refine fr_skip 29 50 true false rfl rfl rfl rfl ?_
        refine fr_skip 29 50 true false rfl rfl rfl rfl ?_
        refine fr_skip 29 50 true false rfl rfl rfl rfl ?_
        refine fr_pick false (.bool false) rfl rfl ?_
        refine fr_end ?_
        refine to_then ?_
        refine fr_false rfl ?_
        refine wp_skip ?_
        refine to_then ?_
        exact piece_9 (p := x) (j := i) (hO.mono (Nat.le_refl _)) (by omega) hu h0 h1 h2 h7 hq rfl h8 (by omega) ht hts (take_one hi hx (by omega)) (fun g w' t2 a0 a1 a2 a3 a4 a5 a6 a7 => hk g w' t2 i a0 a1 a2 a3 a4 a5 a6 (a7.mono (by omega)) (by omega) (by omega))
      refine fr_open 6 27 true rfl rfl rfl ?_
      refine fr_lss .i64 3 ((i + 1 : Nat) : Int) ((xs.length : Nat) : Int) false rfl rfl rfl (by exact ltF (by omega)) ?_
      refine fr_pick true (.bool false) rfl rfl ?_
      refine fr_move (.bool false) rfl ?_
      refine fr_skip 13 34 true false rfl rfl rfl rfl ?_
      refine fr_skip 13 34 true false rfl rfl rfl rfl ?_
      refine fr_skip 13 34 true false rfl rfl rfl rfl ?_
      refine fr_skip 13 34 true false rfl rfl rfl rfl ?_
      refine fr_skip 13 34 true false rfl rfl rfl rfl ?_
      refine fr_skip 13 34 true false rfl rfl rfl rfl ?_
      refine fr_pick false (.bool false) rfl rfl ?_
      refine fr_move (.bool false) rfl ?_
      refine fr_skip 21 42 true false rfl rfl rfl rfl ?_
      refine fr_skip 21 42 true false rfl rfl rfl rfl ?_
      refine fr_skip 21 42 true false rfl rfl rfl rfl ?_
      refine fr_skip 21 42 true false rfl rfl rfl rfl ?_
      refine fr_skip 21 42 true false rfl rfl rfl rfl ?_
      refine fr_skip 21 42 true false rfl rfl rfl rfl ?_
      refine fr_pick false (.bool false) rfl rfl ?_
      refine fr_move (.bool false) rfl ?_
      refine fr_skip 29 50 true false rfl rfl rfl rfl ?_
      refine fr_skip 29 50 true false rfl rfl rfl rfl ?_
      refine fr_skip 29 50 true false rfl rfl rfl rfl ?_
      refine fr_pick false (.bool false) rfl rfl ?_
      refine fr_end ?_
      refine to_then ?_
      refine fr_false rfl ?_
      refine wp_skip ?_
      refine to_then ?_
      exact piece_9 (p := x) (j := i) (hO.mono (Nat.le_refl _)) (by omega) hu h0 h1 h2 h7 hq rfl h8 (by omega) ht hts (take_one hi hx (by omega)) (fun g w' t2 a0 a1 a2 a3 a4 a5 a6 a7 => hk g w' t2 i a0 a1 a2 a3 a4 a5 a6 (a7.mono (by omega)) (by omega) (by omega))
    refine fr_open 2 23 true rfl rfl rfl ?_
    refine fr_lss .i32 21 ((x : Nat) : Int) 56320 false rfl rfl rfl (by exact ltF (by omega)) ?_
    refine fr_pick true (.bool false) rfl rfl ?_
    refine fr_move (.bool false) rfl ?_
    refine fr_skip 6 27 true false rfl rfl rfl rfl ?_
    refine fr_skip 6 27 true false rfl rfl rfl rfl ?_
    refine fr_skip 6 27 true false rfl rfl rfl rfl ?_
    refine fr_skip 6 27 true false rfl rfl rfl rfl ?_
    refine fr_skip 6 27 true false rfl rfl rfl rfl ?_
    refine fr_pick false (.bool false) rfl rfl ?_
    refine fr_move (.bool false) rfl ?_
    refine fr_skip 13 34 true false rfl rfl rfl rfl ?_
    refine fr_skip 13 34 true false rfl rfl rfl rfl ?_
    refine fr_skip 13 34 true false rfl rfl rfl rfl ?_
    refine fr_skip 13 34 true false rfl rfl rfl rfl ?_
    refine fr_skip 13 34 true false rfl rfl rfl rfl ?_
    refine fr_skip 13 34 true false rfl rfl rfl rfl ?_
    refine fr_pick false (.bool false) rfl rfl ?_
    refine fr_move (.bool false) rfl ?_
    refine fr_skip 21 42 true false rfl rfl rfl rfl ?_
    refine fr_skip 21 42 true false rfl rfl rfl rfl ?_
    refine fr_skip 21 42 true false rfl rfl rfl rfl ?_
    refine fr_skip 21 42 true false rfl rfl rfl rfl ?_
    refine fr_skip 21 42 true false rfl rfl rfl rfl ?_
    refine fr_skip 21 42 true false rfl rfl rfl rfl ?_
    refine fr_pick false (.bool false) rfl rfl ?_
    refine fr_move (.bool false) rfl ?_
    refine fr_skip 29 50 true false rfl rfl rfl rfl ?_
    refine fr_skip 29 50 true false rfl rfl rfl rfl ?_
    refine fr_skip 29 50 true false rfl rfl rfl rfl ?_
    refine fr_pick false (.bool false) rfl rfl ?_
    refine fr_end ?_
    refine to_then ?_
    refine fr_false rfl ?_
    refine wp_skip ?_
    refine to_then ?_
    exact piece_9 (p := x) (j := i) (hO.mono (Nat.le_refl _)) (by omega) hu h0 h1 h2 h7 hq rfl h8 (by omega) ht hts (take_one hi hx (by omega)) (fun g w' t2 a0 a1 a2 a3 a4 a5 a6 a7 => hk g w' t2 i a0 a1 a2 a3 a4 a5 a6 (a7.mono (by omega)) (by omega) (by omega))
  refine fr_geq .i32 21 ((x : Nat) : Int) 55296 false rfl rfl rfl (by exact leF (by omega)) ?_
  refine fr_move (.bool false) rfl ?_
  refine fr_skip 2 23 true false rfl rfl rfl rfl ?_
  refine fr_skip 2 23 true false rfl rfl rfl rfl ?_
  refine fr_pick false (.bool false) rfl rfl ?_
  refine fr_move (.bool false) rfl ?_
  refine fr_skip 6 27 true false rfl rfl rfl rfl ?_
  refine fr_skip 6 27 true false rfl rfl rfl rfl ?_
  refine fr_skip 6 27 true false rfl rfl rfl rfl ?_
  refine fr_skip 6 27 true false rfl rfl rfl rfl ?_
  refine fr_skip 6 27 true false rfl rfl rfl rfl ?_
  refine fr_pick false (.bool false) rfl rfl ?_
  refine fr_move (.bool false) rfl ?_
  refine fr_skip 13 34 true false rfl rfl rfl rfl ?_
  refine fr_skip 13 34 true false rfl rfl rfl rfl ?_
  refine fr_skip 13 34 true false rfl rfl rfl rfl ?_
  refine fr_skip 13 34 true false rfl rfl rfl rfl ?_
  refine fr_skip 13 34 true false rfl rfl rfl rfl ?_
  refine fr_skip 13 34 true false rfl rfl rfl rfl ?_
  refine fr_pick false (.bool false) rfl rfl ?_
  refine fr_move (.bool false) rfl ?_
  refine fr_skip 21 42 true false rfl rfl rfl rfl ?_
  refine fr_skip 21 42 true false rfl rfl rfl rfl ?_
  refine fr_skip 21 42 true false rfl rfl rfl rfl ?_
  refine fr_skip 21 42 true false rfl rfl rfl rfl ?_
  refine fr_skip 21 42 true false rfl rfl rfl rfl ?_
  refine fr_skip 21 42 true false rfl rfl rfl rfl ?_
  refine fr_pick false (.bool false) rfl rfl ?_
  refine fr_move (.bool false) rfl ?_
  refine fr_skip 29 50 true false rfl rfl rfl rfl ?_
  refine fr_skip 29 50 true false rfl rfl rfl rfl ?_
  refine fr_skip 29 50 true false rfl rfl rfl rfl ?_
  refine fr_pick false (.bool false) rfl rfl ?_
  refine fr_end ?_
  refine to_then ?_
  refine fr_false rfl ?_
  refine wp_skip ?_
  refine to_then ?_
  exact piece_9 (p := x) (j := i) (hO.mono (Nat.le_refl _)) (by omega) hu h0 h1 h2 h7 hq rfl h8 (by omega) ht hts (take_one hi hx (by omega)) (fun g w' t2 a0 a1 a2 a3 a4 a5 a6 a7 => hk g w' t2 i a0 a1 a2 a3 a4 a5 a6 (a7.mono (by omega)) (by omega) (by omega))
set_option maxRecDepth 100000 in
theorem piece_round {w0 w : World} {f : Nat → Value} {C b o cap q lim i : Nat} {xs : List Nat} {t : ByteArray} {vN : Value} {Q : Exit → Act → World → Prop} (hO : OneAt w0 w C vN lim) (hl : lim ≤ 576460752303423488) (hu : UAt w0 C b o cap xs) (h0 : f 0 = .pointer (some ⟨C, 0, none⟩)) (h1 : f 1 = .slice (some ⟨b, o, none⟩) xs.length cap) (h2 : f 2 = .int .u8 (q : Int)) (h7 : f 7 = .string t) (hq : q = 34 ∨ q = 39) (h8 : f 8 = .int .i64 (i : Int)) (hi : i < xs.length) (hxs : ∀ x ∈ xs, x < 65536) (ht : Means t (xs.take i)) (hts : t.size ≤ 1048576)
    (hnext : ∀ g w' t2 j, g 0 = .pointer (some ⟨C, 0, none⟩) → g 1 = .slice (some ⟨b, o, none⟩) xs.length cap → g 2 = .int .u8 (q : Int) → g 7 = .string t2 → g 8 = .int .i64 (j + 1 : Nat) → Means t2 (xs.take (j + 1)) → t2.size ≤ t.size + 16 → OneAt w0 w' C vN (lim + 16) → i ≤ j → j < xs.length → Q .normal (mk 99 g) w') :
    (sub B31 [1, 1, 0, 1, 0, 0]).wp Tryd.prog Q (mk 99 f) w := by
  have hxl := hu.len
  have hml : 65536 ≤ maxLen := by decide
  conv => arg 2; whnf
  refine fr_seq ?_
  refine fr_seq ?_
  refine fr_region ?_
  refine fr_move (.int .i64 ((i : Nat) : Int)) h8 ?_
  refine fr_move ((.slice (some ⟨b, o, none⟩) xs.length cap)) h1 ?_
  refine fr_lenU _ _ _ rfl ?_ (by omega)
  refine fr_lss .i64 3 ((i : Nat) : Int) ((xs.length : Nat) : Int) true rfl rfl rfl (by exact ltT (by omega)) ?_
  refine fr_end ?_
  refine to_then ?_
  refine fr_true rfl ?_
  refine wp_skip ?_
  refine to_then ?_
  refine fr_seq ?_
  refine wp_block ?_
  refine piece_5 (i := i) (t := t) hO (by omega) hu h0 h1 h2 h7 hq h8 hi hxs ht (by omega) ?_
  intro g w9 t2 j e0 e1 e2 e7 e8 hm hsz hO2 hij hj
  refine to_blockN ?_
  refine to_then ?_
  refine fr_region ?_
  refine fr_move (.int .i64 ((j : Nat) : Int)) e8 ?_
  refine fr_add .i64 3 ((j : Nat) : Int) 1 ((j + 1 : Nat) : Int) rfl rfl rfl (by exact w64' (by omega) (by omega) (by omega)) ?_
  refine fr_assign (.int .i64 ((j + 1 : Nat) : Int)) rfl ?_
  refine fr_end ?_
  exact hnext _ _ t2 j e0 e1 e2 e7 rfl hm hsz hO2 hij hj
set_option maxRecDepth 100000 in
theorem piece_last {w : World} {f : Nat → Value} {C q i m cap : Nat} {p : Option Addr} {t : ByteArray} {Q : Exit → Act → World → Prop} (h0 : f 0 = .pointer (some ⟨C, 0, none⟩)) (h1 : f 1 = .slice p m cap) (h2 : f 2 = .int .u8 (q : Int)) (h7 : f 7 = .string t) (h8 : f 8 = .int .i64 (i : Int)) (hi : ¬ i < m) (hm : m ≤ 65536)
    (hdone : ∀ g, g 0 = .pointer (some ⟨C, 0, none⟩) → g 1 = .slice p m cap → g 2 = .int .u8 (q : Int) → g 7 = .string t → Q (.exit 0) (mk 99 g) w) :
    (sub B31 [1, 1, 0, 1, 0, 0]).wp Tryd.prog Q (mk 99 f) w := by
  have hml : 65536 ≤ maxLen := by decide
  conv => arg 2; whnf
  refine fr_seq ?_
  refine fr_seq ?_
  refine fr_region ?_
  refine fr_move (.int .i64 ((i : Nat) : Int)) h8 ?_
  refine fr_move ((.slice p m cap)) h1 ?_
  refine fr_lenU _ _ _ rfl ?_ (by omega)
  refine fr_lss .i64 3 ((i : Nat) : Int) ((m : Nat) : Int) false rfl rfl rfl (by exact ltF (by omega)) ?_
  refine fr_end ?_
  refine to_then ?_
  refine fr_false rfl ?_
  refine wp_exit ?_
  refine to_thenX ?_
  exact hdone _ h0 h1 h2 h7
set_option maxRecDepth 100000 in
theorem piece_loop {w0 w : World} {f : Nat → Value} {C b o cap q lim : Nat} {xs : List Nat} {vN : Value} {Q : Exit → Act → World → Prop} (hO : OneAt w0 w C vN lim) (hl : lim ≤ 288230376151711744) (hu : UAt w0 C b o cap xs) (h0 : f 0 = .pointer (some ⟨C, 0, none⟩)) (h1 : f 1 = .slice (some ⟨b, o, none⟩) xs.length cap) (h2 : f 2 = .int .u8 (q : Int)) (h7 : f 7 = .string ⟨#[]⟩) (h8 : f 8 = .int .i64 ((0 : Nat) : Int)) (hq : q = 34 ∨ q = 39) (hxs : ∀ x ∈ xs, x < 65536)
    (hk : ∀ g w' t, g 0 = .pointer (some ⟨C, 0, none⟩) → g 7 = .string t → Means t xs → t.size ≤ 1048576 → OneAt w0 w' C vN (lim + 1048576) → Q (.exit 0) (mk 99 g) w') :
    (sub B31 [1, 1, 0, 1, 0]).wp Tryd.prog Q (mk 99 f) w := by
  have hxl := hu.len
  have hml : 65536 ≤ maxLen := by decide
  conv => arg 2; whnf
  refine fr_loop 8 xs.length rfl (fun f w => ∃ (i : Nat) (t : ByteArray), OneAt w0 w C vN (lim + 16 * i) ∧ f 0 = .pointer (some ⟨C, 0, none⟩) ∧ f 1 = .slice (some ⟨b, o, none⟩) xs.length cap ∧ f 2 = .int .u8 (q : Int) ∧ f 7 = .string t ∧ f 8 = .int .i64 (i : Int) ∧ i ≤ xs.length ∧ Means t (xs.take i) ∧ t.size ≤ 16 * i) ⟨0, ⟨#[]⟩, by exact hO, h0, h1, h2, h7, h8, by omega, by rw [List.take_zero]; exact Means.nil, by exact Nat.le_refl 0⟩ ?_
  clear hO h0 h1 h2 h7 h8 f w
  rintro f w ⟨i, t, hO, h0, h1, h2, h7, h8, hi, ht, hts⟩
  have hsum : num (f 8) = i := by rw [h8, num_int]
  by_cases hlt : i < xs.length
  · refine piece_round (lim := lim + 16 * i) hO (by omega) hu h0 h1 h2 h7 hq h8 hlt hxs ht (by omega) ?_
    intro g w' t2 j e0 e1 e2 e7 e8 hm hsz hO2 hij hj
    refine to_then ⟨g, rfl, ⟨j + 1, t2, hO2.mono (by omega), e0, e1, e2, e7, e8, by omega, hm, by omega⟩, ?_⟩
    rw [hsum, e8, num_int]
    omega
  · refine piece_last h0 h1 h2 h7 h8 hlt (by omega) (fun g e0 e1 e2 e7 => to_thenX (hk g w t e0 e7 ?_ (by omega) (hO.mono (by omega))))
    have : xs.take i = xs := List.take_of_length_le (by omega)
    rw [← this]; exact ht
set_option maxRecDepth 100000 in
theorem piece_body {w0 w : World} {f : Nat → Value} {C b o cap q lim : Nat} {xs : List Nat} {vN : Value} {Q : Exit → Act → World → Prop} (hO : OneAt w0 w C vN lim) (hl : lim ≤ 288230376151711744) (hu : UAt w0 C b o cap xs) (h0 : f 0 = .pointer (some ⟨C, 0, none⟩)) (h1 : f 1 = (.slice (some ⟨b, o, none⟩) xs.length cap)) (h2 : f 2 = .int .u8 (q : Int)) (hq : q = 34 ∨ q = 39) (hxs : ∀ x ∈ xs, x < 65536)
    (hk : ∀ g w' t, g 6 = .string t → Means t xs → t.size ≤ 1048576 → OneAt w0 w' C vN (lim + 1048576) → Q .ret (mk 99 g) w') :
    B31.wp Tryd.prog Q (mk 99 f) w := by
  conv => arg 2; whnf
  refine fr_seq ?_
  refine fr_region ?_
  refine fr_assign ((.string ⟨#[]⟩)) rfl ?_
  refine fr_end ?_
  refine to_then ?_
  refine fr_seq ?_
  refine fr_region ?_
  refine fr_assign ((.string ⟨#[]⟩)) rfl ?_
  refine fr_end ?_
  refine to_then ?_
  refine fr_seq ?_
  refine fr_seq ?_
  refine fr_region ?_
  refine fr_assign (.int .i64 0) rfl ?_
  refine fr_end ?_
  refine to_then ?_
  refine wp_block ?_
  refine piece_loop hO hl hu h0 h1 h2 rfl rfl hq hxs ?_
  intro g w9 t9 e0 e7 hm hsz hO9
  refine to_blockX ?_
  refine to_then ?_
  refine fr_seq ?_
  refine fr_region ?_
  refine fr_move ((.string t9)) e7 ?_
  refine fr_assign ((.string t9)) rfl ?_
  refine fr_end ?_
  refine to_then ?_
  refine wp_ret ?_
  exact hk _ w9 t9 rfl hm hsz hO9
set_option maxRecDepth 100000 in
theorem piece_nil {w0 w : World} {f : Nat → Value} {C cz q lim : Nat} {pz : Option Addr} {xs : List Nat} {vN : Value} {Q : Exit → Act → World → Prop} (hO : OneAt w0 w C vN lim) (hl : lim ≤ 288230376151711744) (hx0 : xs = []) (h0 : f 0 = .pointer (some ⟨C, 0, none⟩)) (h1 : f 1 = (.slice pz 0 cz)) (h2 : f 2 = .int .u8 (q : Int)) (hq : q = 34 ∨ q = 39) (hxs : ∀ x ∈ xs, x < 65536)
    (hk : ∀ g w' t, g 6 = .string t → Means t xs → t.size ≤ 1048576 → OneAt w0 w' C vN (lim + 1048576) → Q .ret (mk 99 g) w') :
    B31.wp Tryd.prog Q (mk 99 f) w := by
  conv => arg 2; whnf
  refine fr_seq ?_
  refine fr_region ?_
  refine fr_assign ((.string ⟨#[]⟩)) rfl ?_
  refine fr_end ?_
  refine to_then ?_
  refine fr_seq ?_
  refine fr_region ?_
  refine fr_assign ((.string ⟨#[]⟩)) rfl ?_
  refine fr_end ?_
  refine to_then ?_
  refine fr_seq ?_
  refine fr_seq ?_
  refine fr_region ?_
  refine fr_assign (.int .i64 0) rfl ?_
  refine fr_end ?_
  refine to_then ?_
  refine wp_block ?_
  refine fr_loop 8 0 rfl (fun f w' => w' = w ∧ f 0 = .pointer (some ⟨C, 0, none⟩) ∧ f 1 = .slice pz 0 cz ∧ f 2 = .int .u8 (q : Int) ∧ f 7 = .string ⟨#[]⟩ ∧ f 8 = .int .i64 ((0 : Nat) : Int)) ⟨rfl, h0, h1, h2, rfl, rfl⟩ ?_
  clear h0 h1 h2
  rintro f w9 ⟨rfl, h0, h1, h2, h7, h8⟩
  refine piece_last h0 h1 h2 h7 h8 (by omega) (by omega) ?_
  intro g e0 _ _ e7
  refine to_thenX ?_
  obtain ⟨t9, ht9⟩ : ∃ t9 : ByteArray, t9 = ⟨#[]⟩ := ⟨_, rfl⟩
  rw [← ht9] at e7
  have hm : Means t9 xs := by rw [ht9, hx0]; exact Means.nil
  have hsz : t9.size ≤ 1048576 := by rw [ht9]; exact Nat.zero_le _
  have hO9 := hO.mono (Nat.le_add_right lim 1048576)
  refine to_blockX ?_
  refine to_then ?_
  refine fr_seq ?_
  refine fr_region ?_
  refine fr_move ((.string t9)) e7 ?_
  refine fr_assign ((.string t9)) rfl ?_
  refine fr_end ?_
  refine to_then ?_
  refine wp_ret ?_
  exact hk _ w9 t9 rfl hm hsz hO9
theorem piece_any {w0 w : World} {C q lim : Nat} {vu : Value} {xs : List Nat} {vN : Value} (hO : OneAt w0 w C vN lim) (hl : lim ≤ 288230376151711744) (hu : ((∃ p cap, vu = .slice p 0 cap) ∧ xs = []) ∨ ∃ b o cap, vu = .slice (some ⟨b, o, none⟩) xs.length cap ∧ UAt w0 C b o cap xs) (hq : q = 34 ∨ q = 39) (hxs : ∀ x ∈ xs, x < 65536) :
    Calls Tryd.prog 31 #[.pointer (some ⟨C, 0, none⟩), vu, .int .u8 (q : Int)] w fun e w' => ∃ t, e = .returned (.string t) ∧ Means t xs ∧ t.size ≤ 1048576 ∧ OneAt w0 w' C vN (lim + 1048576) := by
  refine calls_of_wp (c := B31) Tryd.func31 rfl ?_
  rw [show Tryd.f31.ntmps = 99 from rfl, mk_enter 99 _ (by simp)]
  have fin : ∀ g w' t, g 6 = .string t → Means t xs → t.size ≤ 1048576 → OneAt w0 w' C vN (lim + 1048576) → bodyPost Tryd.prog Tryd.f31 (fun e w' => ∃ t, e = .returned (.string t) ∧ Means t xs ∧ t.size ≤ 1048576 ∧ OneAt w0 w' C vN (lim + 1048576)) .ret (mk 99 g) w' :=
    fun g w' t h6 hm hsz hO' => fr_ret1 (.string t) rfl h6 ⟨t, rfl, hm, hsz, hO'⟩
  rcases hu with ⟨⟨p0, cap0, rfl⟩, hx0⟩ | ⟨b, o, cap, rfl, hu⟩
  · exact piece_nil hO hl hx0 rfl rfl rfl hq hxs fin
  · exact piece_body hO hl hu rfl rfl rfl hq hxs fin
end Go.Proofs.YtolgapijpejpoaaDoor
