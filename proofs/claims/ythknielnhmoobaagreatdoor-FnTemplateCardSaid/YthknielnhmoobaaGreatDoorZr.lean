/- The reference's next token, at any text. -/
import Derived.Test.YthknielnhmoobaaGreatDoorZq
import Derived.Deep.CutBlock
namespace Go.Proofs.YthknielnhmoobaaGreatDoor
open Go.RowKit Go.Lib

theorem Lists.drewN {w : World} {B wb wo wn sb so sn : Nat} {ws ss : List ByteArray} (h : Lists B w wb wo wn ws sb so sn ss) (n : Nat) : Lists B (w.drewN n) wb wo wn ws sb so sn ss :=
  h.beside ((Beside.refl B B w).drewN n) (Nat.le_refl _) (Nat.le_refl _)
theorem ahead_gen {L : Nat} {s : ByteArray} {i : Nat} {nl : Bool} {out opn : Value} {w : World} (n : Int) (hn : n = 1 ∨ n = 2) (h : LxAt w L s i nl out opn) (hi : i ≤ s.size) (hs : s.size ≤ 1048576) :
    Calls Tryz.prog 20 #[.pointer (some ⟨L, 0, none⟩), .int .i64 n] w fun e w' => ∃ b : Nat, e = .returned (.int .u8 (b : Int)) ∧ ∃ q, w' = w.drewN q := by
  rcases hn with rfl | rfl
  · refine (ahead_any L s i 1 (i + 1) 1 rfl rfl nl out opn w h (by omega) (by omega)).mono ?_
    rintro e w' ⟨rfl, q, rfl⟩
    exact ⟨_, rfl, q, rfl⟩
  · refine (ahead_any L s i 2 (i + 2) 2 rfl rfl nl out opn w h (by omega) (by omega)).mono ?_
    rintro e w' ⟨rfl, q, rfl⟩
    exact ⟨_, rfl, q, rfl⟩
theorem quotedI (L : Nat) (s : ByteArray) (i : Nat) (q : Int) (nl : Bool) (out opn : Value) (w : World) (h : LxAt w L s i nl out opn) (hi : i < s.size) (hs : s.size ≤ 1048576) (hT : Tabs L w) (hq : q = 34 ∨ q = 39) :
    Calls Tryz.prog 25 #[.pointer (some ⟨L, 0, none⟩), .int .u8 q] w (TokP w L s nl out opn i) := by
  rcases hq with rfl | rfl
  · exact quotedT_any L s i 34 nl out opn w h hi hs hT (by decide)
  · exact quotedT_any L s i 39 nl out opn w h hi hs hT (by decide)
/-- Where a sign is not found the loop over the signs goes on. -/
theorem TokO.bad {w w' : World} {L ob i : Nat} {s : ByteArray} {nl : Bool} {out opn : Value} {k a b : Int} {t : ByteArray} {p : Option Addr} {n c f : Nat} {x y : Bool} {v : Int} (hb : Beside w.heap.size L w w') (hv : v ≠ 1) :
    TokO w L s nl out opn ob i (.returned (.tuple #[tokV k a b t (.slice p n c) f x y, .int .i64 v])) (tok8 w' w.heap.size (.int .i64 k) (.int .i64 a) (.int .i64 b) (.string t) (.slice p n c) (.float .f64 f) (.bool x) (.bool y)) :=
  ⟨v, ⟨_, _, _, _, _, _, _, _, _, _, rfl⟩, fun h => absurd h hv, Keeps.of_beside (Beside.tok8 hb (Nat.le_refl _)) (.inl rfl)⟩
/-- A sign's token comes back. -/
theorem tok_sign {w W : World} {L ob i j : Nat} {s : ByteArray} {nl : Bool} {out opn : Value} {xs : List Int} {k a b : Int} {t : ByteArray} {p : Option Addr} {n c f : Nat} {x y : Bool} (lx : LxAt W L s j nl out opn) (hk : Keeps (Topn L opn) w W)
    (hT : TokAt W w.heap.size 0 0 0 ⟨#[]⟩ (.slice none 0 0) 0 false false) (hO : IRow W ob opn xs) (hij : i < j) (hj : j ≤ s.size) (hL : L < w.heap.size) :
    TokO w L s nl out opn ob i (.returned (.tuple #[tokV k a b t (.slice p n c) f x y, .int .i64 1])) (tok8 W w.heap.size (.int .i64 k) (.int .i64 a) (.int .i64 b) (.string t) (.slice p n c) (.float .f64 f) (.bool x) (.bool y)) :=
  ⟨1, ⟨_, _, _, _, _, _, _, _, _, _, rfl⟩, fun _ => ⟨j, opn, xs, hij, hj, lx.tok8 (by omega), owns_tok8 hO hT (by decide), fun hl => by rw [hO.lenOf] at hl; omega⟩, hk.tok8 (Nat.le_refl _)⟩
theorem Mid.keeps {w W : World} {L i : Nat} {s : ByteArray} {nl : Bool} {out opn : Value} (h : Mid w L s nl out opn w.heap.size i W) : Keeps (Topn L opn) w W := Keeps.of_beside h.bs (.inl rfl)
theorem Keeps.set {T : Nat → Prop} {w w' : World} (h : Keeps T w w') (g o : Nat) (v : Value) (hg : T g) : Keeps T w (w'.setCell ⟨g, o, none⟩ v) := by
  have hz : (w'.setCell ⟨g, o, none⟩ v).heap.size = w'.heap.size := by simp [World.setCell]
  exact ⟨h.os, h.tape, h.output, by rw [hz]; exact h.size, fun k hk ht => (Below.heap_setCell _ _ _ _ (fun e => ht (by rw [show k = g from e]; exact hg))).trans (h.block k hk ht)⟩
/-- A sign's token comes back behind a turn of the innermost count. -/
theorem tok_count {w W : World} {L ob i j g m cap : Nat} {s : ByteArray} {nl : Bool} {out : Value} {xs : List Int} {k a b : Int} {t : ByteArray} {p : Option Addr} {n c f : Nat} {x y : Bool} (q : Int) (M : Mid w L s nl out (.slice (some ⟨g, 0, none⟩) (m + 1) cap) w.heap.size j W)
    (hO : IRow W ob (.slice (some ⟨g, 0, none⟩) (m + 1) cap) xs) (hm : xs.length = m + 1) (hij : i < j) (hj : j ≤ s.size) (hL : L < w.heap.size) (hob : L < ob) :
    TokAt (W.setCell ⟨g, m, none⟩ (.int .i64 q)) w.heap.size 0 0 0 ⟨#[]⟩ (.slice none 0 0) 0 false false ∧
    TokO w L s nl out (.slice (some ⟨g, 0, none⟩) (m + 1) cap) ob i (.returned (.tuple #[tokV k a b t (.slice p n c) f x y, .int .i64 1])) (tok8 (W.setCell ⟨g, m, none⟩ (.int .i64 q)) w.heap.size (.int .i64 k) (.int .i64 a) (.int .i64 b) (.string t) (.slice p n c) (.float .f64 f) (.bool x) (.bool y)) := by
  have hgL : L ≠ g := by have := (hO.lt g rfl).1; omega
  have hgB : w.heap.size ≠ g := fun e => row_apart hO M.tk (by decide) (by rw [e]; rfl)
  have hT := M.tk.set_other ⟨g, m, none⟩ (.int .i64 q) hgB
  refine ⟨hT, tok_sign (xs := xs.set m q) (M.lx.set_other ⟨g, m, none⟩ (.int .i64 q) hgL) (M.keeps.set g m _ (.inr rfl)) hT ?_ hij hj hL⟩
  have h1 : W.ownsRow ob 3 1 (.slice (some ⟨g, 0, none⟩) (m + 1) cap) (m + 1) (xs.map (Value.int .i64)) := by have := hO; unfold IRow at this; rw [hm] at this; exact this
  have h2 := (h1.stored m (.int .i64 q)).1
  unfold IRow
  rw [List.length_set, hm, List.map_set]
  exact h2
theorem sign_cases (T : ByteArray) : ((T.toList == [63, 46]) = true ∧ (T.toList == [123]) = false ∧ (T.toList == [125]) = false) ∨
    ((T.toList == [63, 46]) = false ∧ (T.toList == [123]) = true ∧ (T.toList == [125]) = false) ∨
    ((T.toList == [63, 46]) = false ∧ (T.toList == [123]) = false ∧ (T.toList == [125]) = true) ∨
    ((T.toList == [63, 46]) = false ∧ (T.toList == [123]) = false ∧ (T.toList == [125]) = false) := by
  have e1 : (⟨#[63, 46]⟩ : ByteArray).toList = [63, 46] := by first | rfl | simp | decide
  have e2 : (⟨#[123]⟩ : ByteArray).toList = [123] := by first | rfl | simp | decide
  have e3 : (⟨#[125]⟩ : ByteArray).toList = [125] := by first | rfl | simp | decide
  have e : ∀ {b : ByteArray} {l : List UInt8}, b.toList = l → T ≠ b → (T.toList == l) = false := fun {b l} hl h => by
    cases hb : (T.toList == l)
    · rfl
    · exact absurd (toList_inj ((eq_of_beq hb).trans hl.symm)) h
  by_cases h1 : T = ⟨#[63, 46]⟩
  · subst h1; exact .inl ⟨by rw [e1]; rfl, by rw [e1]; rfl, by rw [e1]; rfl⟩
  by_cases h2 : T = ⟨#[123]⟩
  · subst h2; exact .inr (.inl ⟨by rw [e2]; rfl, by rw [e2]; rfl, by rw [e2]; rfl⟩)
  by_cases h3 : T = ⟨#[125]⟩
  · subst h3; exact .inr (.inr (.inl ⟨by rw [e3]; rfl, by rw [e3]; rfl, by rw [e3]; rfl⟩))
  exact .inr (.inr (.inr ⟨e e1 h1, e e2 h2, e e3 h3⟩))
set_option maxRecDepth 100000 in
set_option maxHeartbeats 4000000 in
theorem token_any (L : Nat) (s : ByteArray) (i : Nat) (nl : Bool) (out opn : Value) (w : World) (ob : Nat) (xs : List Int) (h : LxAt w L s i nl out opn) (hi : i < s.size) (hs : s.size ≤ 1048576) (hT : Tabs L w) (hO : IRow w ob opn xs) (hob : L < ob) (hob2 : ob ≤ w.heap.size) (hxs : xs.length ≤ 1048576)
    (wb wo wn : Nat) (ws : List ByteArray) (sb so sn : Nat) (ss : List ByteArray) (hW : Lists L w wb wo wn ws sb so sn ss) (h96 : bt s i ≠ 96) :
    Calls Tryz.prog 12 #[.pointer (some ⟨L, 0, none⟩)] w (TokO w L s nl out opn ob i) := by
  have M0 := Lib.hid (Mid.start h hT)
  have hL := h.lt
  have HO := Lib.hid hO
  have HW := Lib.hid hW
  have hlt := bt_lt s i
  obtain ⟨po, no, co, rfl⟩ := slice_of_own hO
  have hn : no = xs.length := by
    rcases hO.2 with ⟨h1, h2⟩ | ⟨g, cap, cur, h1, _⟩
    · cases h1; omega
    · cases h1; rfl
  have hno : (no : Int) ≤ 1048576 := by omega
  have hno2 : no ≤ 1048576 := by omega
  have HN := Lib.hid hn
  clear h hT hO hW hn hxs
  go_enter Tryz.func12, Tryz.ntmps12
  go_wp2_with fail
  refine wp_gen fun W hW => ?_
  have M1 : Hid (Mid w L s nl out (.slice po no co) w.heap.size i W) := by rw [hW]; exact M0.out
  have hz : W.heap.size = w.heap.size + 1 := by rw [hW]; simp
  have IW : Hid (IRow W ob (.slice po no co) xs) := HO.out.beside M1.out.bs (Nat.le_refl _) hob
  have LW : Hid (Lists L W wb wo wn ws sb so sn ss) := HW.out.beside M1.out.bs (Nat.le_of_lt hL) (Nat.le_refl _)
  have c0 := M1.out.lx.cell0
  have c1 := M1.out.lx.cell1
  have c4 := M1.out.lx.cell4
  have fL := M1.out.lx.free 1
  have A0 := M1.out.tk
  obtain ⟨d0, d1, d2, d3, d4, d5, d6, d7⟩ := A0.cells
  have df := A0.free
  obtain ⟨c, hc⟩ : ∃ c, bt s i = c := ⟨_, rfl⟩
  rw [hc] at h96 hlt
  have hb2 : ((s[i]'hi).toNat : Int) = (c : Int) := by rw [byte_index s i hi, hc]
  have hb3 : (s[i]'hi).toNat = c := by rw [byte_index s i hi, hc]
  have g96 : ((c : Int) == 96) = false := by simpa using (by omega : ¬ (c : Int) = 96)
  clear M0 hW A0
  by_cases h128 : 128 ≤ c
  · have g128 : (128 : Int) ≤ (c : Int) := by omega
    go_wp2_with (go_quiet (fail))
    refine tok_ret (by rfl) (by rfl) (by rfl) (by rfl) (TokAt.set (M1.out.drewN _).tk) ?_
    exact TokO.bad (M1.out.drewN _).bs (by decide)
  have g128 : ¬ (128 : Int) ≤ (c : Int) := by omega
  have hc255 : (c : Int) ≤ 255 := by omega
  have hwn : IntKind.i64.wrap ((no : Int) - 1) = (no : Int) - 1 := IntWalk.i64_in _ (by omega)
  go_upto_block 0 with (go_quiet (fail))
  go_cut [5] from 8 (fun v5 wr => v5 = .int .i64 ((no : Int) - 1) ∧ ∃ q, wr = W.drewN q)
  case first =>
    clear hb3 hb2 hc
    have hcs : c = 125 ∨ c = 46 ∨ c = 34 ∨ c = 39 ∨ c = 35 ∨ c = 63 ∨ c = 92 ∨ (c ≠ 46 ∧ c ≠ 34 ∧ c ≠ 39 ∧ c ≠ 35 ∧ c ≠ 125 ∧ c ≠ 63 ∧ c ≠ 92) := by omega
    rcases hcs with rfl | rfl | rfl | rfl | rfl | rfl | rfl | ⟨e1, e2, e3, e4, e5, e6, e7⟩
    case inr.inr.inr.inr.inr.inr.inr =>
      have e1 : ((c : Int) == 46) = false := by simpa using (by omega : ¬ (c : Int) = 46)
      have e2 : ((c : Int) == 34) = false := by simpa using (by omega : ¬ (c : Int) = 34)
      have e3 : ((c : Int) == 39) = false := by simpa using (by omega : ¬ (c : Int) = 39)
      have e4 : ((c : Int) == 35) = false := by simpa using (by omega : ¬ (c : Int) = 35)
      have e5 : ((c : Int) == 125) = false := by simpa using (by omega : ¬ (c : Int) = 125)
      have e6 : ((c : Int) == 63) = false := by simpa using (by omega : ¬ (c : Int) = 63)
      have e7 : ((c : Int) == 92) = false := by simpa using (by omega : ¬ (c : Int) = 92)
      go_wp2_with (first | (go_at_call 21; refine (isBegin_any _ _).mono ?_; rintro e w2 ⟨⟨r2, rfl⟩, rfl⟩; cases r2) | (go_at_call 23; refine (isDigit_weak _ _).mono ?_; rintro e w2 ⟨⟨r2, rfl⟩, rfl⟩; cases r2) | (go_at_call 20; refine (ahead_gen _ (by decide) (M1.out.drewN _).lx (by omega) hs).mono ?_; rintro e w2 ⟨bb, rfl, q, rfl⟩) | (go_at_call 22; refine (name_any L s i nl out _ _ (M1.out.drewN _).lx (by omega) hs (M1.out.drewN _).tabs wb wo wn ws sb so sn ss (LW.out.drewN _)).mono ?_; rintro e w3 ⟨v, ⟨k1, a1, b1, t1, p1, n1, c1, f1, x1, y1, rfl⟩, he⟩; have HE := Lib.hid he; have A4 := ((M1.out.drewN _).off he.2).2; obtain ⟨d0, d1, d2, d3, d4, d5, d6, d7⟩ := A4.cells; have df := A4.free; have A5 := Lib.hid A4; unfold tokV; clear he A4) | (go_at_call 24; refine (number_any L s i nl out _ _ (M1.out.drewN _).lx (by omega) hs (M1.out.drewN _).tabs).mono ?_; rintro e w3 ⟨v, ⟨k1, a1, b1, t1, p1, n1, c1, f1, x1, y1, rfl⟩, he⟩; have HE := Lib.hid he; have A4 := ((M1.out.drewN _).off he.2).2; obtain ⟨d0, d1, d2, d3, d4, d5, d6, d7⟩ := A4.cells; have df := A4.free; have A5 := Lib.hid A4; unfold tokV; clear he A4) | (go_at_call 26; refine (private_any L s i nl out _ _ (M1.out.drewN _).lx hi hs (M1.out.drewN _).tabs).mono ?_; rintro e w3 ⟨v, ⟨k1, a1, b1, t1, p1, n1, c1, f1, x1, y1, rfl⟩, he⟩; have HE := Lib.hid he; have A4 := ((M1.out.drewN _).off he.2).2; obtain ⟨d0, d1, d2, d3, d4, d5, d6, d7⟩ := A4.cells; have df := A4.free; have A5 := Lib.hid A4; unfold tokV; clear he A4))
      all_goals
        first
          | (refine tok_ret (by rfl) (by rfl) (by rfl) (by rfl) (TokAt.set A5.out) ?_; exact (tok_pass (M1.out.drewN _) HE.out).toO HO.out hob)
          | (go_meet; (case rel => exact ⟨rfl, _, rfl⟩))
          | (refine tok_ret (by rfl) (by rfl) (by rfl) (by rfl) (TokAt.set ((M1.out.drewN _).set1 (i + 1)).tk) ?_; exact tok_sign ((M1.out.drewN _).set1 (i + 1)).lx ((M1.out.drewN _).set1 (i + 1)).keeps ((M1.out.drewN _).set1 (i + 1)).tk (HO.out.beside ((M1.out.drewN _).set1 (i + 1)).bs (Nat.le_refl _) hob) (by omega) (by omega) hL)
    case inl =>
      by_cases h0 : no = 0
      · subst h0
        go_wp2_with (first | (go_at_call 21; refine (isBegin_any _ _).mono ?_; rintro e w2 ⟨⟨r2, rfl⟩, rfl⟩; cases r2) | (go_at_call 23; refine (isDigit_weak _ _).mono ?_; rintro e w2 ⟨⟨r2, rfl⟩, rfl⟩; cases r2) | (go_at_call 20; refine (ahead_gen _ (by decide) (M1.out.drewN _).lx (by omega) hs).mono ?_; rintro e w2 ⟨bb, rfl, q, rfl⟩) | (go_at_call 22; refine (name_any L s i nl out _ _ (M1.out.drewN _).lx (by omega) hs (M1.out.drewN _).tabs wb wo wn ws sb so sn ss (LW.out.drewN _)).mono ?_; rintro e w3 ⟨v, ⟨k1, a1, b1, t1, p1, n1, c1, f1, x1, y1, rfl⟩, he⟩; have HE := Lib.hid he; have A4 := ((M1.out.drewN _).off he.2).2; obtain ⟨d0, d1, d2, d3, d4, d5, d6, d7⟩ := A4.cells; have df := A4.free; have A5 := Lib.hid A4; unfold tokV; clear he A4) | (go_at_call 24; refine (number_any L s i nl out _ _ (M1.out.drewN _).lx (by omega) hs (M1.out.drewN _).tabs).mono ?_; rintro e w3 ⟨v, ⟨k1, a1, b1, t1, p1, n1, c1, f1, x1, y1, rfl⟩, he⟩; have HE := Lib.hid he; have A4 := ((M1.out.drewN _).off he.2).2; obtain ⟨d0, d1, d2, d3, d4, d5, d6, d7⟩ := A4.cells; have df := A4.free; have A5 := Lib.hid A4; unfold tokV; clear he A4) | (go_at_call 26; refine (private_any L s i nl out _ _ (M1.out.drewN _).lx hi hs (M1.out.drewN _).tabs).mono ?_; rintro e w3 ⟨v, ⟨k1, a1, b1, t1, p1, n1, c1, f1, x1, y1, rfl⟩, he⟩; have HE := Lib.hid he; have A4 := ((M1.out.drewN _).off he.2).2; obtain ⟨d0, d1, d2, d3, d4, d5, d6, d7⟩ := A4.cells; have df := A4.free; have A5 := Lib.hid A4; unfold tokV; clear he A4))
        all_goals
            first
              | (refine tok_ret (by rfl) (by rfl) (by rfl) (by rfl) (TokAt.set A5.out) ?_; exact (tok_pass (M1.out.drewN _) HE.out).toO HO.out hob)
              | (go_meet; (case rel => exact ⟨rfl, _, rfl⟩))
      · obtain ⟨g, rfl⟩ : ∃ g, po = some ⟨g, 0, none⟩ := by
          rcases HO.out.2 with ⟨h1, h2⟩ | ⟨g, cap, cur, h1, _⟩
          · exact absurd (HN.out.trans h2) h0
          · simp only [Value.slice.injEq] at h1; exact ⟨g, h1.1⟩
        obtain ⟨m, hm⟩ : ∃ m, no = m + 1 := ⟨no - 1, by omega⟩
        have hx : ∃ x : Int, W.cell? ⟨g, m, none⟩ = some (.int .i64 x) := by
          have h1 : W.ownsRow ob 3 1 (.slice (some ⟨g, 0, none⟩) no co) no (xs.map (Value.int .i64)) := by have := IW.out; unfold IRow at this; rw [← HN.out] at this; exact this
          rw [h1.cellAt m (by omega), List.getElem?_map, List.getElem?_eq_getElem (by have := HN.out; omega)]
          exact ⟨_, rfl⟩
        obtain ⟨x, hx⟩ := hx
        have hx1 : (0 : Int) ≤ (no : Int) - 1 := by omega
        have hx2 : (no : Int) - 1 < (no : Int) := by omega
        have hx3 : ((no : Int) - 1).toNat = m := by omega
        have hm2 := Lib.hid hm
        clear hm h0
        go_wp2_with (first | (go_at_call 27; refine (tplT_any L s i nl out _ _ ob xs (M1.out.drewN _).lx (by omega) hs (M1.out.drewN _).tabs (IW.out) hob (show ob ≤ W.heap.size by omega) (by have := HN.out; omega) (by have := HN.out; have := hm2.out; omega)).mono ?_; rintro e w3 ho; have ho2 := ho; obtain ⟨v, ⟨k1, a1, b1, t1, p1, n1, c1, f1, x1, y1, rfl⟩, ho3⟩ := ho2; have HE := Lib.hid ho; have A4 := pass_at (M1.out.drewN _) IW.out ho; obtain ⟨d0, d1, d2, d3, d4, d5, d6, d7⟩ := A4.cells; have df := A4.free; have A5 := Lib.hid A4; unfold tokV; clear ho ho3 A4) | first | (go_at_call 21; refine (isBegin_any _ _).mono ?_; rintro e w2 ⟨⟨r2, rfl⟩, rfl⟩; cases r2) | (go_at_call 23; refine (isDigit_weak _ _).mono ?_; rintro e w2 ⟨⟨r2, rfl⟩, rfl⟩; cases r2) | (go_at_call 20; refine (ahead_gen _ (by decide) (M1.out.drewN _).lx (by omega) hs).mono ?_; rintro e w2 ⟨bb, rfl, q, rfl⟩) | (go_at_call 22; refine (name_any L s i nl out _ _ (M1.out.drewN _).lx (by omega) hs (M1.out.drewN _).tabs wb wo wn ws sb so sn ss (LW.out.drewN _)).mono ?_; rintro e w3 ⟨v, ⟨k1, a1, b1, t1, p1, n1, c1, f1, x1, y1, rfl⟩, he⟩; have HE := Lib.hid he; have A4 := ((M1.out.drewN _).off he.2).2; obtain ⟨d0, d1, d2, d3, d4, d5, d6, d7⟩ := A4.cells; have df := A4.free; have A5 := Lib.hid A4; unfold tokV; clear he A4) | (go_at_call 24; refine (number_any L s i nl out _ _ (M1.out.drewN _).lx (by omega) hs (M1.out.drewN _).tabs).mono ?_; rintro e w3 ⟨v, ⟨k1, a1, b1, t1, p1, n1, c1, f1, x1, y1, rfl⟩, he⟩; have HE := Lib.hid he; have A4 := ((M1.out.drewN _).off he.2).2; obtain ⟨d0, d1, d2, d3, d4, d5, d6, d7⟩ := A4.cells; have df := A4.free; have A5 := Lib.hid A4; unfold tokV; clear he A4) | (go_at_call 26; refine (private_any L s i nl out _ _ (M1.out.drewN _).lx hi hs (M1.out.drewN _).tabs).mono ?_; rintro e w3 ⟨v, ⟨k1, a1, b1, t1, p1, n1, c1, f1, x1, y1, rfl⟩, he⟩; have HE := Lib.hid he; have A4 := ((M1.out.drewN _).off he.2).2; obtain ⟨d0, d1, d2, d3, d4, d5, d6, d7⟩ := A4.cells; have df := A4.free; have A5 := Lib.hid A4; unfold tokV; clear he A4))
        all_goals
          first
            | (go_meet; (case rel => exact ⟨by first | rfl | (congr 1), _, rfl⟩))
            | (refine tok_ret (by rfl) (by rfl) (by rfl) (by rfl) (TokAt.set A5.out) ?_; exact pass_o (M1.out.drewN _) IW.out HE.out)
            | (refine tok_ret (by rfl) (by rfl) (by rfl) (by rfl) (TokAt.set A5.out) ?_; exact (tok_pass (M1.out.drewN _) HE.out).toO HO.out hob)
    all_goals
      go_wp2_with (first | (go_at_call 21; refine (isBegin_any _ _).mono ?_; rintro e w2 ⟨⟨r2, rfl⟩, rfl⟩; cases r2) | (go_at_call 23; refine (isDigit_weak _ _).mono ?_; rintro e w2 ⟨⟨r2, rfl⟩, rfl⟩; cases r2) | (go_at_call 20; refine (ahead_gen _ (by decide) (M1.out.drewN _).lx (by omega) hs).mono ?_; rintro e w2 ⟨bb, rfl, q, rfl⟩) | (go_at_call 22; refine (name_any L s i nl out _ _ (M1.out.drewN _).lx (by omega) hs (M1.out.drewN _).tabs wb wo wn ws sb so sn ss (LW.out.drewN _)).mono ?_; rintro e w3 ⟨v, ⟨k1, a1, b1, t1, p1, n1, c1, f1, x1, y1, rfl⟩, he⟩; have HE := Lib.hid he; have A4 := ((M1.out.drewN _).off he.2).2; obtain ⟨d0, d1, d2, d3, d4, d5, d6, d7⟩ := A4.cells; have df := A4.free; have A5 := Lib.hid A4; unfold tokV; clear he A4) | (go_at_call 24; refine (number_any L s i nl out _ _ (M1.out.drewN _).lx (by omega) hs (M1.out.drewN _).tabs).mono ?_; rintro e w3 ⟨v, ⟨k1, a1, b1, t1, p1, n1, c1, f1, x1, y1, rfl⟩, he⟩; have HE := Lib.hid he; have A4 := ((M1.out.drewN _).off he.2).2; obtain ⟨d0, d1, d2, d3, d4, d5, d6, d7⟩ := A4.cells; have df := A4.free; have A5 := Lib.hid A4; unfold tokV; clear he A4) | (go_at_call 26; refine (private_any L s i nl out _ _ (M1.out.drewN _).lx hi hs (M1.out.drewN _).tabs).mono ?_; rintro e w3 ⟨v, ⟨k1, a1, b1, t1, p1, n1, c1, f1, x1, y1, rfl⟩, he⟩; have HE := Lib.hid he; have A4 := ((M1.out.drewN _).off he.2).2; obtain ⟨d0, d1, d2, d3, d4, d5, d6, d7⟩ := A4.cells; have df := A4.free; have A5 := Lib.hid A4; unfold tokV; clear he A4) | (go_at_call 25; refine (quotedI L s i _ nl out _ _ (M1.out.drewN _).lx hi hs (M1.out.drewN _).tabs (by decide)).mono ?_; rintro e w3 ⟨v, ⟨k1, a1, b1, t1, p1, n1, c1, f1, x1, y1, rfl⟩, he⟩; have HE := Lib.hid he; have A4 := ((M1.out.drewN _).off he.2).2; obtain ⟨d0, d1, d2, d3, d4, d5, d6, d7⟩ := A4.cells; have df := A4.free; have A5 := Lib.hid A4; unfold tokV; clear he A4))
      all_goals
        first
          | (refine tok_ret (by rfl) (by rfl) (by rfl) (by rfl) (TokAt.set A5.out) ?_; exact (tok_pass (M1.out.drewN _) HE.out).toO HO.out hob)
          | (go_meet; (case rel => exact ⟨rfl, _, rfl⟩))
          | (refine tok_ret (by rfl) (by rfl) (by rfl) (by rfl) (TokAt.set ((M1.out.drewN _).set1 (i + 1)).tk) ?_; exact tok_sign ((M1.out.drewN _).set1 (i + 1)).lx ((M1.out.drewN _).set1 (i + 1)).keeps ((M1.out.drewN _).set1 (i + 1)).tk (HO.out.beside ((M1.out.drewN _).set1 (i + 1)).bs (Nat.le_refl _) hob) (by omega) (by omega) hL)
  case rest =>
    clear hb3 hb2 hc
    obtain ⟨rfl, q0, rfl⟩ := hcut
    have gi : (i : Int) ≤ (s.size : Int) := by omega
    have gi0 : (0 : Int) ≤ (i : Int) := by omega
    have gi1 : i ≤ s.size := by omega
    obtain ⟨hs0, hsl, hscell⟩ := LW.out.signs
    have hsn := LW.out.hsn
    have hfull := Lib.hid LW.out.full
    clear c4 hsl hscell
    go_wp2
    clear c0 c1 fL d0 d1 d2 d3 d4 d5 d6 d7 df hs0
    go_loopw [124] (fun v wr => ∃ j : Nat, j ≤ sn ∧ v = .int .i64 j ∧ Mid w L s nl out (.slice po no co) w.heap.size i wr ∧ IRow wr ob (.slice po no co) xs ∧ Lists L wr wb wo wn ws sb so sn ss) (fun v _ => sn - (RowKit.intOf v).toNat)
    case atStart => exact ⟨0, by omega, rfl, M1.out.drewN _, IW.out, LW.out.drewN _⟩
    case round =>
      obtain ⟨j, hj, rfl, hm, hI, hl⟩ := hrel
      have M2 := Lib.hid hm
      have I2 := Lib.hid hI
      have L2 := Lib.hid hl
      have c0 := hm.lx.cell0
      have c1 := hm.lx.cell1
      have fL := hm.lx.free 1
      have A0 := hm.tk
      obtain ⟨d0, d1, d2, d3, d4, d5, d6, d7⟩ := A0.cells
      have df := A0.free
      obtain ⟨hs0, hsl, hscell⟩ := hl.signs
      clear hm hI hl A0 M1 IW LW hs0 hsl
      by_cases hlt : j < sn
      · have hc := hscell j hlt
        obtain ⟨hf1, hf2⟩ := hfull.out j hlt
        obtain ⟨T, hT⟩ : ∃ T, ss.getD j ByteArray.empty = T := ⟨_, rfl⟩
        rw [hT] at hc hf1 hf2
        clear hscell hfull hT
        by_cases hp : hpB (s.extract i s.size) T = true
        · have hfit : i + T.size ≤ s.size := by
            have := (hpB_true hp).1
            rw [ByteArray.size_extract] at this
            omega
          have wT : IntKind.i64.wrap ((i : Int) + (T.size : Int)) = (i : Int) + (T.size : Int) := IntWalk.i64_in _ (by omega)
          have hij : i < i + T.size := by omega
          go_upto_region 25 with (go_quiet (first | (go_at_call 10; refine Calls.quiet_of_same (hasPre_v _ _ _ _ hp))))
          refine wp_gen fun V hV => ?_
          have M3 : Hid (Mid w L s nl out (.slice po no co) w.heap.size (i + T.size) V) := by rw [hV]; exact (M2.out.drewN _).set1 (i + T.size)
          have hzv : wr.heap.size = V.heap.size := by rw [hV]; simp [World.setCell]
          have I3 : Hid (IRow V ob (.slice po no co) xs) := by rw [hV]; exact I2.out.beside (Beside.setCell (Beside.drewN (Beside.refl _ L _) _) (.inl rfl) _) (Nat.le_refl _) hob
          clear hV M2 I2 L2 c0 c1 fL d0 d1 d2 d3 d4 d5 d6 d7 df hc hp
          have c0 := M3.out.lx.cell0
          have c1 : V.cell? ⟨L, 1, none⟩ = some (.int .i64 ((i : Int) + (T.size : Int))) := M3.out.lx.cell1
          have c4 := M3.out.lx.cell4
          have A0 := M3.out.tk
          obtain ⟨d0, d1, d2, d3, d4, d5, d6, d7⟩ := A0.cells
          have df := A0.free
          have T3 := Lib.hid A0
          clear A0
          rcases sign_cases T with ⟨b1, b2, b3⟩ | ⟨b1, b2, b3⟩ | ⟨b1, b2, b3⟩ | ⟨b1, b2, b3⟩
          · by_cases he : i + T.size = s.size
            · have g1 : ((i : Int) + (T.size : Int) == (s.size : Int)) = true := by simpa using (by omega : (i : Int) + (T.size : Int) = (s.size : Int))
              go_wp2_with (go_quiet (fail))
              all_goals
                first
                  | (refine tok_ret (by rfl) (by rfl) (by rfl) (by rfl) (TokAt.set (M3.out.drewN _).tk) ?_; exact TokO.bad (M3.out.drewN _).bs (by decide))
                  | (exfalso; omega)
            · have g1 : ((i : Int) + (T.size : Int) == (s.size : Int)) = false := by simpa using (by omega : ¬ (i : Int) + (T.size : Int) = (s.size : Int))
              by_cases h0 : (1 : Int) ≤ (no : Int)
              · go_wp2_with (go_quiet (fail))
                all_goals
                  first
                    | (refine tok_ret (by rfl) (by rfl) (by rfl) (by rfl) (TokAt.set (M3.out.drewN _).tk) ?_; exact tok_sign (M3.out.drewN _).lx (M3.out.drewN _).keeps (M3.out.drewN _).tk I3.out hij hfit hL)
                    | (exfalso; omega)
              · go_wp2_with (go_quiet (fail))
                all_goals
                  first
                    | (refine tok_ret (by rfl) (by rfl) (by rfl) (by rfl) (TokAt.set (M3.out.drewN _).tk) ?_; exact tok_sign (M3.out.drewN _).lx (M3.out.drewN _).keeps (M3.out.drewN _).tk I3.out hij hfit hL)
                    | (exfalso; omega)
          · by_cases h0 : no = 0
            · have h1 : (no : Int) < 1 := by omega
              clear h0
              go_wp2_with (go_quiet (fail))
              all_goals
                first
                  | (refine tok_ret (by rfl) (by rfl) (by rfl) (by rfl) (TokAt.set (M3.out.drewN _).tk) ?_; exact tok_sign (M3.out.drewN _).lx (M3.out.drewN _).keeps (M3.out.drewN _).tk I3.out hij hfit hL)
                  | (exfalso; omega)
            · obtain ⟨g, rfl⟩ : ∃ g, po = some ⟨g, 0, none⟩ := by
                rcases I3.out.2 with ⟨h1, h2⟩ | ⟨g, cap, cur, h1, _⟩
                · exact absurd (HN.out.trans h2) h0
                · simp only [Value.slice.injEq] at h1; exact ⟨g, h1.1⟩
              obtain ⟨m, hm⟩ : ∃ m, no = m + 1 := ⟨no - 1, by omega⟩
              have hx : ∃ x : Int, V.cell? ⟨g, m, none⟩ = some (.int .i64 x) := by
                have h1 : V.ownsRow ob 3 1 (.slice (some ⟨g, 0, none⟩) no co) no (xs.map (Value.int .i64)) := by have := I3.out; unfold IRow at this; rw [← HN.out] at this; exact this
                rw [h1.cellAt m (by omega), List.getElem?_map, List.getElem?_eq_getElem (by have := HN.out; omega)]
                exact ⟨_, rfl⟩
              have hgf : V.frozen? ⟨g, m, none⟩ = false := by
                have h1 : V.ownsRow ob 3 1 (.slice (some ⟨g, 0, none⟩) no co) no (xs.map (Value.int .i64)) := by have := I3.out; unfold IRow at this; rw [← HN.out] at this; exact this
                exact h1.frozenAt m
              obtain ⟨x, hx⟩ := hx
              have hgB : w.heap.size ≠ g := fun e => row_apart I3.out M3.out.tk (by decide) (by rw [e]; rfl)
              have hgB2 : g ≠ w.heap.size := fun e => hgB e.symm
              have hx1 : (1 : Int) ≤ (no : Int) := by omega
              have hx2 : (no : Int) - 1 < (no : Int) := by omega
              have hx3 : ((no : Int) - 1).toNat = m := by omega
              have hlen : xs.length = m + 1 := by rw [← hm]; exact HN.out.symm
              have HLEN := Lib.hid hlen
              have HM := Lib.hid hm
              clear hm h0 hlen
              go_wp2_with (go_quiet (fail))
              refine tok_ret (by rfl) (by rfl) (by rfl) (by rfl) (TokAt.set (k := 0) (a := 0) (b := 0) (t := ⟨#[]⟩) (u := .slice none 0 0) (f := 0) (x := false) (y := false) ((M3.out.drewN _).tk.set_other _ _ hgB)) ?_
              have := HM.out
              subst this
              exact (tok_count _ (M3.out.drewN _) I3.out HLEN.out hij hfit hL hob).2
          · by_cases h0 : no = 0
            · have h1 : (no : Int) < 1 := by omega
              clear h0
              go_wp2_with (go_quiet (fail))
              all_goals
                first
                  | (refine tok_ret (by rfl) (by rfl) (by rfl) (by rfl) (TokAt.set (M3.out.drewN _).tk) ?_; exact tok_sign (M3.out.drewN _).lx (M3.out.drewN _).keeps (M3.out.drewN _).tk I3.out hij hfit hL)
                  | (exfalso; omega)
            · obtain ⟨g, rfl⟩ : ∃ g, po = some ⟨g, 0, none⟩ := by
                rcases I3.out.2 with ⟨h1, h2⟩ | ⟨g, cap, cur, h1, _⟩
                · exact absurd (HN.out.trans h2) h0
                · simp only [Value.slice.injEq] at h1; exact ⟨g, h1.1⟩
              obtain ⟨m, hm⟩ : ∃ m, no = m + 1 := ⟨no - 1, by omega⟩
              have hx : ∃ x : Int, V.cell? ⟨g, m, none⟩ = some (.int .i64 x) := by
                have h1 : V.ownsRow ob 3 1 (.slice (some ⟨g, 0, none⟩) no co) no (xs.map (Value.int .i64)) := by have := I3.out; unfold IRow at this; rw [← HN.out] at this; exact this
                rw [h1.cellAt m (by omega), List.getElem?_map, List.getElem?_eq_getElem (by have := HN.out; omega)]
                exact ⟨_, rfl⟩
              have hgf : V.frozen? ⟨g, m, none⟩ = false := by
                have h1 : V.ownsRow ob 3 1 (.slice (some ⟨g, 0, none⟩) no co) no (xs.map (Value.int .i64)) := by have := I3.out; unfold IRow at this; rw [← HN.out] at this; exact this
                exact h1.frozenAt m
              obtain ⟨x, hx⟩ := hx
              have hgB : w.heap.size ≠ g := fun e => row_apart I3.out M3.out.tk (by decide) (by rw [e]; rfl)
              have hgB2 : g ≠ w.heap.size := fun e => hgB e.symm
              have hx1 : (1 : Int) ≤ (no : Int) := by omega
              have hx2 : (no : Int) - 1 < (no : Int) := by omega
              have hx3 : ((no : Int) - 1).toNat = m := by omega
              have hlen : xs.length = m + 1 := by rw [← hm]; exact HN.out.symm
              have HLEN := Lib.hid hlen
              have HM := Lib.hid hm
              clear hm h0 hlen
              go_wp2_with (go_quiet (fail))
              refine tok_ret (by rfl) (by rfl) (by rfl) (by rfl) (TokAt.set (k := 0) (a := 0) (b := 0) (t := ⟨#[]⟩) (u := .slice none 0 0) (f := 0) (x := false) (y := false) ((M3.out.drewN _).tk.set_other _ _ hgB)) ?_
              have := HM.out
              subst this
              exact (tok_count _ (M3.out.drewN _) I3.out HLEN.out hij hfit hL hob).2
          · by_cases h0 : (1 : Int) ≤ (no : Int)
            · go_wp2_with (go_quiet (fail))
              all_goals
                first
                  | (refine tok_ret (by rfl) (by rfl) (by rfl) (by rfl) (TokAt.set (M3.out.drewN _).tk) ?_; exact tok_sign (M3.out.drewN _).lx (M3.out.drewN _).keeps (M3.out.drewN _).tk I3.out hij hfit hL)
                  | (exfalso; omega)
            · go_wp2_with (go_quiet (fail))
              all_goals
                first
                  | (refine tok_ret (by rfl) (by rfl) (by rfl) (by rfl) (TokAt.set (M3.out.drewN _).tk) ?_; exact tok_sign (M3.out.drewN _).lx (M3.out.drewN _).keeps (M3.out.drewN _).tk I3.out hij hfit hL)
                  | (exfalso; omega)
        · have hp : hpB (s.extract i s.size) T = false := by simpa using hp
          go_wp2_with (go_quiet (first | (go_at_call 10; refine Calls.quiet_of_same (hasPre_v _ _ _ _ hp))))
          case roundEnd => exact ⟨⟨j + 1, by omega, by go_num, M2.out.drewN _, I2.out, L2.out.drewN _⟩, by simp [RowKit.intOf]; omega⟩
      · have hkn : j = sn := by omega
        subst hkn
        clear hscell hfull
        go_wp2
        refine tok_ret (by rfl) (by rfl) (by rfl) (by rfl) (TokAt.set M2.out.tk) ?_
        exact TokO.bad M2.out.bs (by decide)
end Go.Proofs.YthknielnhmoobaaGreatDoor
