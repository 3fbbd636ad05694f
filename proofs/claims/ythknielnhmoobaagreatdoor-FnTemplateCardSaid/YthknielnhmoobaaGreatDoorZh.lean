/- The reference's lexer at any text: numbers, names. -/
import Derived.Test.YthknielnhmoobaaGreatDoorZg
namespace Go.Proofs.YthknielnhmoobaaGreatDoor
open Go.RowKit Go.Lib

/-- A token that a callee hands back is handed on. -/
theorem tok_pass {w W W' : World} {L B i : Nat} {s : ByteArray} {nl : Bool} {out opn : Value} {k a b : Int} {t : ByteArray} {p : Option Addr} {n c f : Nat} {x y : Bool} {v : Int} (hM : Mid w L s nl out opn B i W) (he : LexR W L s nl out opn i v W') :
    TokP w L s nl out opn i (.returned (.tuple #[tokV k a b t (.slice p n c) f x y, .int .i64 v])) (tok8 W' B (.int .i64 k) (.int .i64 a) (.int .i64 b) (.string t) (.slice p n c) (.float .f64 f) (.bool x) (.bool y)) :=
  ⟨v, ⟨_, _, _, _, _, _, _, _, _, _, rfl⟩, fun hv => by
    obtain ⟨j, h1, h2, h3⟩ := he.1 hv
    exact ⟨j, h1, h2, h3.tok8 (by have := hM.hL; have := hM.low; omega)⟩, Beside.tok8 (hM.off he.2).1 hM.low⟩
set_option maxRecDepth 100000 in
set_option maxHeartbeats 4000000 in
theorem number_any (L : Nat) (s : ByteArray) (i : Nat) (nl : Bool) (out opn : Value) (w : World) (h : LxAt w L s i nl out opn) (hi : i ≤ s.size) (hs : s.size ≤ 1048576) (hT : Tabs L w) :
    Calls Tryz.prog 24 #[.pointer (some ⟨L, 0, none⟩)] w (TokP w L s nl out opn i) := by
  have M0 := Lib.hid (Mid.start h hT)
  have hL := h.lt
  clear h hT
  go_enter Tryz.func24, Tryz.ntmps24
  go_wp2_with fail
  obtain ⟨W, hW⟩ : ∃ W, w.alloc (.cells #[.int .i64 0, .int .i64 0, .int .i64 0, .string ⟨#[]⟩, .slice none 0 0, .float .f64 0, .bool false, .bool false] 34) = W := ⟨_, rfl⟩
  rw [hW]
  have M1 : Hid (Mid w L s nl out opn w.heap.size i W) := by rw [← hW]; exact M0.out
  clear M0 hW
  obtain ⟨q0, hq0⟩ : ∃ x, bt s i = x := ⟨_, rfl⟩
  obtain ⟨q1, hq1⟩ : ∃ x, bt s (i + 1) = x := ⟨_, rfl⟩
  have A2 := M1.out.tk
  obtain ⟨d0, d1, d2, d3, d4, d5, d6, d7⟩ := A2.cells
  have df := A2.free
  have A3 := Lib.hid A2
  clear A2
  refine (ahead_any L s i 0 i 0 rfl rfl nl out opn _ M1.out.lx (by omega) (by omega)).mono ?_
  rintro e w2 ⟨rfl, q, rfl⟩
  rw [hq0]
  by_cases h48 : q0 = 48
  · subst h48
    by_cases hks : i + 1 < s.size
    · go_wp2_with (first | (go_at_call 20; refine (ahead_any L s i 1 (i + 1) 1 rfl rfl nl out opn _ (by first | exact M1.out.lx.drewN _ | exact (M1.out.lx.drewN _).drewN _) (by omega) (by omega)).mono ?_; rintro e w2 ⟨rfl, q, rfl⟩; rw [hq1]) | (go_at_call 23; refine (isDigit_weak _ _).mono ?_; rintro e w5 ⟨⟨r2, rfl⟩, rfl⟩; cases r2) | (go_at_call 36; refine (based_any L s i _ nl out opn _ (M1.out.drewN _).lx (by omega) hs (M1.out.drewN _).tabs).mono ?_; rintro e w3 ⟨v, ⟨k1, a1, b1, t1, p1, n1, c1, f1, x1, y1, rfl⟩, he⟩; have HE := Lib.hid he; have A4 := ((M1.out.drewN _).off he.2).2; obtain ⟨d0, d1, d2, d3, d4, d5, d6, d7⟩ := A4.cells; have df := A4.free; have A5 := Lib.hid A4; unfold tokV; clear he A4) | (go_at_call 37; refine (decimal_any L s i nl out opn _ (M1.out.drewN _).lx (by omega) hs (M1.out.drewN _).tabs).mono ?_; rintro e w3 ⟨v, ⟨k1, a1, b1, t1, p1, n1, c1, f1, x1, y1, rfl⟩, he⟩; have HE := Lib.hid he; have A4 := ((M1.out.drewN _).off he.2).2; obtain ⟨d0, d1, d2, d3, d4, d5, d6, d7⟩ := A4.cells; have df := A4.free; have A5 := Lib.hid A4; unfold tokV; clear he A4))
      all_goals first
        | (refine tok_ret (by rfl) (by rfl) (by rfl) (by rfl) (TokAt.set A5.out) ?_; exact tok_pass (M1.out.drewN _) HE.out)
        | (refine tok_ret (by rfl) (by rfl) (by rfl) (by rfl) (TokAt.set (M1.out.drewN _).tk) ?_; exact tok_bad (M1.out.drewN _) (Beside.refl _ _ _) (by decide))
    · have h0 : q1 = 0 := by rw [← hq1]; exact bt_end (by omega)
      subst h0
      go_wp2_with (first | (go_at_call 20; refine (ahead_any L s i 1 (i + 1) 1 rfl rfl nl out opn _ (by first | exact M1.out.lx.drewN _ | exact (M1.out.lx.drewN _).drewN _) (by omega) (by omega)).mono ?_; rintro e w2 ⟨rfl, q, rfl⟩; rw [hq1]) | (go_at_call 23; refine (isDigit_weak _ _).mono ?_; rintro e w5 ⟨⟨r2, rfl⟩, rfl⟩; cases r2) | (go_at_call 37; refine (decimal_any L s i nl out opn _ (M1.out.drewN _).lx (by omega) hs (M1.out.drewN _).tabs).mono ?_; rintro e w3 ⟨v, ⟨k1, a1, b1, t1, p1, n1, c1, f1, x1, y1, rfl⟩, he⟩; have HE := Lib.hid he; have A4 := ((M1.out.drewN _).off he.2).2; obtain ⟨d0, d1, d2, d3, d4, d5, d6, d7⟩ := A4.cells; have df := A4.free; have A5 := Lib.hid A4; unfold tokV; clear he A4))
      all_goals first
        | (refine tok_ret (by rfl) (by rfl) (by rfl) (by rfl) (TokAt.set A5.out) ?_; exact tok_pass (M1.out.drewN _) HE.out)
        | (refine tok_ret (by rfl) (by rfl) (by rfl) (by rfl) (TokAt.set (M1.out.drewN _).tk) ?_; exact tok_bad (M1.out.drewN _) (Beside.refl _ _ _) (by decide))
  · have g : ((q0 : Int) == 48) = false := by simpa using (by omega : ¬ (q0 : Int) = 48)
    go_wp2_with (go_at_call 37; refine (decimal_any L s i nl out opn _ (M1.out.drewN _).lx (by omega) hs (M1.out.drewN _).tabs).mono ?_; rintro e w3 ⟨v, ⟨k1, a1, b1, t1, p1, n1, c1, f1, x1, y1, rfl⟩, he⟩; have HE := Lib.hid he; have A4 := ((M1.out.drewN _).off he.2).2; obtain ⟨d0, d1, d2, d3, d4, d5, d6, d7⟩ := A4.cells; have df := A4.free; have A5 := Lib.hid A4; unfold tokV; clear he A4)
    refine tok_ret (by rfl) (by rfl) (by rfl) (by rfl) (TokAt.set A5.out) ?_
    exact tok_pass (M1.out.drewN _) HE.out
end Go.Proofs.YthknielnhmoobaaGreatDoor
