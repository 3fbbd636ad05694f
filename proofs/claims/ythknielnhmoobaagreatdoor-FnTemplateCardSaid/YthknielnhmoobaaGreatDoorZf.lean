/- The reference's lexer at any text: numbers of a base. -/
import Derived.Test.YthknielnhmoobaaGreatDoorZe
namespace Go.Proofs.YthknielnhmoobaaGreatDoor
open Go.RowKit Go.Lib

theorem TokAt.beside {w w' : World} {B C L : Nat} {k a b : Int} {t : ByteArray} {u : Value} {f : Nat} {x y : Bool} (h : TokAt w B k a b t u f x y) (hb : Beside C L w w') (hB : B < C) (hL : B ≠ L) : TokAt w' B k a b t u f x y := (hb.block B hB hL).trans h
theorem TokAt.set_other {w : World} {B : Nat} {k a b : Int} {t : ByteArray} {u : Value} {f : Nat} {x y : Bool} (h : TokAt w B k a b t u f x y) (p : Addr) (v : Value) (hp : B ≠ p.block) : TokAt (w.setCell p v) B k a b t u f x y := (Below.heap_setCell _ _ _ _ hp).trans h
theorem TokAt.lt {w : World} {B : Nat} {k a b : Int} {t : ByteArray} {u : Value} {f : Nat} {x y : Bool} (h : TokAt w B k a b t u f x y) : B < w.heap.size := (Array.getElem?_eq_some_iff.1 h).1
/-- Within a call that makes a token: the lexer stands at place j of the world W; the result's cell lies in block B. -/
structure Mid (w : World) (L : Nat) (s : ByteArray) (nl : Bool) (out opn : Value) (B : Nat) (j : Nat) (W : World) : Prop where
  lx : LxAt W L s j nl out opn
  bs : Beside w.heap.size L w W
  tk : TokAt W B 0 0 0 ⟨#[]⟩ (.slice none 0 0) 0 false false
  low : w.heap.size ≤ B
  hL : L < w.heap.size
  hT : Tabs L w
section
variable {w W W' : World} {L B j j' i : Nat} {s : ByteArray} {nl : Bool} {out opn : Value}
theorem Mid.start (h : LxAt w L s i nl out opn) (hT : Tabs L w) : Mid w L s nl out opn w.heap.size i (w.alloc (.cells #[.int .i64 0, .int .i64 0, .int .i64 0, .string ⟨#[]⟩, .slice none 0 0, .float .f64 0, .bool false, .bool false] 34)) :=
  ⟨h.alloc _, (Beside.refl _ _ _).alloc (Nat.le_refl _) _, heap_alloc_new _ _, Nat.le_refl _, h.lt, hT⟩
theorem Mid.start1 (h : LxAt w L s i nl out opn) (hT : Tabs L w) (j : Nat) : Mid w L s nl out opn w.heap.size j ((w.setCell ⟨L, 1, none⟩ (.int .i64 j)).alloc (.cells #[.int .i64 0, .int .i64 0, .int .i64 0, .string ⟨#[]⟩, .slice none 0 0, .float .f64 0, .bool false, .bool false] 34)) := by
  have hz : (w.setCell ⟨L, 1, none⟩ (.int .i64 j)).heap.size = w.heap.size := by simp [World.setCell]
  refine ⟨(h.set1 j).alloc _, ((Beside.refl _ _ _).setCell (.inl rfl) _).alloc (by rw [hz]; exact Nat.le_refl _) _, ?_, Nat.le_refl _, h.lt, hT⟩
  have := heap_alloc_new (w.setCell ⟨L, 1, none⟩ (.int .i64 j)) (.cells #[.int .i64 0, .int .i64 0, .int .i64 0, .string ⟨#[]⟩, .slice none 0 0, .float .f64 0, .bool false, .bool false] 34)
  rw [hz] at this
  exact this
theorem Mid.drewN (h : Mid w L s nl out opn B j W) (n : Nat) : Mid w L s nl out opn B j (W.drewN n) := ⟨h.lx.drewN n, h.bs.drewN n, h.tk, h.low, h.hL, h.hT⟩
theorem Mid.set1 (h : Mid w L s nl out opn B j W) (j' : Nat) : Mid w L s nl out opn B j' (W.setCell ⟨L, 1, none⟩ (.int .i64 j')) :=
  ⟨h.lx.set1 j', h.bs.setCell (.inl rfl) _, h.tk.set_other _ _ (by have := h.hL; have := h.low; show B ≠ L; omega), h.low, h.hL, h.hT⟩
theorem Mid.size (h : Mid w L s nl out opn B j W) : w.heap.size ≤ W.heap.size := h.bs.size
theorem Mid.on (h : Mid w L s nl out opn B j W) (hl : LxAt W' L s j' nl out opn) (hb : Beside W.heap.size L W W') : Mid w L s nl out opn B j' W' :=
  ⟨hl, h.bs.trans (hb.mono h.size), h.tk.beside hb h.tk.lt (by have := h.hL; have := h.low; omega), h.low, h.hL, h.hT⟩
theorem Mid.off (h : Mid w L s nl out opn B j W) (hb : Beside W.heap.size L W W') : Beside w.heap.size L w W' ∧ TokAt W' B 0 0 0 ⟨#[]⟩ (.slice none 0 0) 0 false false :=
  ⟨h.bs.trans (hb.mono h.size), h.tk.beside hb h.tk.lt (by have := h.hL; have := h.low; omega)⟩
theorem Mid.tabs (h : Mid w L s nl out opn B j W) : Tabs L W := h.hT.beside (h.bs.mono (Nat.le_of_lt h.hL)) (Nat.le_refl _) (Nat.le_refl _)
end
/-- A token and a verdict come back; if all is right the lexer has gone on. -/
def TokP (w : World) (L : Nat) (s : ByteArray) (nl : Bool) (out opn : Value) (i : Nat) (e : Ending) (w' : World) : Prop := ∃ v, Tok2 e v ∧ LexR w L s nl out opn i v w'
/-- What a token comes back as is kept in the result's cell. -/
theorem tok_last {w W W' : World} {L B j i : Nat} {s : ByteArray} {nl : Bool} {out opn : Value} {k a b : Int} {t : ByteArray} {p : Option Addr} {n c f : Nat} {x y : Bool} {v : Int} (hM : Mid w L s nl out opn B j W) (he : EndR W L s nl out opn j v W') (hi : i < j) (hj : j ≤ s.size) :
    TokP w L s nl out opn i (.returned (.tuple #[tokV k a b t (.slice p n c) f x y, .int .i64 v])) (tok8 W' B (.int .i64 k) (.int .i64 a) (.int .i64 b) (.string t) (.slice p n c) (.float .f64 f) (.bool x) (.bool y)) :=
  ⟨v, ⟨_, _, _, _, _, _, _, _, _, _, rfl⟩, fun hv => ⟨j, hi, hj, (he.1 hv).tok8 (by have := hM.hL; have := hM.low; omega)⟩, Beside.tok8 (hM.off he.2).1 hM.low⟩
theorem tok_bad {w W W' : World} {L B j i : Nat} {s : ByteArray} {nl : Bool} {out opn : Value} {k a b : Int} {t : ByteArray} {p : Option Addr} {n c f : Nat} {x y : Bool} {v : Int} (hM : Mid w L s nl out opn B j W) (hb : Beside W.heap.size L W W') (hv : v ≠ 1) :
    TokP w L s nl out opn i (.returned (.tuple #[tokV k a b t (.slice p n c) f x y, .int .i64 v])) (tok8 W' B (.int .i64 k) (.int .i64 a) (.int .i64 b) (.string t) (.slice p n c) (.float .f64 f) (.bool x) (.bool y)) :=
  ⟨v, ⟨_, _, _, _, _, _, _, _, _, _, rfl⟩, fun h => absurd h hv, Beside.tok8 (hM.off hb).1 hM.low⟩
set_option maxRecDepth 100000 in
set_option maxHeartbeats 2000000 in
theorem based_any (L : Nat) (s : ByteArray) (i : Nat) (b : Int) (nl : Bool) (out opn : Value) (w : World) (h : LxAt w L s i nl out opn) (hi : i + 2 ≤ s.size) (hs : s.size ≤ 1048576) (hT : Tabs L w) :
    Calls Tryz.prog 36 #[.pointer (some ⟨L, 0, none⟩), .int .i64 b] w (TokP w L s nl out opn i) := by
  have M1 := Lib.hid (Mid.start1 h hT (i + 2))
  have hL := h.lt
  have c1 := h.cell1
  have f1 := h.free 1
  clear h hT
  go_enter Tryz.func36, Tryz.ntmps36
  go_wp2_with fail
  obtain ⟨W, hW⟩ : ∃ W, (w.setCell ⟨L, 1, none⟩ (.int .i64 ((i : Int) + 2))).alloc (.cells #[.int .i64 0, .int .i64 0, .int .i64 0, .string ⟨#[]⟩, .slice none 0 0, .float .f64 0, .bool false, .bool false] 34) = W := ⟨_, rfl⟩
  rw [hW]
  have M2 : Hid (Mid w L s nl out opn w.heap.size (i + 2) W) := by rw [← hW]; exact M1.out
  clear M1 hW c1 f1
  refine (run_any L s (i + 2) b nl out opn _ M2.out.lx hi hs).mono ?_
  rintro e w1 ⟨t, ht, ⟨rfl, hj, hb⟩ | ⟨rfl, hj, hb⟩⟩
  · obtain ⟨j, h1, h2, h3⟩ := hj rfl
    have M3 := Lib.hid (M2.out.on h3 hb)
    have c1 := h3.cell1
    have f1 := h3.free 1
    have hlt := bt_lt s j
    obtain ⟨q0, hq0⟩ : ∃ x, bt s j = x := ⟨_, rfl⟩
    clear hj hb h3 M2
    by_cases hn : j + 1 ≤ s.size
    · go_wp2_with (first | (go_at_call 20; refine (ahead_any L s j 0 j 0 rfl rfl nl out opn _ M3.out.lx (by omega) (by omega)).mono ?_; rintro e w2 ⟨rfl, q, rfl⟩) | (go_at_call 54; refine (whole_any _ _ _ (by omega)).mono ?_; rintro e w' ⟨⟨x, r, rfl⟩, rfl⟩))
      · have M4 := Lib.hid ((M3.out.drewN q).set1 (j + 1))
        refine (ended_any L s (j + 1) nl out opn _ 6 0 false M4.out.lx (by omega) M4.out.tabs).mono ?_
        rintro e w3 ⟨v, ⟨k1, a1, b1, t1, p1, n1, c1, f1, x1, y1, rfl⟩, he⟩
        have HE := Lib.hid he
        have A2 := (M4.out.off he.2).2
        obtain ⟨d0, d1, d2, d3, d4, d5, d6, d7⟩ := A2.cells
        have df := A2.free
        have A3 := Lib.hid A2
        unfold tokV
        clear he A2
        go_wp2
        refine tok_ret (by rfl) (by rfl) (by rfl) (by rfl) (TokAt.set A3.out) ?_
        exact tok_last M4.out HE.out (by omega) (by omega)
      · have M4 := Lib.hid (M3.out.drewN q)
        refine (ended_any L s j nl out opn _ 5 _ _ M4.out.lx (by omega) M4.out.tabs).mono ?_
        rintro e w3 ⟨v, ⟨k1, a1, b1, t1, p1, n1, c1, f1, x1, y1, rfl⟩, he⟩
        have HE := Lib.hid he
        have A2 := (M4.out.off he.2).2
        obtain ⟨d0, d1, d2, d3, d4, d5, d6, d7⟩ := A2.cells
        have df := A2.free
        have A3 := Lib.hid A2
        unfold tokV
        clear he A2
        go_wp2
        refine tok_ret (by rfl) (by rfl) (by rfl) (by rfl) (TokAt.set A3.out) ?_
        exact tok_last M4.out HE.out (by omega) (by omega)
    · have h0 : q0 = 0 := by rw [← hq0]; exact bt_end (by omega)
      subst h0
      go_wp2_with (first | (go_at_call 20; refine (ahead_any L s j 0 j 0 rfl rfl nl out opn _ M3.out.lx (by omega) (by omega)).mono ?_; rintro e w2 ⟨rfl, q, rfl⟩) | (go_at_call 54; refine (whole_any _ _ _ (by omega)).mono ?_; rintro e w' ⟨⟨x, r, rfl⟩, rfl⟩))
      · have M4 := Lib.hid (M3.out.drewN q)
        refine (ended_any L s j nl out opn _ 5 _ _ M4.out.lx (by omega) M4.out.tabs).mono ?_
        rintro e w3 ⟨v, ⟨k1, a1, b1, t1, p1, n1, c1, f1, x1, y1, rfl⟩, he⟩
        have HE := Lib.hid he
        have A2 := (M4.out.off he.2).2
        obtain ⟨d0, d1, d2, d3, d4, d5, d6, d7⟩ := A2.cells
        have df := A2.free
        have A3 := Lib.hid A2
        unfold tokV
        clear he A2
        go_wp2
        refine tok_ret (by rfl) (by rfl) (by rfl) (by rfl) (TokAt.set A3.out) ?_
        exact tok_last M4.out HE.out (by omega) (by omega)
  · have A2 := (M2.out.off hb).2
    obtain ⟨d0, d1, d2, d3, d4, d5, d6, d7⟩ := A2.cells
    have df := A2.free
    have A3 := Lib.hid A2
    have HB := Lib.hid hb
    clear hb A2 hj
    go_wp2
    refine tok_ret (by rfl) (by rfl) (by rfl) (by rfl) (TokAt.set A3.out) ?_
    exact tok_bad M2.out HB.out (by decide)
end Go.Proofs.YthknielnhmoobaaGreatDoor
