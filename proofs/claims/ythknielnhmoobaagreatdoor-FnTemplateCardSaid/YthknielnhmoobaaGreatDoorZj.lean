/- The reference's lexer at any text: strings. -/
import Derived.Test.YthknielnhmoobaaGreatDoorZi
namespace Go.Proofs.YthknielnhmoobaaGreatDoor
open Go.RowKit Go.Lib

set_option maxHeartbeats 1000000 in
theorem escape_end (L : Nat) (s : ByteArray) (nl : Bool) (out opn : Value) (v : Value) (w : World) (h : LxAt w L s s.size nl out opn) (hT : Tabs L w) :
    Calls Tryz.prog 39 #[.pointer (some ⟨L, 0, none⟩), v] w fun e w' => e = .returned (.tuple #[.slice none 0 0, .int .i64 2]) ∧ Below w.heap.size w w' := by
  have HT := Lib.hid hT
  have H := Lib.hid h
  clear hT h
  go_enter Tryz.func39, Tryz.ntmps39
  go_wp2_with fail
  have hh := here_any L s s.size nl out opn w H.out (Nat.le_refl _) HT.out.tabs
  rw [if_neg (Nat.lt_irrefl _), rn_end (Nat.le_refl _)] at hh
  refine hh.mono ?_
  rintro e w1 ⟨rfl, hb1⟩
  clear hh
  go_wp2
  go_ret2
  exact ⟨rfl, hb1⟩
/-- What an escape hands back, at any place. -/
def EscW (L : Nat) (s : ByteArray) (nl : Bool) (out opn : Value) (base j : Nat) (u : List Nat) (w : World) (e : Ending) (w' : World) : Prop :=
  ∃ p n c v, e = .returned (.tuple #[.slice p n c, .int .i64 v]) ∧ (v = 1 → ∃ j' u', j < j' ∧ j' ≤ s.size ∧ u'.length ≤ u.length + 2 ∧ Row w' base (.slice p n c) u' ∧ LxAt w' L s j' nl out opn) ∧ Beside base L w w'
theorem escape_weak (L : Nat) (s : ByteArray) (j : Nat) (nl : Bool) (out opn : Value) (base : Nat) (v : Value) (u : List Nat) (w : World) (h : LxAt w L s j nl out opn) (hj : j ≤ s.size) (hs : s.size ≤ 1048576)
    (hown : Row w base v u) (hu : u.length ≤ 1099511627776) (hL : L < base) (hB : base ≤ w.heap.size) (hT : Tabs L w) :
    Calls Tryz.prog 39 #[.pointer (some ⟨L, 0, none⟩), v] w (EscW L s nl out opn base j u w) := by
  by_cases he : j = s.size
  · subst he
    refine (escape_end L s nl out opn v w h hT).mono ?_
    rintro e w' ⟨rfl, hb⟩
    exact ⟨none, 0, 0, 2, rfl, fun h => absurd h (by decide), .of_below (hb.mono hB)⟩
  · refine (escape_any L s j nl out opn base v u w h (by omega) (by omega) hown hu hL hB hT).mono ?_
    cases hx : escF s j with
    | right a j2 =>
      rintro e w' ⟨v', rfl, hr, hl, hb⟩
      obtain ⟨h1, h2, h3⟩ := escF_le hx
      obtain ⟨p, n, c, rfl⟩ : ∃ p n c, v' = .slice p n c := by
        rcases hr.2 with ⟨rfl, _⟩ | ⟨g, cap, cur, rfl, _⟩
        · exact ⟨_, _, _, rfl⟩
        · exact ⟨_, _, _, rfl⟩
      exact ⟨p, n, c, 1, rfl, fun _ => ⟨j2, u ++ a, h1, h2, by simp; omega, hr, hl⟩, hb⟩
    | wrong =>
      rintro e w' ⟨rfl, _, hb⟩
      exact ⟨none, 0, 0, 2, rfl, fun h => absurd h (by decide), hb⟩
    | opn =>
      rintro e w' ⟨rfl, _, hb⟩
      exact ⟨none, 0, 0, 0, rfl, fun h => absurd h (by decide), hb⟩
theorem slice_of_row {w : World} {base : Nat} {v : Value} {u : List Nat} (h : Row w base v u) : ∃ p n c, v = .slice p n c := by
  rcases h.2 with ⟨rfl, _⟩ | ⟨g, cap, cur, rfl, _⟩
  · exact ⟨_, _, _, rfl⟩
  · exact ⟨_, _, _, rfl⟩
/-- The cell of a token under way: its units. -/
theorem TokAt.set4 {w : World} {B : Nat} {k a b : Int} {t : ByteArray} {u : Value} {f : Nat} {x y : Bool} (h : TokAt w B k a b t u f x y) (u' : Value) : TokAt (w.setCell ⟨B, 4, none⟩ u') B k a b t u' f x y := by
  unfold TokAt tokC at h
  exact set_cells h 4 u'
theorem Mid.on2 {w W W' : World} {L B C j j' : Nat} {s : ByteArray} {nl : Bool} {out opn : Value} (h : Mid w L s nl out opn B j W) (hl : LxAt W' L s j' nl out opn) (hb : Beside C L W W') (hC : w.heap.size ≤ C) (hB : B < C) : Mid w L s nl out opn B j' W' :=
  ⟨hl, h.bs.trans (hb.mono hC), h.tk.beside hb hB (by have := h.hL; have := h.low; omega), h.low, h.hL, h.hT⟩
theorem tok_good {w W : World} {L B j i : Nat} {s : ByteArray} {nl : Bool} {out opn : Value} {k a b : Int} {t : ByteArray} {p : Option Addr} {n c f : Nat} {x y : Bool} (hM : Mid w L s nl out opn B j W) (hi : i < j) (hj : j ≤ s.size) :
    TokP w L s nl out opn i (.returned (.tuple #[tokV k a b t (.slice p n c) f x y, .int .i64 1])) (tok8 W B (.int .i64 k) (.int .i64 a) (.int .i64 b) (.string t) (.slice p n c) (.float .f64 f) (.bool x) (.bool y)) :=
  ⟨1, ⟨_, _, _, _, _, _, _, _, _, _, rfl⟩, fun _ => ⟨j, hi, hj, hM.lx.tok8 (by have := hM.hL; have := hM.low; omega)⟩, Beside.tok8 hM.bs hM.low⟩
theorem tok_bad2 {w W : World} {L B i : Nat} {s : ByteArray} {nl : Bool} {out opn : Value} {k a b : Int} {t : ByteArray} {p : Option Addr} {n c f : Nat} {x y : Bool} {v : Int} (hb : Beside w.heap.size L w W) (hB : w.heap.size ≤ B) (hv : v ≠ 1) :
    TokP w L s nl out opn i (.returned (.tuple #[tokV k a b t (.slice p n c) f x y, .int .i64 v])) (tok8 W B (.int .i64 k) (.int .i64 a) (.int .i64 b) (.string t) (.slice p n c) (.float .f64 f) (.bool x) (.bool y)) :=
  ⟨v, ⟨_, _, _, _, _, _, _, _, _, _, rfl⟩, fun h => absurd h hv, Beside.tok8 hb hB⟩
set_option maxRecDepth 100000 in
set_option maxHeartbeats 4000000 in
theorem quotedT_any (L : Nat) (s : ByteArray) (i q : Nat) (nl : Bool) (out opn : Value) (w : World) (h : LxAt w L s i nl out opn) (hi : i < s.size) (hs : s.size ≤ 1048576) (hT : Tabs L w) (hq : q < 256) :
    Calls Tryz.prog 25 #[.pointer (some ⟨L, 0, none⟩), .int .u8 (q : Int)] w (TokP w L s nl out opn i) := by
  have M0 := Lib.hid (Mid.start1 h hT (i + 1))
  have hL := h.lt
  have c1 := h.cell1
  have f1 := h.free 1
  clear h hT
  have hq' : (q : Int) ≤ 255 := by omega
  go_enter Tryz.func25, Tryz.ntmps25
  go_wp2_with fail
  obtain ⟨W0, hW0⟩ : ∃ W0, (w.setCell ⟨L, 1, none⟩ (.int .i64 ((i : Int) + 1))).alloc (.cells #[.int .i64 0, .int .i64 0, .int .i64 0, .string ⟨#[]⟩, .slice none 0 0, .float .f64 0, .bool false, .bool false] 34) = W0 := ⟨_, rfl⟩
  have z0 : W0.heap.size = w.heap.size + 1 := by rw [← hW0]; simp [World.setCell]
  have M1 : Mid w L s nl out opn w.heap.size (i + 1) W0 := by rw [← hW0]; exact M0.out
  obtain ⟨W, hW⟩ : ∃ W, W0.alloc (.cells #[.int .i64 7, .int .i64 0, .int .i64 0, .string ⟨#[]⟩, .slice none 0 0, .float .f64 0, .bool false, .bool false] 34) = W := ⟨_, rfl⟩
  have z1 : W.heap.size = w.heap.size + 2 := by rw [← hW]; simp [z0]
  have T1 : Hid (TokAt W (w.heap.size + 1) 7 0 0 ⟨#[]⟩ (.slice none 0 0) 0 false false) := by rw [← z0, ← hW]; exact heap_alloc_new _ _
  have M2 : Hid (Mid w L s nl out opn w.heap.size (i + 1) W) := by rw [← hW]; exact M1.on (M1.lx.alloc _) ((Beside.refl _ _ _).alloc (Nat.le_refl _) _)
  rw [hW0, hW]
  clear M0 M1 hW hW0 c1 f1
  go_loopw [] (fun wr => ∃ (j : Nat) (v : Value) (u : List Nat), i < j ∧ j ≤ s.size ∧ u.length ≤ 2 * j ∧ Mid w L s nl out opn w.heap.size j wr ∧ TokAt wr (w.heap.size + 1) 7 0 0 ⟨#[]⟩ v 0 false false ∧ Row wr (w.heap.size + 2) v u ∧ w.heap.size + 2 ≤ wr.heap.size) (fun wr => s.size - posOf wr L)
  case atStart => exact ⟨i + 1, _, [], by omega, by omega, Nat.zero_le _, M2.out, T1.out, World.ownsRow_nil _ _ _ _, by omega⟩
  case round =>
    obtain ⟨j, v, u, hij, hj, hu, hM, hT, hR, hz⟩ := hrel
    have MR := Lib.hid hM
    have TR := Lib.hid hT
    have RR := Lib.hid hR
    have P0 := Lib.hid hM.lx.posOf
    clear hM hT hR M2 T1
    obtain ⟨p, n0, c0, rfl⟩ := slice_of_row RR.out
    go_wp2_with fail
    refine (here_weak MR.out.lx hj MR.out.tabs).mono ?_
    rintro e w1 ⟨c, n, rfl, hc, hn, hn0, hx1, hb1⟩
    have M1 := Lib.hid (MR.out.on hx1 (.of_below hb1))
    have T1 := Lib.hid (TR.out.below hb1 (by omega))
    have R1 : Hid (Row w1 (w.heap.size + 2) (.slice p n0 c0) u) := RR.out.beside (.of_below (B := wr.heap.size) (L := L) hb1) (Nat.le_refl _) (by omega)
    have hz1 : w.heap.size + 2 ≤ w1.heap.size := by have := hb1.size; omega
    have c1 := hx1.cell1
    have f1 := hx1.free 1
    obtain ⟨e0, e1, e2, e3, e4, e5, e6, e7⟩ := T1.out.cells
    have ef := T1.out.free
    have A1 := M1.out.tk
    obtain ⟨d0, d1, d2, d3, d4, d5, d6, d7⟩ := A1.cells
    have df := A1.free
    have A3 := Lib.hid A1
    have HN0 := Lib.hid hn0
    clear hx1 hb1 hn0 A1 MR TR RR
    by_cases hnz : n = 0
    · subst hnz
      go_wp2
      refine tok_ret (by rfl) (by rfl) (by rfl) (by rfl) (TokAt.set A3.out) ?_
      exact tok_bad M1.out (Beside.refl _ _ _) (by decide)
    · have g0 : ((n : Int) == 0) = false := by simpa using (by omega : ¬ (n : Int) = 0)
      have M2 := Lib.hid (M1.out.set1 (j + n))
      have T2 := Lib.hid (T1.out.set_other ⟨L, 1, none⟩ (.int .i64 ((j + n : Nat) : Int)) (by show w.heap.size + 1 ≠ L; omega))
      have R2 := Lib.hid (Row.set_below R1.out (a := ⟨L, 1, none⟩) (by show L < w.heap.size + 2; omega) (.int .i64 ((j + n : Nat) : Int)))
      have hz2 : (w1.setCell ⟨L, 1, none⟩ (.int .i64 ((j + n : Nat) : Int))).heap.size = w1.heap.size := by simp [World.setCell]
      by_cases h92 : c = 92
      · subst h92
        by_cases hq92 : q = 92
        · subst hq92
          clear hz2
          go_wp2
          refine tok_ret (by rfl) (by rfl) (by rfl) (by rfl) (TokAt.set M2.out.tk) ?_
          exact tok_good M2.out (by omega) hn
        · have g1 : ((92 : Int) == (q : Int)) = false := by simpa using (by omega : ¬ (92 : Int) = (q : Int))
          have HZ2 := Lib.hid hz2
          clear hz2
          go_wp2_with fail
          refine (escape_weak L s (j + n) nl out opn (w.heap.size + 2) _ u _ M2.out.lx hn hs R2.out (by omega) (by omega) (by rw [HZ2.out]; exact hz1) M2.out.tabs).mono ?_
          rintro e w3 ⟨p3, n3, c3, v3, rfl, hr, hb⟩
          have T3 := T2.out.beside hb (by omega) (by omega)
          have A4 := M2.out.tk.beside hb (by omega) (by omega)
          obtain ⟨e0, e1, e2, e3, e4, e5, e6, e7⟩ := T3.cells
          have ef := T3.free
          obtain ⟨d0, d1, d2, d3, d4, d5, d6, d7⟩ := A4.cells
          have df := A4.free
          have T4 := Lib.hid T3
          have A5 := Lib.hid A4
          have HR := Lib.hid hr
          have HB := Lib.hid hb
          have hz3 : w.heap.size + 2 ≤ w3.heap.size := by have := hb.size; rw [HZ2.out] at this; omega
          have hne : w.heap.size ≠ w.heap.size + 1 := by omega
          clear T3 A4 hr hb
          by_cases hv : v3 = 1
          · subst hv
            obtain ⟨j4, u4, h1, h2, h3, h4, h5⟩ := HR.out rfl
            have H4 := Lib.hid h4
            have H5 := Lib.hid h5
            clear h4 h5 HR
            go_wp2
            refine ⟨⟨j4, _, u4, by omega, h2, by omega, (M2.out.on2 H5.out HB.out (by omega) (by omega)).set_other _ _ (by show w.heap.size ≤ w.heap.size + 1; omega) hne, T4.out.set4 _, Row.set_below H4.out (by show w.heap.size + 1 < w.heap.size + 2; omega) _, by simp [World.setCell]; omega⟩, ?_⟩
            exact meas P0.out (H5.out.set_other _ _ (by show L ≠ w.heap.size + 1; omega)).posOf (by omega) h2
          · have g3 : (v3 != 1) = true := by simpa using hv
            go_wp2
            refine tok_ret (by rfl) (by rfl) (by rfl) (by rfl) (TokAt.set (A5.out.set_other _ _ hne)) ?_
            exact tok_bad2 ((M2.out.bs.trans (HB.out.mono (by omega))).setCell (.inr (by show w.heap.size ≤ w.heap.size + 1; omega)) _) (Nat.le_refl _) hv
      · have g2 : ((c : Int) != 92) = true := by simpa using (by omega : ¬ (c : Int) = 92)
        have HZ2 := Lib.hid hz2
        clear hz2
        by_cases h10 : c = 10 ∨ c = 13
        · have g10 : ((c : Int) == 10) = true ∨ (((c : Int) == 10) = false ∧ ((c : Int) == 13) = true) := by
            rcases h10 with rfl | rfl
            · exact .inl rfl
            · exact .inr ⟨rfl, rfl⟩
          clear h10
          rcases g10 with g10 | ⟨g10, g13⟩
          all_goals
            go_wp2
            refine tok_ret (by rfl) (by rfl) (by rfl) (by rfl) (TokAt.set A3.out) ?_
            exact tok_bad M1.out (Beside.refl _ _ _) (by decide)
        · have g10 : ((c : Int) == 10) = false := by simpa using (by omega : ¬ (c : Int) = 10)
          have g13 : ((c : Int) == 13) = false := by simpa using (by omega : ¬ (c : Int) = 13)
          by_cases hcq : c = q
          · subst hcq
            clear h10
            go_wp2
            refine tok_ret (by rfl) (by rfl) (by rfl) (by rfl) (TokAt.set M2.out.tk) ?_
            exact tok_good M2.out (by omega) hn
          · have g4 : ((c : Int) == (q : Int)) = false := by simpa using (by omega : ¬ (c : Int) = (q : Int))
            clear h10
            go_wp2_with fail
            refine (units_any (w.heap.size + 2) _ u c _ R2.out hc (by omega) (by rw [HZ2.out]; exact hz1)).mono ?_
            rintro e w3 ⟨v3, rfl, hr, hb⟩
            have hbs : Beside (w.heap.size + 2) L _ w3 := .of_below hb
            have T3 := T2.out.beside hbs (by omega) (by omega)
            obtain ⟨e0, e1, e2, e3, e4, e5, e6, e7⟩ := T3.cells
            have ef := T3.free
            have T4 := Lib.hid T3
            have HR := Lib.hid hr
            have HB := Lib.hid hbs
            have H5 := Lib.hid (M2.out.lx.below hb (by omega))
            have hz3 : w.heap.size + 2 ≤ w3.heap.size := by have := hb.size; rw [HZ2.out] at this; omega
            have hne : w.heap.size ≠ w.heap.size + 1 := by omega
            have hul := unitsOf_len c
            obtain ⟨p3, n3, c3, rfl⟩ := slice_of_row hr
            clear T3 hr hbs hb
            go_wp2
            refine ⟨⟨j + n, _, u ++ unitsOf c, by omega, hn, by simp; omega, (M2.out.on2 H5.out HB.out (by omega) (by omega)).set_other _ _ (by show w.heap.size ≤ w.heap.size + 1; omega) hne, T4.out.set4 _, Row.set_below HR.out (by show w.heap.size + 1 < w.heap.size + 2; omega) _, by simp [World.setCell]; omega⟩, ?_⟩
            exact meas P0.out (H5.out.set_other _ _ (by show L ≠ w.heap.size + 1; omega)).posOf (by omega) hn
end Go.Proofs.YthknielnhmoobaaGreatDoor
