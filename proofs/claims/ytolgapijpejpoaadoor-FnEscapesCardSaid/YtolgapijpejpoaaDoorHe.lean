/- Go's ZZEscapes, where the text is right. -/
import Derived.Test.YtolgapijpejpoaaDoorHd
import Derived.Test.YtolgapijpejpoaaDoorTq
namespace Go.Proofs.YtolgapijpejpoaaDoor
open Go.RowKit Go.Lib Go.MuLone

theorem below_drew {w w' : World} (h : Below w.drew.heap.size w.drew w') : Below w.heap.size w w' := ⟨h.os, h.tape, h.output, h.size, h.block⟩
theorem Row.slice {w : World} {base : Nat} {v : Value} {xs : List Nat} (h : Row w base v xs) (hn : v ≠ .slice none 0 0) : ∃ g cap, v = .slice (some ⟨g, 0, none⟩) xs.length cap ∧ base ≤ g ∧ g < w.heap.size := by
  rcases h.2 with ⟨e, _⟩ | ⟨g, cap, cur, e, hb, hg, _⟩
  · exact absurd e hn
  · exact ⟨g, cap, e, hb, (Array.getElem?_eq_some_iff.1 hg).1⟩
def ClosePost (a2 a3 a4 : Nat) (r : List Nat) (w : World) (w' : World) : Prop :=
  ∃ v w1, v ≠ .slice none 0 0 ∧ Row w1 w.heap.size v r ∧ Below w.heap.size w w1 ∧ w' = ((w1.setCell ⟨a2, 0, none⟩ v).setCell ⟨a3, 0, none⟩ (.bool true)).setCell ⟨a4, 0, none⟩ (.int .i64 0)
theorem close_right {X : Nat} {s : ByteArray} {w : World} {B : Nat} {r : List Nat} (e : TEnv X 0 s w B) (ht : tteF s (s.size + 1) 0 [] = .right r) (a5 a1 a2 a3 a4 : Nat)
    (c5 : w.cell? ⟨a5, 0, none⟩ = some (.pointer (some ⟨X, 0, none⟩))) (c1 : w.cell? ⟨a1, 0, none⟩ = some (.string s)) (c2 : w.cell? ⟨a2, 0, none⟩ = some (.slice none 0 0)) (c3 : w.cell? ⟨a3, 0, none⟩ = some (.bool false)) (c4 : w.cell? ⟨a4, 0, none⟩ = some (.int .i64 0))
    (f2 : w.frozen? ⟨a2, 0, none⟩ = false) (f3 : w.frozen? ⟨a3, 0, none⟩ = false) (f4 : w.frozen? ⟨a4, 0, none⟩ = false) (h23 : a2 ≠ a3) (h24 : a2 ≠ a4) (h34 : a3 ≠ a4) :
    Calls Tryd.prog 28 #[.pointer (some ⟨a5, 0, none⟩), .pointer (some ⟨a1, 0, none⟩), .pointer (some ⟨a2, 0, none⟩), .pointer (some ⟨a3, 0, none⟩), .pointer (some ⟨a4, 0, none⟩)] w fun e w' => e = .returned (.tuple #[]) ∧ ClosePost a2 a3 a4 r w w' := by
  have ht' := tte_right (rep := true) e ht
  have HH := Lib.hid ht'
  clear ht' e ht
  have k2 := World.block_lt_of_cell? w _ c2
  have k3 := World.block_lt_of_cell? w _ c3
  have k4 := World.block_lt_of_cell? w _ c4
  go_enter Tryd.func28, Tryd.ntmps28
  go_wp2_with fail
  refine HH.out.mono ?_
  rintro e w1 ⟨v, rfl, hn, hrow, hb⟩
  obtain ⟨g, cap, hv, _, _⟩ := hrow.slice hn
  have HR := Lib.hid hrow
  have HB := Lib.hid hb
  have d2 := (hb.cell k2).trans c2
  have d3 := (hb.cell k3).trans c3
  have d4 := (hb.cell k4).trans c4
  have g2 : w1.frozen? ⟨a2, 0, none⟩ = false := (World.frozen?_of_block (hb.block a2 k2)).trans f2
  have g3 : w1.frozen? ⟨a3, 0, none⟩ = false := (World.frozen?_of_block (hb.block a3 k3)).trans f3
  have g4 : w1.frozen? ⟨a4, 0, none⟩ = false := (World.frozen?_of_block (hb.block a4 k4)).trans f4
  clear hrow hb
  subst hv
  go_wp2
  go_end0
  exact ⟨rfl, _, w1, hn, HR.out, HB.out, rfl⟩
/-- The four variables of ZZEscapes. -/
structure FourAt (w : World) (N : Nat) (s : ByteArray) : Prop where
  a : w.heap[N]? = some (.cells #[.string s] 9 (0, 0))
  b : w.heap[N + 1]? = some (.cells #[.slice none 0 0] 23 (0, 0))
  c : w.heap[N + 2]? = some (.cells #[.bool false] 4 (0, 0))
  d : w.heap[N + 3]? = some (.cells #[.int .i64 0] 3 (0, 0))
theorem four_world (w : World) (s : ByteArray) : let W := (((w.alloc (.cells #[.string s] 9)).alloc (.cells #[.slice none 0 0] 23)).alloc (.cells #[.bool false] 4)).alloc (.cells #[.int .i64 0] 3)
    FourAt W w.heap.size s ∧ Below w.heap.size w W ∧ W.heap.size = w.heap.size + 4 := by
  intro W
  obtain ⟨w1, h1⟩ : ∃ w1, w.alloc (.cells #[.string s] 9) = w1 := ⟨_, rfl⟩
  obtain ⟨w2, h2⟩ : ∃ w2, w1.alloc (.cells #[.slice none 0 0] 23) = w2 := ⟨_, rfl⟩
  obtain ⟨w3, h3⟩ : ∃ w3, w2.alloc (.cells #[.bool false] 4) = w3 := ⟨_, rfl⟩
  have hW : W = w3.alloc (.cells #[.int .i64 0] 3) := by show World.alloc (World.alloc (World.alloc (World.alloc w _) _) _) _ = _; rw [h1, h2, h3]
  have z1 : w1.heap.size = w.heap.size + 1 := by rw [← h1]; simp
  have z2 : w2.heap.size = w.heap.size + 2 := by rw [← h2]; simp [z1]
  have z3 : w3.heap.size = w.heap.size + 3 := by rw [← h3]; simp [z2]
  have n1 : w1.heap[w.heap.size]? = some (.cells #[.string s] 9 (0, 0)) := by rw [← h1]; exact heap_alloc_new _ _
  have n2 : w2.heap[w.heap.size + 1]? = some (.cells #[.slice none 0 0] 23 (0, 0)) := by rw [← h2, ← z1]; exact heap_alloc_new _ _
  have n3 : w3.heap[w.heap.size + 2]? = some (.cells #[.bool false] 4 (0, 0)) := by rw [← h3, ← z2]; exact heap_alloc_new _ _
  have n4 : W.heap[w.heap.size + 3]? = some (.cells #[.int .i64 0] 3 (0, 0)) := by rw [hW, ← z3]; exact heap_alloc_new _ _
  have k1 : ∀ k, k < w1.heap.size → w2.heap[k]? = w1.heap[k]? := fun k hk => by rw [← h2]; exact Below.heap_alloc _ _ _ hk
  have k2 : ∀ k, k < w2.heap.size → w3.heap[k]? = w2.heap[k]? := fun k hk => by rw [← h3]; exact Below.heap_alloc _ _ _ hk
  have k3 : ∀ k, k < w3.heap.size → W.heap[k]? = w3.heap[k]? := fun k hk => by rw [hW]; exact Below.heap_alloc _ _ _ hk
  refine ⟨⟨?_, ?_, ?_, n4⟩, ?_, ?_⟩
  · rw [k3 _ (by omega), k2 _ (by omega), k1 _ (by omega), n1]
  · rw [k3 _ (by omega), k2 _ (by omega), n2]
  · rw [k3 _ (by omega), n3]
  · have b1 : Below w.heap.size w w1 := by rw [← h1]; exact (Below.refl _ _).alloc (Nat.le_refl _) _
    have b2 : Below w.heap.size w w2 := by rw [← h2]; exact b1.alloc (by omega) _
    have b3 : Below w.heap.size w w3 := by rw [← h3]; exact b2.alloc (by omega) _
    rw [hW]; exact b3.alloc (by omega) _
  · rw [hW]; simp [z3]
theorem blk_set {w : World} {b : Nat} {c : Array Value} {t : TypeId} (h : w.heap[b]? = some (.cells c t (0, 0))) (k : Nat) (v : Value) : (w.setCell ⟨b, k, none⟩ v).heap[b]? = some (.cells (c.setIfInBounds k v) t (0, 0)) := by
  simp [World.setCell, Array.getElem?_modify, h]
/-- Behind the closure: the three results laid, all else as it was. -/
theorem close_world {W8 w9 : World} {N R : Nat} {s : ByteArray} {r : List Nat} (F : FourAt W8 N s) (hR : N + 3 < R) (hR2 : R < W8.heap.size) (h : ∃ w1, ClosePost (N + 1) (N + 1 + 1) (N + 1 + 1 + 1) r W8 w1 ∧ w9 = w1.setCell ⟨R, 0, none⟩ (.bool true)) :
    ∃ g cap, Row w9 W8.heap.size (.slice (some ⟨g, 0, none⟩) r.length cap) r ∧ W8.heap.size ≤ g ∧ w9.heap[N + 1]? = some (.cells #[.slice (some ⟨g, 0, none⟩) r.length cap] 23 (0, 0)) ∧ w9.heap[N + 2]? = some (.cells #[.bool true] 4 (0, 0)) ∧ w9.heap[N + 3]? = some (.cells #[.int .i64 0] 3 (0, 0)) ∧
      (∀ k, k < W8.heap.size → k ≠ N + 1 → k ≠ N + 2 → k ≠ N + 3 → k ≠ R → w9.heap[k]? = W8.heap[k]?) ∧ Below N W8 w9 := by
  obtain ⟨w10, ⟨v, w1, hn, hrow, hb, rfl⟩, rfl⟩ := h
  obtain ⟨g, cap, rfl, hg, _⟩ := hrow.slice hn
  have n1 := (hb.block (N + 1) (by omega)).trans F.b
  have n2 := (hb.block (N + 2) (by omega)).trans F.c
  have n3 := (hb.block (N + 3) (by omega)).trans F.d
  have m1 := blk_set n1 0 (.slice (some ⟨g, 0, none⟩) r.length cap)
  have m2 := blk_set ((Below.heap_setCell w1 ⟨N + 1, 0, none⟩ (.slice (some ⟨g, 0, none⟩) r.length cap) (N + 2) (by show N + 2 ≠ N + 1; omega)).trans n2) 0 (.bool true)
  have m3 := blk_set ((Below.heap_setCell (w1.setCell ⟨N + 1, 0, none⟩ (.slice (some ⟨g, 0, none⟩) r.length cap)) ⟨N + 2, 0, none⟩ (.bool true) (N + 3) (by show N + 3 ≠ N + 2; omega)).trans ((Below.heap_setCell w1 ⟨N + 1, 0, none⟩ (.slice (some ⟨g, 0, none⟩) r.length cap) (N + 3) (by show N + 3 ≠ N + 1; omega)).trans n3)) 0 (.int .i64 0)
  refine ⟨g, cap, ?_, hg, ?_, ?_, ?_, fun k hk k1 k2 k3 k4 => ?_, ?_⟩
  · exact (((hrow.set_below (by show N + 1 < _; omega) _).set_below (by show N + 2 < _; omega) _).set_below (by show N + 3 < _; omega) _).set_below (by show R < _; omega) _
  · rw [Below.heap_setCell _ _ _ _ (by show N + 1 ≠ R; omega), Below.heap_setCell _ _ _ _ (by show N + 1 ≠ N + 3; omega), Below.heap_setCell _ _ _ _ (by show N + 1 ≠ N + 2; omega)]
    exact m1
  · rw [Below.heap_setCell _ _ _ _ (by show N + 2 ≠ R; omega), Below.heap_setCell _ _ _ _ (by show N + 2 ≠ N + 3; omega)]
    exact m2
  · rw [Below.heap_setCell _ _ _ _ (by show N + 3 ≠ R; omega)]
    exact m3
  · rw [Below.heap_setCell _ _ _ _ (by show k ≠ R; omega), Below.heap_setCell _ _ _ _ (by show k ≠ N + 3; omega), Below.heap_setCell _ _ _ _ (by show k ≠ N + 2; omega), Below.heap_setCell _ _ _ _ (by show k ≠ N + 1; omega)]
    exact hb.block k hk
  · exact ((((hb.mono (by omega)).setCell (by show N ≤ N + 1; omega) _).setCell (by show N ≤ N + 2; omega) _).setCell (by show N ≤ N + 3; omega) _).setCell (by show N ≤ R; omega) _
@[reducible] def ESt (N P M H : Nat) (v : Value) (w' : World) : Prop := w'.cell? ⟨N + 1, 0, none⟩ = some v ∧ w'.cell? ⟨N + 1 + 1, 0, none⟩ = some (.bool true) ∧ w'.cell? ⟨N + 1 + 1 + 1, 0, none⟩ = some (.int .i64 0) ∧
      w'.cell? ⟨P + 1, 1, none⟩ = some (.func (.func 43) #[] #[.pointer (some ⟨M, 0, none⟩), .pointer (some ⟨H, 0, none⟩)])
theorem est1 {N P M H : Nat} {v : Value} {w' : World} (hP : N + 3 < P + 1) (h : ESt N P M H v w') : ESt N P M H v (w'.setCell ⟨N + 1, 0, none⟩ v) :=
  ⟨World.cell?_setCell_same _ _ _ h.1, (World.cell?_setCell_other _ _ _ _ (by simp)).trans h.2.1, (World.cell?_setCell_other _ _ _ _ (by simp)).trans h.2.2.1, (World.cell?_setCell_other _ _ _ _ (by simp)).trans h.2.2.2⟩
theorem est2 {N P M H : Nat} {v : Value} {w' : World} (hP : N + 3 < P + 1) (h : ESt N P M H v w') : ESt N P M H v (w'.setCell ⟨N + 1 + 1, 0, none⟩ (.bool true)) :=
  ⟨(World.cell?_setCell_other _ _ _ _ (by simp)).trans h.1, World.cell?_setCell_same _ _ _ h.2.1, (World.cell?_setCell_other _ _ _ _ (by simp)).trans h.2.2.1, (World.cell?_setCell_other _ _ _ _ (by simp)).trans h.2.2.2⟩
theorem est3 {N P M H : Nat} {v : Value} {w' : World} (hP : N + 3 < P + 1) (h : ESt N P M H v w') : ESt N P M H v (w'.setCell ⟨N + 1 + 1 + 1, 0, none⟩ (.int .i64 0)) :=
  ⟨(World.cell?_setCell_other _ _ _ _ (by simp)).trans h.1, (World.cell?_setCell_other _ _ _ _ (by simp)).trans h.2.1, World.cell?_setCell_same _ _ _ h.2.2.1, (World.cell?_setCell_other _ _ _ _ (by simp)).trans h.2.2.2⟩
theorem zz_fin {w w9 w10 : World} {B9 N : Nat} {v : Value} {r : List Nat} (h : Row w9 B9 v r) (hB : B9 ≤ w9.heap.size) (hN : N + 3 < B9) (hw : w.heap.size = N) (hb : Below N w w9) (hc : Below w9.heap.size w9 w10) (x1 x2 x3 : Value) :
    Row (((w10.setCell ⟨N + 1, 0, none⟩ x1).setCell ⟨N + 1 + 1, 0, none⟩ x2).setCell ⟨N + 1 + 1 + 1, 0, none⟩ x3) N v r ∧ Below N w (((w10.setCell ⟨N + 1, 0, none⟩ x1).setCell ⟨N + 1 + 1, 0, none⟩ x2).setCell ⟨N + 1 + 1 + 1, 0, none⟩ x3) := by
  have h1 := h.below hc (Nat.le_refl _)
  have h2 := h1.set_below (a := ⟨N + 1, 0, none⟩) (by show N + 1 < B9; omega) x1
  have h3 := h2.set_below (a := ⟨N + 1 + 1, 0, none⟩) (by show N + 1 + 1 < B9; omega) x2
  have h4 := h3.set_below (a := ⟨N + 1 + 1 + 1, 0, none⟩) (by show N + 1 + 1 + 1 < B9; omega) x3
  have b1 := (hb.trans (hc.mono (by omega))).setCell (p := ⟨N + 1, 0, none⟩) (by show N ≤ N + 1; omega) x1
  have b2 := b1.setCell (p := ⟨N + 1 + 1, 0, none⟩) (by show N ≤ N + 1 + 1; omega) x2
  exact ⟨h4.mono (by omega), b2.setCell (p := ⟨N + 1 + 1 + 1, 0, none⟩) (by show N ≤ N + 1 + 1 + 1; omega) x3⟩
set_option maxRecDepth 100000 in
set_option maxHeartbeats 2000000 in
theorem zzEsc_right (s : ByteArray) (w : World) (B : Nat) (r : List Nat) (hT : Tabs B w) (hB : B ≤ w.heap.size) (hs : s.size ≤ 1099511627776) (ht : tteF s (s.size + 1) 0 [] = .right r) :
    Calls Tryd.prog 17 #[.string s] w fun e w' => ∃ v, e = .returned (.tuple #[v, .bool true, .int .i64 0]) ∧ Row w' w.heap.size v r ∧ Below w.heap.size w w' := by
  have HT := Lib.hid hT
  have HF := Lib.hid ht
  have hmf := hmf0
  clear hT ht
  go_enter Tryd.func17, Tryd.ntmps17
  go_wp2_with fail
  obtain ⟨F4, B4, z4⟩ := four_world w s
  obtain ⟨W4, hW4⟩ : ∃ W4, (((w.alloc (.cells #[.string s] 9)).alloc (.cells #[.slice none 0 0] 23)).alloc (.cells #[.bool false] 4)).alloc (.cells #[.int .i64 0] 3) = W4 := ⟨_, rfl⟩
  rw [hW4] at F4 B4 z4 ⊢
  have HF4 := Lib.hid F4
  have HB4 := Lib.hid B4
  have T4 : Hid (Tabs B W4) := HT.out.below B4 hB
  clear hW4 F4 B4
  refine (zzLexer_any s W4 B T4.out (by omega) (by omega)).mono ?_
  rintro e w5 ⟨X, K, S, M, H, cs, rfl, G5, C5, L5, o0, o1, o2, o3, o4, B5⟩
  have HG5 := Lib.hid G5
  have HC5 := Lib.hid C5
  have HL5 := Lib.hid L5
  have HB5 := Lib.hid B5
  have z5 := B5.size
  have x5 := G5.lt
  clear G5 C5 L5 B5
  unfold logV
  go_wp2_with fail
  obtain ⟨w6, hw6⟩ : ∃ w6, w5.alloc (.cells #[.pointer (some ⟨X, 0, none⟩)] 61) = w6 := ⟨_, rfl⟩
  obtain ⟨W7, hW7⟩ : ∃ W7, w6.alloc (.cells (logV K S M H 3) 69) = W7 := ⟨_, rfl⟩
  have z6 : w6.heap.size = w5.heap.size + 1 := by rw [← hw6]; simp
  have z7 : W7.heap.size = w5.heap.size + 2 := by rw [← hW7]; simp [z6]
  have b7 : Below w5.heap.size w5 W7 := by rw [← hW7, ← hw6]; exact ((Below.refl _ _).alloc (Nat.le_refl _) _).alloc (by simp) _
  have P7 : W7.heap[w5.heap.size]? = some (.cells #[.pointer (some ⟨X, 0, none⟩)] 61 (0, 0)) := by rw [← hW7, Below.heap_alloc _ _ _ (by omega), ← hw6]; exact heap_alloc_new _ _
  have Q7 : W7.heap[w5.heap.size + 1]? = some (.cells (logV K S M H 3) 69 (0, 0)) := by rw [← hW7, ← z6]; exact heap_alloc_new _ _
  have k7 : ∀ k, k < W4.heap.size → W7.heap[k]? = W4.heap[k]? := fun k hk => (b7.block k (by omega)).trans (HB5.out.block k hk)
  have F7 : FourAt W7 w.heap.size s := ⟨(k7 _ (by omega)).trans HF4.out.a, (k7 _ (by omega)).trans HF4.out.b, (k7 _ (by omega)).trans HF4.out.c, (k7 _ (by omega)).trans HF4.out.d⟩
  have G7 : GoLex W7 X cs := HG5.out.below b7 x5
  have L7 : LogAt W7 K S M H := HL5.out.below b7 (Nat.le_refl _)
  have B7 : Hid (Below w.heap.size w W7) := HB4.out.trans ((HB5.out.mono (by omega)).trans (b7.mono (by omega)))
  unfold logV at hW7
  rw [hw6, hW7]
  clear hw6 hW7 HG5 HL5 HB5 HF4 HB4 b7 k7
  obtain ⟨W8, hW8⟩ : ∃ W8, W7.alloc (.cells #[.bool false] 4) = W8 := ⟨_, rfl⟩
  have z8 : W8.heap.size = w5.heap.size + 3 := by rw [← hW8]; simp [z7]
  have b8 : Below W7.heap.size W7 W8 := by rw [← hW8]; exact (Below.refl _ _).alloc (Nat.le_refl _) _
  have R8 : W8.heap[W7.heap.size]? = some (.cells #[.bool false] 4 (0, 0)) := by rw [← hW8]; exact heap_alloc_new _ _
  have k8 : ∀ k, k < W7.heap.size → W8.heap[k]? = W7.heap[k]? := fun k hk => b8.block k hk
  have F8 : FourAt W8 w.heap.size s := ⟨(k8 _ (by omega)).trans F7.a, (k8 _ (by omega)).trans F7.b, (k8 _ (by omega)).trans F7.c, (k8 _ (by omega)).trans F7.d⟩
  have G8 : GoLex W8 X cs := G7.below b8 (by omega)
  have B8 : Below w.heap.size w W8 := B7.out.trans (b8.mono (by omega))
  have P8 : W8.heap[w5.heap.size]? = some (.cells #[.pointer (some ⟨X, 0, none⟩)] 61 (0, 0)) := (k8 _ (by omega)).trans P7
  have E8 : TEnv X 0 s W8 B := ⟨HT.out.below B8 hB, by omega, hs, by omega, G8.cell ((HC5.out 68 (by omega) (by omega) (by omega) (by omega)).trans (lexV_68 _ _ _ _ _)), by omega⟩
  have hc := close_right E8 HF.out w5.heap.size w.heap.size (w.heap.size + 1) (w.heap.size + 1 + 1) (w.heap.size + 1 + 1 + 1) ((cells_of_block P8 0).1) ((cells_of_block F8.a 0).1) ((cells_of_block F8.b 0).1) ((cells_of_block F8.c 0).1) ((cells_of_block F8.d 0).1)
    ((cells_of_block F8.b 0).2) ((cells_of_block F8.c 0).2) ((cells_of_block F8.d 0).2) (by omega) (by omega) (by omega)
  rw [← hW8] at hc
  refine (runs_ok _ W7 (ClosePost (w.heap.size + 1) (w.heap.size + 1 + 1) (w.heap.size + 1 + 1 + 1) r (W7.alloc (.cells #[.bool false] 4))) hc ?_).mono ?_
  · rw [hW8]
    rintro w' ⟨v, w1, _, _, hb, rfl⟩
    rw [Below.heap_setCell _ _ _ _ (by show W7.heap.size ≠ w.heap.size + 1 + 1 + 1; omega), Below.heap_setCell _ _ _ _ (by show W7.heap.size ≠ w.heap.size + 1 + 1; omega), Below.heap_setCell _ _ _ _ (by show W7.heap.size ≠ w.heap.size + 1; omega)]
    exact (hb.block _ (by omega)).trans R8
  rw [hW8]
  rintro e w9 ⟨rfl, h9⟩
  obtain ⟨g, cap, row9, hg9, u1, u2, u3, k9, b9⟩ := close_world F8 (by omega) (by omega) h9
  have Q9 : w9.heap[w5.heap.size + 1]? = some (.cells (logV K S M H 3) 69 (0, 0)) := (k9 _ (by omega) (by omega) (by omega) (by omega) (by omega)).trans ((k8 _ (by omega)).trans Q7)
  have L9 : Hid (LogAt w9 K S M H) := L7.of_blocks fun k e => (k9 _ (by omega) (by omega) (by omega) (by omega) (by omega)).trans (k8 _ (by omega))
  have B9 : Hid (Below w.heap.size w w9) := B8.trans b9
  have R9 := Lib.hid row9
  have z9 := b9.size
  have c1 := (cells_of_block u1 0).1
  have c2 : w9.cell? ⟨w.heap.size + 1 + 1, 0, none⟩ = some (.bool true) := (cells_of_block u2 0).1
  have c3 : w9.cell? ⟨w.heap.size + 1 + 1 + 1, 0, none⟩ = some (.int .i64 0) := (cells_of_block u3 0).1
  have cl : w9.cell? ⟨w5.heap.size + 1, 1, none⟩ = some (.func (.func 43) #[] #[.pointer (some ⟨M, 0, none⟩), .pointer (some ⟨H, 0, none⟩)]) := (cells_of_block Q9 1).1
  have f1 := (cells_of_block u1 0).2
  have f2 : w9.frozen? ⟨w.heap.size + 1 + 1, 0, none⟩ = false := (cells_of_block u2 0).2
  have f3 : w9.frozen? ⟨w.heap.size + 1 + 1 + 1, 0, none⟩ = false := (cells_of_block u3 0).2
  simp only [List.getElem?_toArray, List.getElem?_cons_zero] at c1
  have V9 : Hid (w9.heap[w.heap.size + 1]? = some (.cells #[.slice (some ⟨g, 0, none⟩) r.length cap] 23 (0, 0)) ∧ w9.heap[w.heap.size + 2]? = some (.cells #[.bool true] 4 (0, 0)) ∧ w9.heap[w.heap.size + 3]? = some (.cells #[.int .i64 0] 3 (0, 0))) := ⟨u1, u2, u3⟩
  clear hc h9 k9 b9 row9 u1 u2 u3 k8 b8 R8 F8 G8 B8 P8 E8 hW8 Q9 L7 G7 F7 P7 Q7 B7 HT HF HC5 T4
  go_wp2
  have hlt : w.heap.size + 4 ≤ w9.heap.size := by omega
  have hlq : w5.heap.size + 1 < w9.heap.size := by omega
  have hNP : w.heap.size + 3 < w5.heap.size + 1 := by omega
  have LD : LogAt w9.drew K S M H := ⟨L9.out.k, L9.out.s, L9.out.m, L9.out.h⟩
  go_region_held3 (fun w' => w'.cell? ⟨w.heap.size + 1, 0, none⟩ = some (.slice (some ⟨g, 0, none⟩) r.length cap) ∧ w'.cell? ⟨w.heap.size + 1 + 1, 0, none⟩ = some (.bool true) ∧ w'.cell? ⟨w.heap.size + 1 + 1 + 1, 0, none⟩ = some (.int .i64 0) ∧
      w'.cell? ⟨w5.heap.size + 1, 1, none⟩ = some (.func (.func 43) #[] #[.pointer (some ⟨M, 0, none⟩), .pointer (some ⟨H, 0, none⟩)]))
    (first | with_reducible exact est1 hNP (by assumption) | with_reducible exact est2 hNP (by assumption) | with_reducible exact est3 hNP (by assumption) | with_reducible exact ⟨d1, d2, d3, dl⟩ | exact ⟨c1, c2, c3, cl⟩)
    (first | (go_at_call 43; refine (hasErr_any K S M H _ LD).mono ?_; rintro e w10 ⟨rfl, hb⟩; have hb' := below_drew hb; have B10 := Lib.hid hb'; have d1 := (hb'.cell (p := ⟨w.heap.size + 1, 0, none⟩) (by show w.heap.size + 1 < _; omega)).trans c1; have d2 := (hb'.cell (p := ⟨w.heap.size + 1 + 1, 0, none⟩) (by show w.heap.size + 1 + 1 < _; omega)).trans c2; have d3 := (hb'.cell (p := ⟨w.heap.size + 1 + 1 + 1, 0, none⟩) (by show w.heap.size + 1 + 1 + 1 < _; omega)).trans c3; have dl := (hb'.cell (p := ⟨w5.heap.size + 1, 1, none⟩) (by show w5.heap.size + 1 < _; omega)).trans cl; have g1 := (World.frozen?_of_block (a := ⟨w.heap.size + 1, 0, none⟩) (hb'.block (w.heap.size + 1) (by omega))).trans f1; have g2 := (World.frozen?_of_block (a := ⟨w.heap.size + 1 + 1, 0, none⟩) (hb'.block (w.heap.size + 1 + 1) (by omega))).trans f2; have g3 := (World.frozen?_of_block (a := ⟨w.heap.size + 1 + 1 + 1, 0, none⟩) (hb'.block (w.heap.size + 1 + 1 + 1) (by omega))).trans f3; clear hb hb'))
  rename_i hE
  obtain ⟨e1, e2, e3, _⟩ := hE
  obtain ⟨hrow, hbel⟩ := zz_fin (N := w.heap.size) R9.out (by omega) (by omega) rfl B9.out B10.out (.slice (some ⟨g, 0, none⟩) r.length cap) (.bool true) (.int .i64 0)
  go_wp2
  refine bodyPost_ret (v := .tuple #[.slice (some ⟨g, 0, none⟩) r.length cap, .bool true, .int .i64 0]) ?_ rfl ⟨_, rfl, hrow, hbel⟩
  simp [results, Tryd.results17, go_sem, e1, e2, e3]
end Go.Proofs.YtolgapijpejpoaaDoor
