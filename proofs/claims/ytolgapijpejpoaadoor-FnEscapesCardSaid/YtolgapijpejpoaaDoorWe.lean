/- Go's tracker of lines: the line and column of a place. Go's tracker of lines: the place of a message. Go's log: what a message bears; the message goes into the log. -/
import Derived.Test.YtolgapijpejpoaaDoorWb
import Derived.StillTailTactics
import Derived.Test.YtolgapijpejpoaaDoorHd
namespace Go.Proofs.YtolgapijpejpoaaDoor
open Go.RowKit Go.Lib
def LcPost (X : Nat) (s : ByteArray) (n : Nat) (w : World) (e : Ending) (w' : World) : Prop :=
  ∃ o ln ls le : Nat, e = .returned (.tuple #[.int .i64 (ln : Int), .int .i64 ((n : Int) - (ls : Int)), .int .i64 (ls : Int), .int .i64 (le : Int)]) ∧ ln ≤ s.size ∧ ls ≤ le ∧ le ≤ s.size ∧ TrAt w' X s o ln ls le true ∧ Beside w.heap.size X w w'
theorem lc_end {w w1 : World} {X : Nat} {s : ByteArray} {n o ln ls i : Nat} (T : TrAt w1 X s o ln ls 0 false) (hb : Beside w.heap.size X w w1) (h1 : ln ≤ s.size) (h2 : ls ≤ i) (h3 : i ≤ s.size) (k : Nat) :
    LcPost X s n w (.returned (.tuple #[.int .i64 (ln : Int), .int .i64 ((n : Int) - (ls : Int)), .int .i64 (ls : Int), .int .i64 (i : Int)])) (((w1.setCell ⟨X, 48, none⟩ (.bool true)).setCell ⟨X, 46, none⟩ (.int .i32 (i : Int))).drewN k) :=
  ⟨o, ln, ls, i, rfl, h1, h2, h3, ((T.set48 true).set46 i).drewN k, ((hb.setCell (p := ⟨X, 48, none⟩) (.inl rfl) (.bool true)).setCell (p := ⟨X, 46, none⟩) (.inl rfl) (.int .i32 (i : Int))).drewN k⟩
set_option maxRecDepth 100000 in
set_option maxHeartbeats 4000000 in
theorem lc_any (X : Nat) (s : ByteArray) (n : Nat) (w : World) (B : Nat) (h : TrAt w X s 0 0 0 0 false) (hs : s.size ≤ 1048576) (hn : n ≤ s.size) (hT : Tabs B w) (hB : B ≤ X) :
    Calls Tryd.prog 74 #[.pointer (some ⟨X, 40, none⟩), .int .i64 (n : Int)] w (LcPost X s n w) := by
  obtain ⟨c0, c1, c2, c3, c4, c5, c6, c7, c8, c9⟩ := h.cells
  have hfz := h.free
  have HC := Lib.hid (scan_any X s n w B h hs hn hT hB)
  have HT := Lib.hid hT
  have hn6 : (n : Int) ≤ 1048576 := by omega
  have hlt := h.lt
  clear h hT
  go_enter Tryd.func74, Tryd.ntmps74
  go_wp2_with fail
  refine HC.out.mono ?_
  rintro e w1 ⟨rfl, ⟨o, ln, ls, ho, hls, hln, htr⟩, hbs⟩
  clear HC c0 c1 c2 c3 c4 c5 c6 c7 c8 c9 hfz
  obtain ⟨c0, c1, c2, c3, c4, c5, c6, c7, c8, c9⟩ := htr.cells
  have hfz := htr.free
  have H := Lib.hid htr
  have HB := Lib.hid hbs
  have hs6 : (s.size : Int) ≤ 1048576 := by omega
  have ho6 : (o : Int) ≤ 1048576 := by omega
  have hl6 : (ls : Int) ≤ 1048576 := by omega
  have hln6 : (ln : Int) ≤ 1048576 := by omega
  clear htr hbs
  go_wp2
  go_loopw [13] (fun v wr => ∃ i : Nat, v = .int .i32 (i : Int) ∧ o ≤ i ∧ i ≤ s.size ∧ TrAt wr X s o ln ls 0 false ∧ Beside w.heap.size X w wr) (fun v _ => s.size - (RowKit.intOf v).toNat)
  case atStart => exact ⟨o, rfl, by omega, ho, H.out, HB.out⟩
  case round =>
    obtain ⟨i, rfl, hoi, his, htr, hbs⟩ := hrel
    clear c0 c1 c2 c3 c4 c5 c6 c7 c8 c9 hfz H HB
    have hi6 : (i : Int) ≤ 1048576 := by omega
    have HTR := Lib.hid htr
    have hXr := htr.lt
    have HBS := Lib.hid hbs
    by_cases hge : s.size ≤ i
    · have gn : ¬ (i : Int) < (s.size : Int) := by omega
      have gd : decide ((i : Int) < (s.size : Int)) = false := decide_eq_false gn
      have T1 := HTR
      have hbs1 := HBS
      obtain ⟨c0, c1, c2, c3, c4, c5, c6, c7, c8, c9⟩ := T1.out.cells
      have hfz := T1.out.free
      clear htr hbs
      go_wp2
      go_quiet (fail)
      go_wp2
      refine bodyPost_ret (v := .tuple #[.int .i64 (ln : Int), .int .i64 ((n : Int) - (ls : Int)), .int .i64 (ls : Int), .int .i64 (i : Int)]) ?_ rfl ?_
      · simp [results, Tryd.results74, go_sem]
      exact lc_end T1.out hbs1.out (by omega) (by omega) (by omega) _
    · have hlt2 : i < s.size := by omega
      have gl : (i : Int) < (s.size : Int) := by omega
      obtain ⟨c, k, hcn⟩ : ∃ c k, rn s i = (c, k) := ⟨_, _, rfl⟩
      have hk1 : 1 ≤ k := by have := rn_pos hlt2; rw [hcn] at this; exact this
      have hk2 : i + k ≤ s.size := by have := rn_le (s := s) (i := i) (by omega); rw [hcn] at this; exact this
      have hd := dec_any s i wr (by omega) (HT.out.beside hbs (by omega) hB).tabs
      rw [hcn] at hd
      simp only at hd
      have HD := Lib.hid hd
      have gi : (i : Int) ≤ (s.size : Int) := by omega
      clear hd hcn htr hbs HT
      go_wp2_with fail
      refine HD.out.mono ?_
      rintro e w2 ⟨rfl, hb⟩
      have T1 := Lib.hid (HTR.out.below hb hXr)
      have hbs1 : Hid (Beside w.heap.size X w w2) := Lib.hid (HBS.out.trans (.of_below (hb.mono HBS.out.size)))
      obtain ⟨m, hm⟩ : ∃ m, i + k = m := ⟨_, rfl⟩
      have e1 : (i : Int) + (k : Int) = (m : Int) := by omega
      have hm6 : (m : Int) ≤ 1048576 := by omega
      have hk6 : (k : Int) ≤ 1048576 := by omega
      clear hb HTR HBS HD
      by_cases h10 : c = 10
      · subst h10
        obtain ⟨c0, c1, c2, c3, c4, c5, c6, c7, c8, c9⟩ := T1.out.cells
        have hfz := T1.out.free
        go_wp2
        go_quiet (fail)
        go_wp2
        refine bodyPost_ret (v := .tuple #[.int .i64 (ln : Int), .int .i64 ((n : Int) - (ls : Int)), .int .i64 (ls : Int), .int .i64 (i : Int)]) ?_ rfl ?_
        · simp [results, Tryd.results74, go_sem]
        exact lc_end T1.out hbs1.out (by omega) (by omega) (by omega) _
      · have g10 : ((c : Int) == 10) = false := by simpa using (by omega : ¬ (c : Int) = 10)
        by_cases h13 : c = 13
        · subst h13
          obtain ⟨c0, c1, c2, c3, c4, c5, c6, c7, c8, c9⟩ := T1.out.cells
          have hfz := T1.out.free
          go_wp2
          go_quiet (fail)
          go_wp2
          refine bodyPost_ret (v := .tuple #[.int .i64 (ln : Int), .int .i64 ((n : Int) - (ls : Int)), .int .i64 (ls : Int), .int .i64 (i : Int)]) ?_ rfl ?_
          · simp [results, Tryd.results74, go_sem]
          exact lc_end T1.out hbs1.out (by omega) (by omega) (by omega) _
        · have g13 : ((c : Int) == 13) = false := by simpa using (by omega : ¬ (c : Int) = 13)
          by_cases h8232 : c = 8232
          · subst h8232
            obtain ⟨c0, c1, c2, c3, c4, c5, c6, c7, c8, c9⟩ := T1.out.cells
            have hfz := T1.out.free
            go_wp2
            go_quiet (fail)
            go_wp2
            refine bodyPost_ret (v := .tuple #[.int .i64 (ln : Int), .int .i64 ((n : Int) - (ls : Int)), .int .i64 (ls : Int), .int .i64 (i : Int)]) ?_ rfl ?_
            · simp [results, Tryd.results74, go_sem]
            exact lc_end T1.out hbs1.out (by omega) (by omega) (by omega) _
          · have g8232 : ((c : Int) == 8232) = false := by simpa using (by omega : ¬ (c : Int) = 8232)
            by_cases h8233 : c = 8233
            · subst h8233
              obtain ⟨c0, c1, c2, c3, c4, c5, c6, c7, c8, c9⟩ := T1.out.cells
              have hfz := T1.out.free
              go_wp2
              go_quiet (fail)
              go_wp2
              refine bodyPost_ret (v := .tuple #[.int .i64 (ln : Int), .int .i64 ((n : Int) - (ls : Int)), .int .i64 (ls : Int), .int .i64 (i : Int)]) ?_ rfl ?_
              · simp [results, Tryd.results74, go_sem]
              exact lc_end T1.out hbs1.out (by omega) (by omega) (by omega) _
            · have g8233 : ((c : Int) == 8233) = false := by simpa using (by omega : ¬ (c : Int) = 8233)
              clear h10 h13 h8232 h8233
              go_wp2
              go_roundw
              case rel => exact ⟨m, rfl, by omega, by omega, T1.out, hbs1.out⟩
              case measure => simp [RowKit.intOf]; omega
end Go.Proofs.YtolgapijpejpoaaDoor
namespace Go.Proofs.YtolgapijpejpoaaDoor
open Go.RowKit Go.Lib
def MlPost (X : Nat) (w : World) (e : Ending) (w' : World) : Prop := ∃ A, e = .returned (.pointer (some ⟨A, 0, none⟩)) ∧ Beside w.heap.size X w w'
set_option maxRecDepth 100000 in
set_option maxHeartbeats 2000000 in
theorem mlon_any (X : Nat) (s : ByteArray) (a : Nat) (b : Int) (w : World) (B : Nat) (h : TrAt w X s 0 0 0 0 false) (hs : s.size ≤ 1048576) (ha : a ≤ s.size) (hT : Tabs B w) (hB : B ≤ X) :
    Calls Tryd.prog 64 #[.pointer (some ⟨X, 40, none⟩), .agg #[.int .i32 (a : Int), .int .i32 b]] w (MlPost X w) := by
  obtain ⟨W, hW⟩ : ∃ W, w.alloc (.cells #[.int .i32 (a : Int), .int .i32 b] 103) = W := ⟨_, rfl⟩
  have hX := h.lt
  have z1 : W.heap.size = w.heap.size + 1 := by rw [← hW]; simp
  have hb1 : Below w.heap.size w W := by rw [← hW]; exact (Below.refl _ _).alloc (Nat.le_refl _) _
  have h1 := h.below hb1 hX
  obtain ⟨c0, c1, c2, c3, c4, c5, c6, c7, c8, c9⟩ := h1.cells
  have hA : W.heap[w.heap.size]? = some (.cells #[.int .i32 (a : Int), .int .i32 b] 103 (0, 0)) := by rw [← hW]; exact heap_alloc_new _ _
  have d0 := (cells_of_block hA 0).1
  have d1 := (cells_of_block hA 1).1
  have HC := Lib.hid (lc_any X s a W B h1 hs ha (hT.below hb1 (by omega)) hB)
  have ha6 : (a : Int) ≤ 1048576 := by omega
  have B1 := Lib.hid hb1
  clear h h1 hb1
  go_enter Tryd.func64, Tryd.ntmps64
  go_wp2_with fail
  refine HC.out.mono ?_
  rintro e w2 ⟨o, ln, ls, le, rfl, h1, h2, h3, htr, hbs⟩
  clear c0 c1 c2 c3 c4 c5 c6 c7 c8 c9 HC
  have e0 := (World.cell?_of_block (a := ⟨w.heap.size, 0, none⟩) (hbs.block w.heap.size (by omega) (by omega))).trans d0
  have e1 := (World.cell?_of_block (a := ⟨w.heap.size, 1, none⟩) (hbs.block w.heap.size (by omega) (by omega))).trans d1
  clear d0 d1 hA
  obtain ⟨c0, c1, c2, c3, c4, c5, c6, c7, c8, c9⟩ := htr.cells
  have hs6 : (s.size : Int) ≤ 1048576 := by omega
  have g1 : (ln : Int) ≤ 1048576 := by omega
  have g2 : (ls : Int) ≤ (le : Int) := by omega
  have g3 : (le : Int) ≤ (s.size : Int) := by omega
  have z2 := hbs.size
  have HB := Lib.hid (Beside.of_below (L := X) B1.out |>.trans (hbs.mono (by omega)))
  clear htr hbs B1 hW
  simp only [List.getElem?_toArray, List.getElem?_cons_zero, List.getElem?_cons_succ] at e0 e1
  go_wp2
  go_still_tail 18, (by kernel_rfl)
  change wpList _ _ _ _ _ w2.drew
  go_wp2
  go_ret
  exact ⟨_, rfl, HB.out.drew.alloc (by show w.heap.size ≤ w2.heap.size; omega) _⟩
end Go.Proofs.YtolgapijpejpoaaDoor
namespace Go.Proofs.YtolgapijpejpoaaDoor
open Go.RowKit Go.Lib
def MdPost (X : Nat) (m : ByteArray) (w : World) (e : Ending) (w' : World) : Prop := ∃ A, e = .returned (.agg #[.nilIface, .pointer (some ⟨A, 0, none⟩), .string m, .bool false]) ∧ Beside w.heap.size X w w'
set_option maxRecDepth 100000 in
set_option maxHeartbeats 2000000 in
theorem msgd_any (X : Nat) (s : ByteArray) (a : Nat) (b : Int) (m : ByteArray) (w : World) (B : Nat) (h : TrAt w X s 0 0 0 0 false) (hs : s.size ≤ 1048576) (ha : a ≤ s.size) (hT : Tabs B w) (hB : B ≤ X) :
    Calls Tryd.prog 52 #[.pointer (some ⟨X, 40, none⟩), .agg #[.int .i32 (a : Int), .int .i32 b], .string m] w (MdPost X m w) := by
  have hX := h.lt
  have HH := Lib.hid h
  have HT := Lib.hid hT
  clear h hT
  go_enter Tryd.func52, Tryd.ntmps52
  go_wp2_with fail
  obtain ⟨W1, hW1⟩ : ∃ W1, w.alloc (.cells #[.int .i32 (a : Int), .int .i32 b] 103) = W1 := ⟨_, rfl⟩
  rw [hW1]
  have z1 : W1.heap.size = w.heap.size + 1 := by rw [← hW1]; simp
  have b1 : Below w.heap.size w W1 := by rw [← hW1]; exact (Below.refl _ _).alloc (Nat.le_refl _) _
  obtain ⟨W2, hW2⟩ : ∃ W2, W1.alloc (.cells #[.nilIface, .pointer none, .string ⟨#[]⟩, .bool false] 132) = W2 := ⟨_, rfl⟩
  rw [hW2]
  have z2 : W2.heap.size = w.heap.size + 2 := by rw [← hW2]; simp [z1]
  have b2 : Below w.heap.size w W2 := by rw [← hW2]; exact b1.alloc (by omega) _
  have hA : W2.heap[w.heap.size + 1]? = some (.cells #[.nilIface, .pointer none, .string ⟨#[]⟩, .bool false] 132 (0, 0)) := by rw [← hW2, ← z1]; exact heap_alloc_new _ _
  clear hW1 hW2
  refine (mlon_any X s a b W2 B (HH.out.below b2 hX) hs ha (HT.out.below b2 (by omega)) hB).mono ?_
  rintro e w3 ⟨A, rfl, hbs⟩
  have hA3 := (hbs.block (w.heap.size + 1) (by omega) (by omega)).trans hA
  have e0 := (cells_of_block hA3 0).1
  have e1 := (cells_of_block hA3 1).1
  have e2 := (cells_of_block hA3 2).1
  have e3 := (cells_of_block hA3 3).1
  have ef := fun i => (cells_of_block hA3 i).2
  simp only [List.getElem?_toArray, List.getElem?_cons_zero, List.getElem?_cons_succ] at e0 e1 e2 e3
  have z3 := hbs.size
  have HB := Lib.hid ((Beside.of_below (L := X) b2).trans (hbs.mono (by omega)))
  clear hA hA3 hbs b1 b2
  go_wp2
  refine bodyPost_ret (v := .agg #[.nilIface, .pointer (some ⟨A, 0, none⟩), .string m, .bool false]) ?_ rfl ?_
  · simp [results, Tryd.results52, go_sem, e0, e1, e2, e3, ef]
    all_goals rfl
  · refine ⟨A, rfl, ?_⟩
    iterate 4 refine Beside.setCell ?_ (.inr (by show w.heap.size ≤ w.heap.size + 1; omega)) _
    exact HB.out
end Go.Proofs.YtolgapijpejpoaaDoor
