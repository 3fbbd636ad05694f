/- Go's tracker of lines: it scans to a place. -/
import Derived.Test.YtolgapijpejpoaaDoorWa
namespace Go.Proofs.YtolgapijpejpoaaDoor
open Go.RowKit Go.Lib
theorem bt_index_ne (s : ByteArray) (j x : Nat) {b : Bool} (h : decide (bt s j ≠ x) = b) : ∀ hj : j < s.size, ((((s[j]'hj).toNat : Nat) : Int) != (x : Int)) = b := by
  intro hj
  have h1 := bt_index s j x (b := !b) (by subst h; by_cases e : bt s j = x <;> simp [e]) hj
  simp only [bne, h1, Bool.not_not]
def ScanPost (X : Nat) (s : ByteArray) (n : Nat) (w : World) (e : Ending) (w' : World) : Prop :=
  e = .returned (.tuple #[]) ∧ (∃ o ln ls : Nat, o ≤ s.size ∧ ls ≤ o ∧ ln ≤ o ∧ TrAt w' X s o ln ls 0 false) ∧ Beside w.heap.size X w w'
/-- A line's turn in the tracker, as the walk spells its cells. -/
theorem line_turn {w w1 : World} {X : Nat} {s : ByteArray} {o ln ls m : Nat} (T : TrAt w1 X s o ln ls 0 false) (hb : Beside w.heap.size X w w1) :
    TrAt ((((w1.setCell ⟨X, 47, none⟩ (.bool true)).setCell ⟨X, 48, none⟩ (.bool false)).setCell ⟨X, 45, none⟩ (.int .i32 (m : Int))).setCell ⟨X, 44, none⟩ (.int .i32 ((ln : Int) + 1))) X s o (ln + 1) m 0 false ∧
    Beside w.heap.size X w ((((w1.setCell ⟨X, 47, none⟩ (.bool true)).setCell ⟨X, 48, none⟩ (.bool false)).setCell ⟨X, 45, none⟩ (.int .i32 (m : Int))).setCell ⟨X, 44, none⟩ (.int .i32 ((ln : Int) + 1))) := by
  have e : (ln : Int) + 1 = ((ln + 1 : Nat) : Int) := by omega
  rw [e]
  refine ⟨((T.set47.set48 false).set45 m).set44 (ln + 1), ?_⟩
  exact (((hb.setCell (p := ⟨X, 47, none⟩) (.inl rfl) (.bool true)).setCell (p := ⟨X, 48, none⟩) (.inl rfl) (.bool false)).setCell (p := ⟨X, 45, none⟩) (.inl rfl) (.int .i32 (m : Int))).setCell (p := ⟨X, 44, none⟩) (.inl rfl) (.int .i32 ((ln + 1 : Nat) : Int))
theorem line_keep {w w1 : World} {X : Nat} {s : ByteArray} {o ln ls m : Nat} (T : TrAt w1 X s o ln ls 0 false) (hb : Beside w.heap.size X w w1) :
    TrAt (((w1.setCell ⟨X, 47, none⟩ (.bool true)).setCell ⟨X, 48, none⟩ (.bool false)).setCell ⟨X, 45, none⟩ (.int .i32 (m : Int))) X s o ln m 0 false ∧
    Beside w.heap.size X w (((w1.setCell ⟨X, 47, none⟩ (.bool true)).setCell ⟨X, 48, none⟩ (.bool false)).setCell ⟨X, 45, none⟩ (.int .i32 (m : Int))) := by
  refine ⟨(T.set47.set48 false).set45 m, ?_⟩
  exact ((hb.setCell (p := ⟨X, 47, none⟩) (.inl rfl) (.bool true)).setCell (p := ⟨X, 48, none⟩) (.inl rfl) (.bool false)).setCell (p := ⟨X, 45, none⟩) (.inl rfl) (.int .i32 (m : Int))
theorem scan_end {w w2 : World} {X : Nat} {s : ByteArray} {n o ln ls m : Nat} (h : TrAt w2 X s o ln ls 0 false ∧ Beside w.heap.size X w w2) (h1 : m ≤ s.size) (h2 : ls ≤ m) (h3 : ln ≤ m) :
    ScanPost X s n w (.returned (.tuple #[])) (w2.setCell ⟨X, 43, none⟩ (.int .i32 (m : Int))) :=
  ⟨rfl, ⟨m, ln, ls, h1, h2, h3, h.1.set43 m⟩, h.2.setCell (p := ⟨X, 43, none⟩) (.inl rfl) (.int .i32 (m : Int))⟩
set_option maxRecDepth 100000 in
set_option maxHeartbeats 4000000 in
theorem scan_any (X : Nat) (s : ByteArray) (n : Nat) (w : World) (B : Nat) (h : TrAt w X s 0 0 0 0 false) (hs : s.size ≤ 1048576) (hn : n ≤ s.size) (hT : Tabs B w) (hB : B ≤ X) :
    Calls Tryd.prog 80 #[.pointer (some ⟨X, 40, none⟩), .int .i32 (n : Int)] w (ScanPost X s n w) := by
  obtain ⟨c0, c1, c2, c3, c4, c5, c6, c7, c8, c9⟩ := h.cells
  have hfz := h.free
  have hlt := h.lt
  have H := Lib.hid h
  have HT := Lib.hid hT
  clear h hT
  by_cases hn0 : n = 0
  · subst hn0
    go_enter Tryd.func80, Tryd.ntmps80
    go_wp2
    go_end0
    exact ⟨rfl, ⟨0, 0, 0, by omega, by omega, by omega, H.out⟩, Beside.refl _ _ _⟩
  · have g0 : (0 : Int) < (n : Int) := by omega
    have g0n : 0 < n := by omega
    go_enter Tryd.func80, Tryd.ntmps80
    go_wp2
    go_loopw [5] (fun v wr => ∃ i ln ls : Nat, v = .int .i32 (i : Int) ∧ i < n ∧ ls ≤ i ∧ ln ≤ i ∧ TrAt wr X s 0 ln ls 0 false ∧ Beside w.heap.size X w wr) (fun v _ => s.size - (RowKit.intOf v).toNat)
    case atStart => exact ⟨0, 0, 0, rfl, by omega, by omega, by omega, H.out, Beside.refl _ _ _⟩
    case round =>
      obtain ⟨i, ln, ls, rfl, hi, hls, hln, htr, hbs⟩ := hrel
      have hlt2 : i < s.size := by omega
      obtain ⟨c, k, hcn⟩ : ∃ c k, rn s i = (c, k) := ⟨_, _, rfl⟩
      have hk1 : 1 ≤ k := by have := rn_pos hlt2; rw [hcn] at this; exact this
      have hk2 : i + k ≤ s.size := by have := rn_le (s := s) (i := i) (by omega); rw [hcn] at this; exact this
      have hd := dec_any s i wr (by omega) (HT.out.beside hbs (by omega) hB).tabs
      rw [hcn] at hd
      simp only at hd
      have HD := Lib.hid hd
      have HTR := Lib.hid htr
      have hXr := htr.lt
      have gi : (i : Int) ≤ (s.size : Int) := by omega
      have hbs0 := Lib.hid hbs
      clear hd hcn htr hbs c0 c1 c2 c3 c4 c5 c6 c7 c8 c9 hfz H HT
      go_wp2_with fail
      refine HD.out.mono ?_
      rintro e w1 ⟨rfl, hb⟩
      have T1 := Lib.hid (HTR.out.below hb hXr)
      have hbs1 : Beside w.heap.size X w w1 := hbs0.out.trans (.of_below (hb.mono hbs0.out.size))
      obtain ⟨d0, d1, d2, d3, d4, d5, d6, d7, d8, d9⟩ := T1.out.cells
      have fz := T1.out.free
      obtain ⟨m, hm⟩ : ∃ m, i + k = m := ⟨_, rfl⟩
      have e1 : (i : Int) + (k : Int) = (m : Int) := by omega
      have hm6 : (m : Int) ≤ 1048576 := by omega
      have hk6 : (k : Int) ≤ 1048576 := by omega
      have hl6 : (ln : Int) ≤ 1048576 := by omega
      clear hb
      by_cases h10 : c = 10
      · subst h10
        by_cases hi0 : m = k
        · have gq : ((m : Int) == (k : Int)) = true := by simpa using (by omega : (m : Int) = (k : Int))
          subst hi0
          by_cases hge : n ≤ m
          · have gn : (n : Int) ≤ (m : Int) := by omega
            have T3 := Lib.hid (line_turn (m := m) T1.out hbs1)
            go_wp2
            go_end0
            exact scan_end T3.out (by omega) (by omega) (by omega)
          · have gn : ¬ (n : Int) ≤ (m : Int) := by omega
            have gd : decide ((n : Int) ≤ (m : Int)) = false := decide_eq_false gn
            have T3 := Lib.hid (line_turn (m := m) T1.out hbs1)
            go_wp2
            go_roundw
            case rel => exact ⟨m, ln + 1, m, rfl, by omega, by omega, by omega, T3.out.1, T3.out.2⟩
            case measure => simp [RowKit.intOf]; omega
        · have gq : ((m : Int) == (k : Int)) = false := by simpa using (by omega : ¬ (m : Int) = (k : Int))
          obtain ⟨p, hp⟩ : ∃ p, i = p + 1 := ⟨i - 1, by omega⟩
          have e2 : (m : Int) - (k : Int) - 1 = (p : Int) := by omega
          have gp : (p : Int) < (s.size : Int) := by omega
          clear hp
          by_cases h13 : bt s p = 13
          · have gb : ∀ hj : p < s.size, ((((s[p]'hj).toNat : Nat) : Int) != 13) = false := bt_index_ne s p 13 (b := false) (by simpa using h13)
            by_cases hge : n ≤ m
            · have gn : (n : Int) ≤ (m : Int) := by omega
              have T3 := Lib.hid (line_keep (m := m) T1.out hbs1)
              go_wp2
              go_end0
              exact scan_end T3.out (by omega) (by omega) (by omega)
            · have gn : ¬ (n : Int) ≤ (m : Int) := by omega
              have gd : decide ((n : Int) ≤ (m : Int)) = false := decide_eq_false gn
              have T3 := Lib.hid (line_keep (m := m) T1.out hbs1)
              go_wp2
              go_roundw
              case rel => exact ⟨m, ln, m, rfl, by omega, by omega, by omega, T3.out.1, T3.out.2⟩
              case measure => simp [RowKit.intOf]; omega
          · have gb : ∀ hj : p < s.size, ((((s[p]'hj).toNat : Nat) : Int) != 13) = true := bt_index_ne s p 13 (b := true) (by simpa using h13)
            by_cases hge : n ≤ m
            · have gn : (n : Int) ≤ (m : Int) := by omega
              have T3 := Lib.hid (line_turn (m := m) T1.out hbs1)
              go_wp2
              go_end0
              exact scan_end T3.out (by omega) (by omega) (by omega)
            · have gn : ¬ (n : Int) ≤ (m : Int) := by omega
              have gd : decide ((n : Int) ≤ (m : Int)) = false := decide_eq_false gn
              have T3 := Lib.hid (line_turn (m := m) T1.out hbs1)
              go_wp2
              go_roundw
              case rel => exact ⟨m, ln + 1, m, rfl, by omega, by omega, by omega, T3.out.1, T3.out.2⟩
              case measure => simp [RowKit.intOf]; omega
      · have g10 : ((c : Int) == 10) = false := by simpa using (by omega : ¬ (c : Int) = 10)
        by_cases h13 : c = 13
        · subst h13
          by_cases hge : n ≤ m
          · have gn : (n : Int) ≤ (m : Int) := by omega
            have T3 := Lib.hid (line_turn (m := m) T1.out hbs1)
            go_wp2
            go_end0
            exact scan_end T3.out (by omega) (by omega) (by omega)
          · have gn : ¬ (n : Int) ≤ (m : Int) := by omega
            have gd : decide ((n : Int) ≤ (m : Int)) = false := decide_eq_false gn
            have T3 := Lib.hid (line_turn (m := m) T1.out hbs1)
            go_wp2
            go_roundw
            case rel => exact ⟨m, ln + 1, m, rfl, by omega, by omega, by omega, T3.out.1, T3.out.2⟩
            case measure => simp [RowKit.intOf]; omega
        · have g13 : ((c : Int) == 13) = false := by simpa using (by omega : ¬ (c : Int) = 13)
          by_cases h28 : c = 8232
          · subst h28
            by_cases hge : n ≤ m
            · have gn : (n : Int) ≤ (m : Int) := by omega
              have T3 := Lib.hid (line_turn (m := m) T1.out hbs1)
              go_wp2
              go_end0
              exact scan_end T3.out (by omega) (by omega) (by omega)
            · have gn : ¬ (n : Int) ≤ (m : Int) := by omega
              have gd : decide ((n : Int) ≤ (m : Int)) = false := decide_eq_false gn
              have T3 := Lib.hid (line_turn (m := m) T1.out hbs1)
              go_wp2
              go_roundw
              case rel => exact ⟨m, ln + 1, m, rfl, by omega, by omega, by omega, T3.out.1, T3.out.2⟩
              case measure => simp [RowKit.intOf]; omega
          · have g28 : ((c : Int) == 8232) = false := by simpa using (by omega : ¬ (c : Int) = 8232)
            by_cases h29 : c = 8233
            · subst h29
              by_cases hge : n ≤ m
              · have gn : (n : Int) ≤ (m : Int) := by omega
                have T3 := Lib.hid (line_turn (m := m) T1.out hbs1)
                go_wp2
                go_end0
                exact scan_end T3.out (by omega) (by omega) (by omega)
              · have gn : ¬ (n : Int) ≤ (m : Int) := by omega
                have gd : decide ((n : Int) ≤ (m : Int)) = false := decide_eq_false gn
                have T3 := Lib.hid (line_turn (m := m) T1.out hbs1)
                go_wp2
                go_roundw
                case rel => exact ⟨m, ln + 1, m, rfl, by omega, by omega, by omega, T3.out.1, T3.out.2⟩
                case measure => simp [RowKit.intOf]; omega
            · have g29 : ((c : Int) == 8233) = false := by simpa using (by omega : ¬ (c : Int) = 8233)
              by_cases hge : n ≤ m
              · have gn : (n : Int) ≤ (m : Int) := by omega
                have T3 := Lib.hid ((⟨T1.out, hbs1⟩ : TrAt w1 X s 0 ln ls 0 false ∧ Beside w.heap.size X w w1))
                go_wp2
                go_end0
                exact scan_end T3.out (by omega) (by omega) (by omega)
              · have gn : ¬ (n : Int) ≤ (m : Int) := by omega
                have gd : decide ((n : Int) ≤ (m : Int)) = false := decide_eq_false gn
                have T3 := Lib.hid ((⟨T1.out, hbs1⟩ : TrAt w1 X s 0 ln ls 0 false ∧ Beside w.heap.size X w w1))
                go_wp2
                go_roundw
                case rel => exact ⟨m, ln, ls, rfl, by omega, by omega, by omega, T3.out.1, T3.out.2⟩
                case measure => simp [RowKit.intOf]; omega
end Go.Proofs.YtolgapijpejpoaaDoor
