/- The reference's lexer goes over white space and comments, at any text. -/
import Derived.Test.YthknielnhmoobaaGreatDoorZn
import Derived.Lib.OthersKept
namespace Go.Proofs.YthknielnhmoobaaGreatDoor
open Go.RowKit Go.Lib

/-- A verdict comes back; if all is right the lexer stands behind white space. -/
def SkipP (w : World) (L : Nat) (s : ByteArray) (out opn : Value) (i : Nat) (e : Ending) (w' : World) : Prop :=
  ∃ v, e = .returned (.int .i64 v) ∧ (v = 1 → ∃ j b, i ≤ j ∧ j ≤ s.size ∧ LxAt w' L s j b out opn) ∧ Beside w.heap.size L w w'
theorem skip_go {wr w1 : World} {w : World} {L j n i : Nat} {s : ByteArray} {b : Bool} {out opn : Value} (P0 : posOf wr L = j) (hX : LxAt w1 L s (j + n) b out opn) (hB : Beside w.heap.size L w w1) (hi : i ≤ j) (hn : 1 ≤ n) (hj : j + n ≤ s.size) :
    (∃ j b, i ≤ j ∧ j ≤ s.size ∧ LxAt w1 L s j b out opn ∧ Beside w.heap.size L w w1) ∧ s.size - posOf w1 L < s.size - posOf wr L :=
  ⟨⟨j + n, b, by omega, hj, hX, hB⟩, meas P0 hX.posOf (by omega) hj⟩
theorem wp_gen {P : Program} {c : Code} {Q : Exit → Act → World → Prop} {a : Act} {w : World} (h : ∀ W, W = w → c.wp P Q a W) : c.wp P Q a w := h w rfl
theorem meas2 {a b j k n : Nat} (h1 : b = j) (h2 : a = k) (h3 : j < k) (h4 : j < n) : n - a < n - b := by omega
theorem skip_go2 {wr w1 : World} {w : World} {L j j' i : Nat} {s : ByteArray} {b : Bool} {out opn : Value} (P0 : posOf wr L = j) (hX : LxAt w1 L s j' b out opn) (hB : Beside w.heap.size L w w1) (hi : i ≤ j) (hn : j < j') (hj : j' ≤ s.size) :
    (∃ j b, i ≤ j ∧ j ≤ s.size ∧ LxAt w1 L s j b out opn ∧ Beside w.heap.size L w w1) ∧ s.size - posOf w1 L < s.size - posOf wr L :=
  ⟨⟨j', b, by omega, hj, hX, hB⟩, meas P0 hX.posOf (by omega) hj⟩
set_option maxRecDepth 100000 in
set_option maxHeartbeats 4000000 in
theorem skip_any (L : Nat) (s : ByteArray) (i : Nat) (nl : Bool) (po : Option Addr) (no co : Nat) (opn : Value) (w : World) (h : LxAt w L s i nl (.slice po no co) opn) (hT : Tabs L w) (hi : i ≤ s.size) (hs : s.size ≤ 1048576) (hno : no ≤ 1099511627776) :
    Calls Tryz.prog 11 #[.pointer (some ⟨L, 0, none⟩)] w (SkipP w L s (.slice po no co) opn i) := by
  have hL := h.lt
  have X1 := Lib.hid (h.set2 false)
  have c2 := h.cell2
  have f2 := h.free 2
  have T1 : Hid (Tabs L w) := hT
  clear h hT
  go_enter Tryz.func11, Tryz.ntmps11
  go_wp2_with fail
  go_loopw [] (fun wr => ∃ (j : Nat) (b : Bool), i ≤ j ∧ j ≤ s.size ∧ LxAt wr L s j b (.slice po no co) opn ∧ Beside w.heap.size L w wr) (fun wr => s.size - posOf wr L)
  case atStart => exact ⟨i, false, Nat.le_refl _, hi, X1.out, Beside.setCell (p := ⟨L, 2, none⟩) (Beside.refl _ _ _) (.inl rfl) _⟩
  case round =>
    obtain ⟨j, b, hij, hj, hx, hb⟩ := hrel
    have HX := Lib.hid hx
    have HB := Lib.hid hb
    have P0 := Lib.hid hx.posOf
    have TR : Hid (Tabs L wr) := T1.out.beside (hb.mono (by omega)) (Nat.le_refl _) (Nat.le_refl _)
    have hh := here_any L s j b (.slice po no co) opn wr hx hj TR.out.tabs
    clear hx hb c2 f2 X1
    by_cases hlt : j < s.size
    · obtain ⟨c, n, hcn⟩ : ∃ c n, rn s j = (c, n) := ⟨_, _, rfl⟩
      have hn1 : 1 ≤ n := by have := rn_pos hlt; rw [hcn] at this; exact this
      have hn2 : j + n ≤ s.size := by have := rn_le (s := s) (i := j) (by omega); rw [hcn] at this; exact this
      have hc : c ≤ 1114111 := by have := rn_rune s j; rw [hcn] at this; exact this
      have hn0 : ((n : Int) == 0) = false := by simpa using (by omega : ¬ (n : Int) = 0)
      rw [if_pos hlt, hcn] at hh
      have HC := Lib.hid hcn
      clear hcn
      go_wp2_with fail
      refine hh.mono ?_
      clear hh
      rintro e w1 ⟨rfl, hb1⟩
      have X2 := Lib.hid (HX.out.below hb1 HX.out.lt)
      have B2 := Lib.hid (HB.out.trans (.of_below (L := L) (hb1.mono HB.out.size)))
      have c0 := X2.out.cell0
      have c1 := X2.out.cell1
      have f1 := X2.out.free 1
      have c2 := X2.out.cell2
      have f2 := X2.out.free 2
      have c3 := X2.out.cell3
      have hz1 := B2.out.size
      have X3 := Lib.hid (X2.out.set1 (j + n))
      have X4 := Lib.hid ((X2.out.set2 true).set1 (j + n))
      clear hb1 HX HB TR
      cases hln : isLn c
      · by_cases h47 : c = 47
        · subst h47
          obtain rfl : n = 1 := by have := rn_ascii (s := s) (i := j) (by rw [HC.out]; show 47 < 128; omega); rw [HC.out] at this; exact this.2.1
          obtain ⟨q1, hq1⟩ : ∃ x, bt s (j + 1) = x := ⟨_, rfl⟩
          have hq2 := bt_lt s (j + 1)
          by_cases hq47 : q1 = 47
          · as_aux_lemma =>
              subst hq47
              go_wp2_with (first | (go_at_call 18; refine (isBlank_any _ _).mono ?_; rintro e w2 ⟨⟨r2, rfl⟩, rfl⟩; cases r2) | (go_at_call 19; refine (isLine_any 47 _).mono ?_; rintro e w2 ⟨rfl, rfl⟩; rw [hln]) | (go_at_call 20; refine (ahead_any L s j 1 (j + 1) 1 rfl rfl b (.slice po no co) opn _ X2.out (by omega) (by omega)).mono ?_; rintro e w2 ⟨rfl, q, rfl⟩; rw [hq1]))
              case roundEnd => exact skip_go P0.out X3.out (Beside.setCell B2.out (.inl rfl) _) hij hn1 hn2
              clear c0 c1 f1 c2 f2 c3 X3 X4
              go_loopw [3, 4] (fun v3 v4 wv => ∃ (c' n' j' : Nat), v3 = .int .i32 c' ∧ v4 = .int .i64 n' ∧ j ≤ j' ∧ j' + n' ≤ s.size ∧ (j' = j → c' = 47 ∧ n' = 1) ∧ LxAt wv L s j' b (.slice po no co) opn ∧ Beside w.heap.size L w wv) (fun _ _ wv => s.size - posOf wv L)
              case atStart => exact ⟨47, 1, j, rfl, rfl, Nat.le_refl _, hn2, fun _ => ⟨rfl, rfl⟩, X2.out.drewN q, B2.out.drewN q⟩
              case round =>
                obtain ⟨c', n', j', rfl, rfl, h1, h2, h3, h4, h5⟩ := hrel
                have HX := Lib.hid h4
                have HB := Lib.hid h5
                have H3 := Lib.hid h3
                have Q0 := Lib.hid h4.posOf
                have c1 := h4.cell1
                have f1 := h4.free 1
                have TQ : Hid (Tabs L wr) := T1.out.beside (h5.mono (by omega)) (Nat.le_refl _) (Nat.le_refl _)
                have hLr := h4.lt
                clear h3 h4 h5
                by_cases hn' : n' = 0
                · subst hn'
                  go_wp2
                  exact skip_go2 P0.out HX.out HB.out hij (by rcases Nat.lt_or_ge j j' with h | h; exact h; exact absurd (H3.out (by omega)).2 (by decide)) (by omega)
                · have hn8 : 0 < n' := by omega
                  have hn9 : (0 : Int) < (n' : Int) := by omega
                  cases hln' : isLn c'
                  · go_wp2_with (first | (go_at_call 19; refine (isLine_any c' _).mono ?_; rintro e w2 ⟨rfl, rfl⟩; rw [hln']))
                    refine (here_weak (HX.out.set1 (j' + n')) h2 (TQ.out.beside (Beside.setCell (B := L) (L := L) (Beside.refl _ _ _) (.inl rfl) _) (Nat.le_refl _) (Nat.le_refl _))).mono ?_
                    rintro e w3 ⟨c3, n3, rfl, hc3, hn3, _, hx3, hb3⟩
                    have X5 := Lib.hid hx3
                    have B5 : Hid (Beside w.heap.size L w w3) := (Beside.setCell HB.out (.inl rfl) _).trans (.of_below (hb3.mono (by have := HB.out.size; simp [World.setCell]; omega)))
                    clear hx3 hb3
                    go_wp2
                    exact ⟨⟨c3, n3, j' + n', rfl, rfl, by omega, hn3, fun h => by omega, X5.out, B5.out⟩, meas Q0.out X5.out.posOf (by omega) h2⟩
                  · go_wp2_with (first | (go_at_call 19; refine (isLine_any c' _).mono ?_; rintro e w2 ⟨rfl, rfl⟩; rw [hln']))
                    exact skip_go2 P0.out HX.out HB.out hij (by rcases Nat.lt_or_ge j j' with h | h; exact h; (have := (H3.out (by omega)).1; subst this; exact absurd hln' (by decide))) (by omega)
          · have gq47 : ((q1 : Int) == 47) = false := by simpa using (by omega : ¬ (q1 : Int) = 47)
            by_cases hq42 : q1 = 42
            · as_aux_lemma =>
                subst hq42
                have hjs := bt_some (s := s) (i := j + 1) (by omega)
                go_wp2_with (first | (go_at_call 18; refine (isBlank_any _ _).mono ?_; rintro e w2 ⟨⟨r2, rfl⟩, rfl⟩; cases r2) | (go_at_call 19; refine (isLine_any 47 _).mono ?_; rintro e w2 ⟨rfl, rfl⟩; rw [hln]) | (go_at_call 20; refine (ahead_any L s j 1 (j + 1) 1 rfl rfl b (.slice po no co) opn _ (by first | exact X2.out | exact X2.out.drewN _) (by omega) (by omega)).mono ?_; rintro e w2 ⟨rfl, q, rfl⟩; rw [hq1]))
                case roundEnd => exact skip_go P0.out X3.out (Beside.setCell B2.out (.inl rfl) _) hij hn1 hn2
                clear c0 c1 f1 c2 f2 c3 X3 X4
                go_loopw [5] (fun v wv => ∃ k : Nat, v = .int .i64 k ∧ j + 2 + k ≤ s.size ∧ LxAt wv L s j b (.slice po no co) opn ∧ Beside w.heap.size L w wv) (fun v _ => s.size - (RowKit.intOf v).toNat)
                case atStart => exact ⟨0, rfl, by omega, X2.out.drewN _, B2.out.drewN _⟩
                case round =>
                  obtain ⟨k, rfl, h1, h2, h3⟩ := hrel
                  have HX := Lib.hid h2
                  have HB := Lib.hid h3
                  have c0 := h2.cell0
                  have c1 := h2.cell1
                  have e1 : IntKind.i64.wrap ((j : Int) + 2) = (j : Int) + 2 := IntWalk.i64_in _ (by omega)
                  have e2 : IntKind.i64.wrap ((j : Int) + 2 + (k : Int)) = (j : Int) + 2 + (k : Int) := IntWalk.i64_in _ (by omega)
                  have e3 : (0 : Int) ≤ (j : Int) + 2 + (k : Int) := by omega
                  have e4 : ((j : Int) + 2 + (k : Int)).toNat = j + 2 + k := by omega
                  clear h2 h3
                  by_cases hk : j + 2 + k < s.size
                  · have g1 : (j : Int) + 2 + (k : Int) < (s.size : Int) := by omega
                    have g2 : (j : Int) + 2 + (k : Int) ≤ (s.size : Int) := by omega
                    cases hp : hpB (s.extract (j + 2 + k) s.size) ⟨#[42, 47]⟩
                    · go_wp2_with (go_quiet (first | (go_at_call 10; refine Calls.quiet_of_same (hasPre_v _ _ _ _ hp))))
                      case roundEnd => exact ⟨⟨k + 1, by go_num, by omega, HX.out.drewN _, HB.out.drewN _⟩, by simp [RowKit.intOf]; omega⟩
                    · have hp2 := (hpB_true hp).1
                      have hp3 : j + 2 + k + 2 ≤ s.size := by
                        have : (⟨#[42, 47]⟩ : ByteArray).size = 2 := rfl
                        simp only [ByteArray.size_extract] at hp2
                        omega
                      clear hp2
                      go_wp2_with (go_quiet (first | (go_at_call 10; refine Calls.quiet_of_same (hasPre_v _ _ _ _ hp))))
                      have g3 : (j : Int) ≤ (j : Int) + 2 + (k : Int) := by omega
                      have g4 : j ≤ j + 2 + k := by omega
                      have g5 : j + 2 + k ≤ s.size := by omega
                      refine wp_gen fun W5 hW5 => ?_
                      have X5 : Hid (LxAt W5 L s j b (.slice po no co) opn) := by rw [hW5]; exact HX.out
                      have B5 : Hid (Beside w.heap.size L w W5) := by rw [hW5]; exact (HB.out.drewN _).drewN _
                      have k0 := X5.out.cell0
                      have k1 := X5.out.cell1
                      clear hW5 c0 c1
                      go_still_tail 16, (by kernel_rfl)
                      change wpList _ _ _ _ _ (World.drew _)
                      go_wp2
                      obtain ⟨T, hT⟩ : ∃ T, s.extract j (j + 2 + k) = T := ⟨_, rfl⟩
                      rw [hT]
                      have XI : Hid (LxAt (W5.drew.iter T 0) L s j b (.slice po no co) opn) := X5.out.alloc _
                      have BI : Hid (Beside w.heap.size L w (W5.drew.iter T 0)) := B5.out.drew.alloc B5.out.size _
                      have hLW : L < W5.heap.size := X5.out.lt
                      clear hT
                      go_loopw [] (fun wv => ∃ (pos : Nat) (b' : Bool), wv.heap[W5.heap.size]? = some (.stringIter T pos) ∧ LxAt wv L s j b' (.slice po no co) opn ∧ Beside w.heap.size L w wv) (fun wv => T.size - wv.iterPos W5.heap.size)
                      case atStart => exact ⟨0, b, World.iter_heap W5.drew T 0, XI.out, BI.out⟩
                      case round =>
                        obtain ⟨pos, b', h4, h5, h6⟩ := hrel
                        have HI := Lib.hid h4
                        have HX := Lib.hid h5
                        have HB := Lib.hid h6
                        have PI : Hid (wr.iterPos W5.heap.size = pos) := by unfold World.iterPos Hid; rw [h4]
                        have hz5 := B5.out.size
                        clear h4 h5 h6 k0 k1
                        by_cases hpos : pos < T.size
                        · have hnx := fun ty => run_next_any_at (P := Tryz.prog) wr W5.heap.size T pos ty HI.out hpos
                          have hd := decodeN_pos (T.size - pos) (T.get! pos).toNat (T.get! (pos + 1)).toNat (T.get! (pos + 2)).toNat (T.get! (pos + 3)).toNat
                          rw [← decode_at] at hd
                          obtain ⟨cc, nn, hcn⟩ : ∃ cc nn, Utf8.decode T pos = (cc, nn) := ⟨_, _, rfl⟩
                          rw [hcn] at hnx hd
                          obtain ⟨V, hV⟩ : ∃ V, wr.iterAt W5.heap.size T (pos + nn) = V := ⟨_, rfl⟩
                          have HV : Hid (V.heap[W5.heap.size]? = some (.stringIter T (pos + nn))) := by rw [← hV]; exact iterAt_heap _ _ _ _ _ HI.out
                          have bV : ∀ q, q ≠ W5.heap.size → V.heap[q]? = wr.heap[q]? := fun q hq => by rw [← hV]; simp [World.iterAt, Array.getElem?_setIfInBounds, Ne.symm hq]
                          have XV := Lib.hid (HX.out.of_block (bV L (by omega)))
                          have BV : Hid (Beside w.heap.size L w V) := HB.out.trans ⟨by rw [← hV]; rfl, by rw [← hV]; rfl, by rw [← hV]; rfl, by rw [← hV]; simp [World.iterAt], fun q hq hl => bV q (by omega)⟩
                          simp only [hV] at hnx
                          have c2 := XV.out.cell2
                          have f2 := XV.out.free 2
                          clear hV bV hcn
                          cases b'
                          · go_wp2_with (first | (go_at_call 19; refine (isLine_weak _).mono ?_; rintro e w2 ⟨⟨r2, rfl⟩, rfl⟩; cases r2))
                            all_goals
                              refine ⟨⟨pos + nn, _, ?_, XV.out.set2 _, Beside.setCell BV.out (.inl rfl) _⟩, ?_⟩
                              · rw [Below.heap_setCell _ _ _ _ (by show W5.heap.size ≠ L; omega)]; exact HV.out
                              · refine meas2 PI.out (k := pos + nn) ?_ (by omega) hpos
                                unfold World.iterPos
                                rw [Below.heap_setCell _ _ _ _ (by show W5.heap.size ≠ L; omega), HV.out]
                          · go_wp2
                            all_goals
                              refine ⟨⟨pos + nn, _, ?_, XV.out.set2 _, Beside.setCell BV.out (.inl rfl) _⟩, ?_⟩
                              · rw [Below.heap_setCell _ _ _ _ (by show W5.heap.size ≠ L; omega)]; exact HV.out
                              · refine meas2 PI.out (k := pos + nn) ?_ (by omega) hpos
                                unfold World.iterPos
                                rw [Below.heap_setCell _ _ _ _ (by show W5.heap.size ≠ L; omega), HV.out]
                        · have hnx := fun ty => run_next_end_at (P := Tryz.prog) wr W5.heap.size T pos ty HI.out hpos
                          have c1 := HX.out.cell1
                          have f1 := HX.out.free 1
                          go_wp2
                          exact skip_go2 P0.out (HX.out.set1 (j + (2 + k + 2))) (Beside.setCell HB.out (.inl rfl) _) hij (by omega) (by omega)
                  · obtain hk2 : j + 2 + k = s.size := by omega
                    have g1 : ¬ ((j : Int) + 2 + (k : Int) < (s.size : Int)) := by omega
                    go_wp2_with (go_quiet (fail))
                    go_ret
                    exact ⟨2, rfl, fun h => absurd h (by decide), HB.out.drewN _⟩
            · as_aux_lemma =>
                have gq42 : ((q1 : Int) == 42) = false := by simpa using (by omega : ¬ (q1 : Int) = 42)
                have e0 : (j : Int) ≤ (s.size : Int) := by omega
                have e6 : (no : Int) ≤ 1099511627776 := by omega
                clear X4
                go_wp2_with (first | (go_at_call 18; refine (isBlank_any _ _).mono ?_; rintro e w2 ⟨⟨r2, rfl⟩, rfl⟩; cases r2) | (go_at_call 19; refine (isLine_any 47 _).mono ?_; rintro e w2 ⟨rfl, rfl⟩; rw [hln]) | (go_at_call 20; refine (ahead_any L s j 1 (j + 1) 1 rfl rfl _ (.slice po no co) opn _ (by first | exact X2.out | exact X2.out.drewN _ | exact (X2.out.drewN _).drewN _) (by omega) (by omega)).mono ?_; rintro e w2 ⟨rfl, q, rfl⟩; rw [hq1]))
                case roundEnd => exact skip_go P0.out X3.out (Beside.setCell B2.out (.inl rfl) _) hij hn1 hn2
                refine wp_gen fun W5 hW5 => ?_
                have X5 : Hid (LxAt W5 L s j b (.slice po no co) opn) := by rw [hW5]; exact X2.out
                have B5 : Hid (Beside w.heap.size L w W5) := by rw [hW5]; exact B2.out.drewN _
                have k0 := X5.out.cell0
                have k1 := X5.out.cell1
                have k2 := X5.out.cell2
                have k3 := X5.out.cell3
                clear hW5 c0 c1 c2 c3 f1 f2
                cases hp1 : hpB (s.extract j s.size) ⟨#[60, 33, 45, 45]⟩
                · cases hp2 : hpB (s.extract j s.size) ⟨#[45, 45, 62]⟩
                  · go_wp2_with (go_quiet (first | (go_at_call 10; refine Calls.quiet_of_same (hasPre_v _ _ _ _ hp1)) | (go_at_call 10; refine Calls.quiet_of_same (hasPre_v _ _ _ _ hp2))))
                    go_ret
                    exact ⟨1, rfl, fun _ => ⟨j, b, hij, hj, X5.out.drewN _⟩, B5.out.drewN _⟩
                  · cases b
                    all_goals
                      go_wp2_with (go_quiet (first | (go_at_call 10; refine Calls.quiet_of_same (hasPre_v _ _ _ _ hp1)) | (go_at_call 10; refine Calls.quiet_of_same (hasPre_v _ _ _ _ hp2))))
                      all_goals first
                        | (go_ret; exact ⟨1, rfl, fun _ => ⟨j, _, hij, hj, X5.out.drewN _⟩, B5.out.drewN _⟩)
                        | (go_ret; exact ⟨0, rfl, fun h => absurd h (by decide), B5.out.drewN _⟩)
                · go_wp2_with (go_quiet (first | (go_at_call 10; refine Calls.quiet_of_same (hasPre_v _ _ _ _ hp1))))
                  go_ret
                  exact ⟨0, rfl, fun h => absurd h (by decide), B5.out.drewN _⟩
        · as_aux_lemma =>
            have g47 : ((c : Int) == 47) = false := by simpa using (by omega : ¬ (c : Int) = 47)
            have e0 : (j : Int) ≤ (s.size : Int) := by omega
            have e6 : (no : Int) ≤ 1099511627776 := by omega
            clear X4
            cases hp1 : hpB (s.extract j s.size) ⟨#[60, 33, 45, 45]⟩
            · cases hp2 : hpB (s.extract j s.size) ⟨#[45, 45, 62]⟩
              · go_wp2_with (first | (go_at_call 18; refine (isBlank_any _ _).mono ?_; rintro e w2 ⟨⟨r2, rfl⟩, rfl⟩; cases r2) | (go_at_call 19; refine (isLine_any c _).mono ?_; rintro e w2 ⟨rfl, rfl⟩; rw [hln]) | go_quiet (first | (go_at_call 10; refine Calls.quiet_of_same (hasPre_v _ _ _ _ hp1)) | (go_at_call 10; refine Calls.quiet_of_same (hasPre_v _ _ _ _ hp2))))
                case roundEnd => exact skip_go P0.out X3.out (Beside.setCell B2.out (.inl rfl) _) hij hn1 hn2
                all_goals first
                  | (go_ret; exact ⟨1, rfl, fun _ => ⟨j, b, hij, hj, X2.out.drewN _⟩, B2.out.drewN _⟩)
                  | (go_ret; exact ⟨1, rfl, fun _ => ⟨j, b, hij, hj, (X2.out.drewN _).drewN _⟩, (B2.out.drewN _).drewN _⟩)
              · cases b
                all_goals
                  go_wp2_with (first | (go_at_call 18; refine (isBlank_any _ _).mono ?_; rintro e w2 ⟨⟨r2, rfl⟩, rfl⟩; cases r2) | (go_at_call 19; refine (isLine_any c _).mono ?_; rintro e w2 ⟨rfl, rfl⟩; rw [hln]) | go_quiet (first | (go_at_call 10; refine Calls.quiet_of_same (hasPre_v _ _ _ _ hp1)) | (go_at_call 10; refine Calls.quiet_of_same (hasPre_v _ _ _ _ hp2))))
                  case roundEnd => exact skip_go P0.out X3.out (Beside.setCell B2.out (.inl rfl) _) hij hn1 hn2
                  all_goals first
                    | (go_ret; exact ⟨1, rfl, fun _ => ⟨j, _, hij, hj, X2.out.drewN _⟩, B2.out.drewN _⟩)
                    | (go_ret; exact ⟨1, rfl, fun _ => ⟨j, _, hij, hj, (X2.out.drewN _).drewN _⟩, (B2.out.drewN _).drewN _⟩)
                    | (go_ret; exact ⟨0, rfl, fun h => absurd h (by decide), B2.out.drewN _⟩)
                    | (go_ret; exact ⟨0, rfl, fun h => absurd h (by decide), (B2.out.drewN _).drewN _⟩)
            · go_wp2_with (first | (go_at_call 18; refine (isBlank_any _ _).mono ?_; rintro e w2 ⟨⟨r2, rfl⟩, rfl⟩; cases r2) | (go_at_call 19; refine (isLine_any c _).mono ?_; rintro e w2 ⟨rfl, rfl⟩; rw [hln]) | go_quiet (first | (go_at_call 10; refine Calls.quiet_of_same (hasPre_v _ _ _ _ hp1))))
              case roundEnd => exact skip_go P0.out X3.out (Beside.setCell B2.out (.inl rfl) _) hij hn1 hn2
              all_goals first
                | (go_ret; exact ⟨0, rfl, fun h => absurd h (by decide), B2.out.drewN _⟩)
                | (go_ret; exact ⟨0, rfl, fun h => absurd h (by decide), (B2.out.drewN _).drewN _⟩)
      · go_wp2_with (first | (go_at_call 18; refine (isBlank_any _ _).mono ?_; rintro e w2 ⟨⟨r2, rfl⟩, rfl⟩; cases r2) | (go_at_call 19; refine (isLine_any c _).mono ?_; rintro e w2 ⟨rfl, rfl⟩; rw [hln]))
        all_goals first
          | exact skip_go P0.out X3.out (Beside.setCell B2.out (.inl rfl) _) hij hn1 hn2
          | exact skip_go P0.out X4.out (Beside.setCell (Beside.setCell B2.out (.inl rfl) _) (.inl rfl) _) hij hn1 hn2
    · obtain rfl : j = s.size := by omega
      rw [if_neg (Nat.lt_irrefl _), rn_end (Nat.le_refl _)] at hh
      go_wp2_with fail
      refine hh.mono ?_
      clear hh
      rintro e w1 ⟨rfl, hb1⟩
      go_wp2
      go_ret
      exact ⟨1, rfl, fun _ => ⟨s.size, b, hi, Nat.le_refl _, HX.out.below hb1 HX.out.lt⟩, HB.out.trans (.of_below (hb1.mono HB.out.size))⟩
end Go.Proofs.YthknielnhmoobaaGreatDoor
