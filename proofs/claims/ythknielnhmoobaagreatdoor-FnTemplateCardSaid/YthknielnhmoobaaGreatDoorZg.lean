/- The reference's lexer at any text: decimal numbers. -/
import Derived.Test.YthknielnhmoobaaGreatDoorZf
import Derived.Deep.Cut
namespace Go.Proofs.YthknielnhmoobaaGreatDoor
open Go.RowKit Go.Lib

theorem Mid.set_other {w W : World} {L B j : Nat} {s : ByteArray} {nl : Bool} {out opn : Value} (h : Mid w L s nl out opn B j W) (p : Addr) (v : Value) (hp : w.heap.size ≤ p.block) (hB : B ≠ p.block) : Mid w L s nl out opn B j (W.setCell p v) :=
  ⟨h.lx.set_other _ _ (by have := h.hL; omega), h.bs.setCell (.inr hp) _, h.tk.set_other _ _ hB, h.low, h.hL, h.hT⟩
set_option maxRecDepth 100000 in
theorem fint_run (x : Nat) (w : World) : ∃ n q, (convert 32 3 (.float .f64 x)).run Tryz.prog w = .ok (.int .i64 n) (w.drewN q) := by
  cases h : floatToIntVal .f64 x .i64 with
  | some n => exact ⟨n, 0, run_convert_float_int w 32 3 .f64 .i64 x n rfl rfl h⟩
  | none =>
    have hu := Tryz.underlying32
    have hd := Tryz.underlying3
    unfold floatToIntVal at h
    by_cases hf : (Question.floatToInt .f64 x .i64).forced = true
    · refine ⟨IntKind.i64.wrap 0, 0, ?_⟩
      split at h
      · rename_i m he
        split at h
        · cases h
        · rename_i hb
          have hb2 : ¬ (IntKind.i64.min ≤ m ∧ m ≤ 9223372036854775807) := hb
          simp [convert, run_underlying hu, run_underlying hd, Conv.floatToInt, he, hf]; rw [if_neg hb2]; rfl
      · rename_i he
        simp [convert, run_underlying hu, run_underlying hd, Conv.floatToInt, he, hf]; rfl
    · refine ⟨IntKind.i64.wrap ((Question.floatToInt .f64 x .i64).cut (w.tape w.drawn (.floatToInt .f64 x .i64))), 1, ?_⟩
      split at h
      · rename_i m he
        split at h
        · cases h
        · rename_i hb
          have hb2 : ¬ (IntKind.i64.min ≤ m ∧ m ≤ 9223372036854775807) := hb
          simp [convert, run_underlying hu, run_underlying hd, Conv.floatToInt, he, hf]; rw [if_neg hb2]; rfl
      · rename_i he
        simp [convert, run_underlying hu, run_underlying hd, Conv.floatToInt, he, hf]; rfl
set_option maxRecDepth 100000 in
set_option maxHeartbeats 4000000 in
theorem decimal_any (L : Nat) (s : ByteArray) (i : Nat) (nl : Bool) (out opn : Value) (w : World) (h : LxAt w L s i nl out opn) (hi : i ≤ s.size) (hs : s.size ≤ 1048576) (hT : Tabs L w) :
    Calls Tryz.prog 37 #[.pointer (some ⟨L, 0, none⟩)] w (TokP w L s nl out opn i) := by
  have M0 := Lib.hid (Mid.start h hT)
  have hL := h.lt
  clear h hT
  go_enter Tryz.func37, Tryz.ntmps37
  go_wp2_with fail
  obtain ⟨W, hW⟩ : ∃ W, w.alloc (.cells #[.int .i64 0, .int .i64 0, .int .i64 0, .string ⟨#[]⟩, .slice none 0 0, .float .f64 0, .bool false, .bool false] 34) = W := ⟨_, rfl⟩
  rw [hW]
  have M1 : Hid (Mid w L s nl out opn w.heap.size i W) := by rw [← hW]; exact M0.out
  clear M0 hW
  obtain ⟨q0, hq0⟩ : ∃ x, bt s i = x := ⟨_, rfl⟩
  refine (ahead_any L s i 0 i 0 rfl rfl nl out opn _ M1.out.lx (by omega) (by omega)).mono ?_
  rintro e w2 ⟨rfl, q, rfl⟩
  rw [hq0]
  go_upto_if 19 with (fail)
  go_cut [4, 7] from 17 (fun v4 v7 wr => ∃ (t : ByteArray) (r : Bool) (j : Nat), v4 = .string t ∧ v7 = .bool r ∧ t.size ≤ 4194304 ∧ (i < j ∨ bt s j = 46) ∧ i ≤ j ∧ j ≤ s.size ∧ Mid w L s nl out opn w.heap.size j wr)
  case first =>
    have M2 := Lib.hid (M1.out.drewN q)
    by_cases h46 : q0 = 46
    · subst h46
      go_wp2
      go_meet
      case rel => exact ⟨_, _, i, rfl, rfl, Nat.zero_le _, .inr hq0, Nat.le_refl _, hi, M2.out⟩
    · have g : ((q0 : Int) != 46) = true := by simpa using (by omega : ¬ (q0 : Int) = 46)
      go_wp2_with fail
      refine (run_any L s i 10 nl out opn _ M2.out.lx hi hs).mono ?_
      rintro e w3 ⟨t, ht, ⟨rfl, hj, hb⟩ | ⟨rfl, hj, hb⟩⟩
      · obtain ⟨j, h1, h2, h3⟩ := hj rfl
        have M3 := Lib.hid (M2.out.on h3 hb)
        have c1 := h3.cell1
        have f1 := h3.free 1
        obtain ⟨q1, hq1⟩ : ∃ x, bt s j = x := ⟨_, rfl⟩
        clear hj hb h3 g
        by_cases h110 : q1 = 110
        · subst h110
          have hjs := bt_some (s := s) (i := j) (by omega)
          go_wp2_with (first | (go_at_call 20; refine (ahead_any L s j 0 j 0 rfl rfl nl out opn _ M3.out.lx (by omega) (by omega)).mono ?_; rintro e w2 ⟨rfl, q3, rfl⟩))
          have M4 := Lib.hid ((M3.out.drewN q3).set1 (j + 1))
          refine (ended_any L s (j + 1) nl out opn _ 6 0 false M4.out.lx (by omega) M4.out.tabs).mono ?_
          rintro e w3 ⟨v, ⟨k1, a1, b1, t1, p1, n1, c1, f1, x1, y1, rfl⟩, he⟩
          have HE := Lib.hid he
          have A2 := (M4.out.off he.2).2
          obtain ⟨d0, d1, d2, d3, d4, d5, d6, d7⟩ := A2.cells
          have df := A2.free
          have A3 := Lib.hid A2
          unfold tokV
          clear he A2
          go_wp2
          refine tok_ret (by rfl) (by rfl) (by rfl) (by rfl) (TokAt.set A3.out) ?_
          exact tok_last M4.out HE.out (by omega) (by omega)
        · have g : ((q1 : Int) == 110) = false := by simpa using (by omega : ¬ (q1 : Int) = 110)
          go_wp2_with (first | (go_at_call 20; refine (ahead_any L s j 0 j 0 rfl rfl nl out opn _ M3.out.lx (by omega) (by omega)).mono ?_; rintro e w2 ⟨rfl, q3, rfl⟩))
          go_meet
          case rel => exact ⟨_, _, j, rfl, rfl, ht, .inl h1, by omega, h2, M3.out.drewN q3⟩
      · have A2 := (M2.out.off hb).2
        obtain ⟨d0, d1, d2, d3, d4, d5, d6, d7⟩ := A2.cells
        have df := A2.free
        have A3 := Lib.hid A2
        have HB := Lib.hid hb
        clear hb A2 hj
        go_wp2
        refine tok_ret (by rfl) (by rfl) (by rfl) (by rfl) (TokAt.set A3.out) ?_
        exact tok_bad M2.out HB.out (by decide)
  case rest =>
    obtain ⟨t, r, j, rfl, rfl, ht, hij, hle, hj, hM⟩ := hcut
    have M2 := Lib.hid hM
    clear hM
    obtain ⟨q1, hq1⟩ : ∃ x, bt s j = x := ⟨_, rfl⟩
    have hq2 := bt_lt s j
    go_upto_if 45 with (go_at_call 20; refine (ahead_any L s j 0 j 0 rfl rfl nl out opn _ M2.out.lx (by omega) (by omega)).mono ?_; rintro e w2 ⟨rfl, q2, rfl⟩; rw [hq1])
    have M3 := Lib.hid (M2.out.drewN q2)
    have c1 := M2.out.lx.cell1
    have f1 := M2.out.lx.free 1
    clear M2
    go_cut [5, 6, 7] from 17 (fun v5 v6 v7 wr => ∃ (fr : ByteArray) (pl r : Bool) (j : Nat), v5 = .string fr ∧ v6 = .bool pl ∧ v7 = .bool r ∧ fr.size ≤ 4194304 ∧ i < j ∧ j ≤ s.size ∧ Mid w L s nl out opn w.heap.size j wr)
    case first =>
      by_cases h46 : q1 = 46
      · subst h46
        have hjs := bt_some (s := s) (i := j) (by omega)
        go_wp2_with fail
        have M4 := Lib.hid (M3.out.set1 (j + 1))
        refine (ahead_any L s (j + 1) 0 (j + 1) 0 rfl rfl nl out opn _ M4.out.lx (by omega) (by omega)).mono ?_
        rintro e w4 ⟨rfl, q4, rfl⟩
        have M5 := Lib.hid (M4.out.drewN q4)
        clear M4
        go_wp2_with fail
        refine (isDigit_weak _ _).mono ?_
        rintro e w5 ⟨⟨r2, rfl⟩, rfl⟩
        cases r2
        · go_wp2
          go_meet
          case rel => exact ⟨_, _, _, j + 1, rfl, rfl, rfl, Nat.zero_le _, by omega, by omega, M5.out⟩
        · go_wp2_with fail
          refine (run_any L s (j + 1) 10 nl out opn _ M5.out.lx (by omega) hs).mono ?_
          rintro e w6 ⟨t2, ht2, ⟨rfl, hj6, hb6⟩ | ⟨rfl, hj6, hb6⟩⟩
          · obtain ⟨j6, h1, h2, h3⟩ := hj6 rfl
            have M6 := Lib.hid (M5.out.on h3 hb6)
            clear hj6 hb6 h3
            go_wp2
            go_meet
            case rel => exact ⟨_, _, _, j6, rfl, rfl, rfl, ht2, by omega, by omega, M6.out⟩
          · have A2 := (M5.out.off hb6).2
            obtain ⟨d0, d1, d2, d3, d4, d5, d6, d7⟩ := A2.cells
            have df := A2.free
            have A3 := Lib.hid A2
            have HB := Lib.hid hb6
            clear hb6 A2 hj6
            go_wp2
            refine tok_ret (by rfl) (by rfl) (by rfl) (by rfl) (TokAt.set A3.out) ?_
            exact tok_bad M5.out HB.out (by decide)
      · have g : ((q1 : Int) == 46) = false := by simpa using (by omega : ¬ (q1 : Int) = 46)
        go_wp2
        go_meet
        case rel => exact ⟨_, _, _, j, rfl, rfl, rfl, Nat.zero_le _, by omega, hj, M3.out⟩
    case rest =>
      obtain ⟨fr, pl, r7, k, rfl, rfl, rfl, hfr, hik, hk, hM⟩ := hcut
      have M4 := Lib.hid hM
      have c2 := hM.lx.cell1
      have f2 := hM.lx.free 1
      clear hM M3 c1 f1 hij hq1
      obtain ⟨q5, hq5⟩ : ∃ x, bt s k = x := ⟨_, rfl⟩
      have hq6 := bt_lt s k
      go_upto_region 19 with (go_at_call 20; refine (ahead_any L s k 0 k 0 rfl rfl nl out opn _ M4.out.lx (by omega) (by omega)).mono ?_; rintro e w2 ⟨rfl, q2, rfl⟩; rw [hq5])
      have M5 := Lib.hid (M4.out.drewN q2)
      clear M4
      go_cut [71] from 17 (fun v wr => ∃ b, v = .bool b ∧ (b = true → k < s.size) ∧ Mid w L s nl out opn w.heap.size k wr)
      case first =>
        by_cases hks : k < s.size
        · go_wp2
          all_goals
            go_meet
            case rel => exact ⟨_, rfl, fun _ => hks, M5.out⟩
        · have h0 : q5 = 0 := by rw [← hq5]; exact bt_end (by omega)
          subst h0
          go_wp2
          all_goals
            go_meet
            case rel => exact ⟨_, rfl, (fun h => absurd h (by decide)), M5.out⟩
      case rest =>
        obtain ⟨b, rfl, hb, hM⟩ := hcut
        have M6 := Lib.hid hM
        have HB := Lib.hid hb
        have c3 := hM.lx.cell1
        have f3 := hM.lx.free 1
        clear hM M5 c2 f2 hb
        go_upto_if 71 with (fail)
        go_cut [6, 8, 9] from 17 (fun v6 v8 v9 wr => ∃ (pl : Bool) (n : Int) (far : Bool) (j : Nat), v6 = .bool pl ∧ v8 = .int .i64 n ∧ v9 = .bool far ∧ i < j ∧ j ≤ s.size ∧ Mid w L s nl out opn w.heap.size j wr)
        case first =>
          cases b
          · go_wp2
            go_meet
            case rel => exact ⟨_, _, _, k, rfl, rfl, rfl, hik, hk, M6.out⟩
          · have hks := HB.out (by trivial)
            obtain ⟨q6, hq6⟩ : ∃ x, bt s (k + 1) = x := ⟨_, rfl⟩
            have hq7 := bt_lt s (k + 1)
            have M7 := Lib.hid (M6.out.set1 (k + 1))
            clear HB
            go_upto_region 23 with (go_at_call 20; refine (ahead_any L s (k + 1) 0 (k + 1) 0 rfl rfl nl out opn _ M7.out.lx (by omega) (by omega)).mono ?_; rintro e w2 ⟨rfl, q2, rfl⟩; rw [hq6])
            have M8 := Lib.hid (M7.out.drewN q2)
            clear M6 M7 c3 f3
            go_cut [11, 87] from 17 (fun v v' wr => ∃ m b, v = .bool m ∧ v' = .bool b ∧ (b = true → k + 1 < s.size) ∧ Mid w L s nl out opn w.heap.size (k + 1) wr)
            case first =>
              by_cases hks1 : k + 1 < s.size
              · go_wp2_with (go_at_call 20; refine (ahead_any L s (k + 1) 0 (k + 1) 0 rfl rfl nl out opn _ M8.out.lx (by omega) (by omega)).mono ?_; rintro e w2 ⟨rfl, q3, rfl⟩; rw [hq6])
                all_goals
                  go_meet
                  case rel => first | exact ⟨_, _, rfl, rfl, fun _ => hks1, M8.out⟩ | exact ⟨_, _, rfl, rfl, fun _ => hks1, by have h := M8.out.drewN q3; rwa [World.drewN_drewN] at h⟩
              · have h0 : q6 = 0 := by rw [← hq6]; exact bt_end (by omega)
                subst h0
                go_wp2_with (go_at_call 20; refine (ahead_any L s (k + 1) 0 (k + 1) 0 rfl rfl nl out opn _ M8.out.lx (by omega) (by omega)).mono ?_; rintro e w2 ⟨rfl, q3, rfl⟩; rw [hq6])
                all_goals
                  go_meet
                  case rel => first | exact ⟨_, _, rfl, rfl, (fun h => absurd h (by decide)), M8.out⟩ | exact ⟨_, _, rfl, rfl, (fun h => absurd h (by decide)), by have h := M8.out.drewN q3; rwa [World.drewN_drewN] at h⟩
            case rest =>
              obtain ⟨mn, b, rfl, rfl, hb, hM⟩ := hcut
              have M9 := Lib.hid hM
              have HB := Lib.hid hb
              have c4 := hM.lx.cell1
              have f4 := hM.lx.free 1
              clear hM M8 hb hq6
              go_upto_if 87 with (fail)
              go_cut [] from 17 (fun wr => ∃ j, k < j ∧ j ≤ s.size ∧ Mid w L s nl out opn w.heap.size j wr)
              case first =>
                cases b
                · go_wp2
                  go_meet
                  case rel => exact ⟨k + 1, by omega, by omega, M9.out⟩
                · have hks2 := HB.out (by trivial)
                  go_wp2
                  go_meet
                  case rel => exact ⟨k + 2, by omega, by omega, M9.out.set1 (k + 2)⟩
              case rest =>
                obtain ⟨j9, hkj, hj9, hM⟩ := hcut
                have MA := Lib.hid hM
                clear hM M9 c4 f4 HB
                go_wp2_with fail
                refine (run_any L s j9 10 nl out opn _ MA.out.lx hj9 hs).mono ?_
                rintro e w6 ⟨t2, ht2, ⟨rfl, hj6, hb6⟩ | ⟨rfl, hj6, hb6⟩⟩
                · obtain ⟨j6, h1, h2, h3⟩ := hj6 rfl
                  have MB := Lib.hid (MA.out.on h3 hb6)
                  clear hj6 hb6 h3
                  go_wp2_with fail
                  refine (bare_any t2 _ (by omega)).mono ?_
                  rintro e w7 ⟨t3, rfl, ht3, rfl⟩
                  go_wp2_with fail
                  refine (whole_any t3 10 _ (by omega)).mono ?_
                  rintro e w8 ⟨⟨x8, r8, rfl⟩, rfl⟩
                  obtain ⟨n9, q9, hcv⟩ := fint_run x8 w6
                  cases r8 <;> cases mn
                  all_goals
                    go_wp2
                    all_goals
                      go_meet
                      case rel => first | exact ⟨_, _, _, j6, rfl, rfl, rfl, by omega, by omega, MB.out⟩ | exact ⟨_, _, _, j6, rfl, rfl, rfl, by omega, by omega, MB.out.drewN _⟩
                · have A2 := (MA.out.off hb6).2
                  obtain ⟨d0, d1, d2, d3, d4, d5, d6, d7⟩ := A2.cells
                  have df := A2.free
                  have A3 := Lib.hid A2
                  have HB := Lib.hid hb6
                  clear hb6 A2 hj6
                  go_wp2
                  refine tok_ret (by rfl) (by rfl) (by rfl) (by rfl) (TokAt.set A3.out) ?_
                  exact tok_bad MA.out HB.out (by decide)
        case rest =>
          obtain ⟨pl2, n2, far, j2, rfl, rfl, rfl, hij2, hj2, hM⟩ := hcut
          have M7 := Lib.hid hM
          clear hM M6 c3 f3 HB
          go_wp2_with fail
          obtain ⟨W8, hW8⟩ : ∃ W8, wc.alloc (.cells #[.int .i64 5, .int .i64 0, .int .i64 0, .string ⟨#[]⟩, .slice none 0 0, .float .f64 0, .bool false, .bool false] 34) = W8 := ⟨_, rfl⟩
          rw [hW8]
          have T8 : TokAt W8 wc.heap.size 5 0 0 ⟨#[]⟩ (.slice none 0 0) 0 false false := by rw [← hW8]; exact heap_alloc_new _ _
          have M8 : Hid (Mid w L s nl out opn w.heap.size j2 W8) := by rw [← hW8]; exact M7.out.on (M7.out.lx.alloc _) ((Beside.refl _ _ _).alloc (Nat.le_refl _) _)
          have hz8 := M7.out.size
          have hz9 := M7.out.tk.lt
          obtain ⟨e0, e1, e2, e3, e4, e5, e6, e7⟩ := T8.cells
          have ef := T8.free
          clear hW8 T8
          have hml : (t ++ fr).size ≤ 4611686018427387904 := by rw [ByteArray.size_append]; omega
          refine (value_any t fr n2 pl2 W8 ht hfr).mono ?_
          rintro e w9 ⟨⟨x9, r9, rfl⟩, q9, rfl⟩
          have MM : ∀ v5 v7, Hid (Mid w L s nl out opn w.heap.size j2 (((W8.drewN q9).setCell ⟨wc.heap.size, 5, none⟩ v5).setCell ⟨wc.heap.size, 7, none⟩ v7)) := fun v5 v7 => ((M8.out.drewN q9).set_other _ _ hz8 (by show w.heap.size ≠ wc.heap.size; omega)).set_other _ _ hz8 (by show w.heap.size ≠ wc.heap.size; omega)
          cases r9 <;> cases far
          all_goals
            go_wp2_with (go_at_call 55; refine (bare_any _ _ hml).mono ?_; rintro e w' ⟨t9, rfl, ht9, rfl⟩)
          all_goals
            refine (ended_any L s j2 nl out opn _ 5 _ _ (MM _ _).out.lx (by omega) (MM _ _).out.tabs).mono ?_
            rintro e w3 ⟨v, ⟨k1, a1, b1, t1, p1, n1, c1, f1, x1, y1, rfl⟩, he⟩
            have HE := Lib.hid he
            have A2 := ((MM _ _).out.off he.2).2
            obtain ⟨d0, d1, d2, d3, d4, d5, d6, d7⟩ := A2.cells
            have df := A2.free
            have A3 := Lib.hid A2
            unfold tokV
            clear he A2
            go_wp2
            refine tok_ret (by rfl) (by rfl) (by rfl) (by rfl) (TokAt.set A3.out) ?_
            exact tok_last (MM _ _).out HE.out (by omega) (by omega)
end Go.Proofs.YthknielnhmoobaaGreatDoor
