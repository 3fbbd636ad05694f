/- The walk of the reference's Inside. -/
import Derived.Test.YtolgapijpejpoaaDoorEsc
import Derived.Test.YtolgapijpejpoaaDoorShelfV
namespace Go.Proofs.YtolgapijpejpoaaDoor
open Go.RowKit Go.Lib

theorem valid_any (s : ByteArray) (w : World) (hs : s.size ≤ 9223372036854775807) (hT : Lib.Utf8Tabs 2 3 w) :
    Calls Tryd.prog 13 #[.string s] w fun e w' => e = .returned (.bool (Lib.validD s.data.toList)) ∧ Below w.heap.size w w' :=
  Any.utf8_ValidString Tryd.lays196 s w hs hT
def insTop (s : ByteArray) : IR := if 1048576 < s.size then .opn else if Lib.validD s.data.toList = false then .opn else insF s (s.size + 1) 0 []
def InsPost (w : World) : IR → Ending → World → Prop
  | .right u, e, w' => ∃ v', e = .returned (.tuple #[v', .int .i64 1]) ∧ Row w' w.heap.size v' u ∧ Below w.heap.size w w'
  | .wrong, e, w' => e = .returned (.tuple #[.slice none 0 0, .int .i64 2]) ∧ Below w.heap.size w w'
  | .opn, e, w' => e = .returned (.tuple #[.slice none 0 0, .int .i64 0]) ∧ Below w.heap.size w w'
/-- Where the lexer of block L stands: for a loop's measure. -/
def lxPos (w : World) (L : Nat) : Nat := match w.cell? ⟨L, 1, none⟩ with | some (.int _ n) => n.toNat | _ => 0
theorem LxAt.pos {w : World} {L i : Nat} {s : ByteArray} {nl : Bool} {out opn : Value} (h : LxAt w L s i nl out opn) : lxPos w L = i := by unfold lxPos; rw [h.cell1]; simp
set_option maxRecDepth 100000 in
set_option maxHeartbeats 2000000 in
theorem inside_any (s : ByteArray) (w : World) (B : Nat) (hT : Tabs B w) (hB : B ≤ w.heap.size) (hs : s.size ≤ 2305843009213693951) :
    Calls Tryd.prog 8 #[.string s] w (InsPost w (insTop s)) := by
  have HT := Lib.hid hT
  clear hT
  by_cases hbig : 1048576 < s.size
  · have g : (1048576 : Int) < (s.size : Int) := by omega
    have HE : Hid (insTop s = .opn) := by unfold insTop Hid; rw [if_pos hbig]
    clear hbig
    go_enter Tryd.func8, Tryd.ntmps8
    go_wp2
    go_ret2
    rw [HE.out]
    exact ⟨rfl, Below.refl _ _⟩
  have g : (s.size : Int) ≤ 1048576 := by omega
  cases hv : Lib.validD s.data.toList with
  | false =>
    have HV := Lib.hid hv
    have HE : Hid (insTop s = .opn) := by unfold insTop Hid; rw [if_neg hbig, if_pos hv]
    clear hbig hv
    go_enter Tryd.func8, Tryd.ntmps8
    go_wp2_with (go_at_call 13; refine (valid_any s _ (by omega) (by exact HT.out.tabs)).mono ?_; rw [HV.out]; rintro e w1 ⟨rfl, hb⟩)
    go_ret2
    rw [HE.out]
    exact ⟨rfl, hb⟩
  | true =>
    have HV := Lib.hid hv
    obtain ⟨R, hR⟩ : ∃ R, insF s (s.size + 1) 0 [] = R := ⟨_, rfl⟩
    have HE : Hid (insTop s = R) := by unfold insTop Hid; rw [if_neg hbig, if_neg (by rw [hv]; simp)]; exact hR
    have HR := Lib.hid hR
    rw [HE.out]
    clear hbig hv hR
    go_enter Tryd.func8, Tryd.ntmps8
    go_wp2_with (go_at_call 13; refine (valid_any s _ (by omega) (by exact HT.out.tabs)).mono ?_; rw [HV.out]; rintro e w1 ⟨rfl, hb⟩)
    have T1 : Hid (Tabs B w1) := HT.out.below hb hB
    have hz1 := hb.size
    have B1 := Lib.hid hb
    clear hb
    obtain ⟨L, hL⟩ : ∃ L, w1.heap.size = L := ⟨_, rfl⟩
    obtain ⟨W0, hW0⟩ : ∃ W0, w1.alloc (.cells #[.string s, .int .i64 0, .bool false, .slice none 0 0, .slice none 0 0] 36) = W0 := ⟨_, rfl⟩
    have X0 : Hid (LxAt W0 L s 0 false (.slice none 0 0) (.slice none 0 0)) := by
      rw [← hW0, ← hL]; exact heap_alloc_new w1 _
    have S0 : Hid (Beside (L + 1) L w1 W0) := by rw [← hW0]; exact ⟨rfl, rfl, rfl, by simp, fun k hk hl => Below.heap_alloc _ _ _ (by omega)⟩
    have Z0 : W0.heap.size = L + 1 := by rw [← hW0]; simp [hL]
    rw [hW0, hL]
    have HL1 : Hid (w1.heap.size = L) := hL
    clear hW0 hL
    have hBL : B ≤ L := by have := HL1.out; omega
    have hwL : w.heap.size ≤ L := by have := HL1.out; omega
    have HZ := Lib.hid Z0
    clear Z0
    go_loopw [5] (fun v wr => ∃ (i k : Nat) (u : List Nat), i ≤ s.size ∧ s.size < i + k ∧ u.length ≤ 2 * i ∧ insF s k i u = R ∧ Row wr (L + 1) v u ∧ LxAt wr L s i false (.slice none 0 0) (.slice none 0 0) ∧ Beside (L + 1) L w1 wr) (fun _ wr => s.size - lxPos wr L)
    case atStart => exact ⟨0, s.size + 1, [], by omega, by omega, by simp, HR.out, World.ownsRow_nil _ _ _ _, X0.out, S0.out⟩
    case round =>
      obtain ⟨i, k, u, hi, hk, hul, hins, hrow, hlx, hbs⟩ := hrel
      have HI := Lib.hid hins
      have HW := Lib.hid hrow
      have HX := Lib.hid hlx
      have HS := Lib.hid hbs
      have hlt := hlx.lt
      clear hins hrow hlx hbs
      have TR : Hid (Tabs L wr) := (T1.out.beside (HS.out.mono (Nat.le_succ_of_le hBL)) (Nat.le_refl _) hBL).mono hBL
      obtain ⟨f, rfl⟩ : ∃ f, k = f + 1 := ⟨k - 1, by omega⟩
      have hh := here_any L s i false (.slice none 0 0) (.slice none 0 0) wr HX.out hi TR.out.tabs
      have BW : Hid (Below w.heap.size w wr) := B1.out.trans ((HS.out.mono (by omega)).below hwL)
      have hzr := BW.out.size
      by_cases hlt2 : i < s.size
      · obtain ⟨c, n, hcn⟩ : ∃ c n, rn s i = (c, n) := ⟨_, _, rfl⟩
        have hn1 : 1 ≤ n := by have := rn_pos hlt2; rw [hcn] at this; exact this
        have hn2 : i + n ≤ s.size := by have := rn_le (s := s) (i := i) (by omega); rw [hcn] at this; exact this
        have hc : c ≤ 1114111 := by have := rn_rune s i; rw [hcn] at this; exact this
        have hn0 : ((n : Int) == 0) = false := by simpa using (by omega : ¬ (n : Int) = 0)
        rw [if_pos hlt2, hcn] at hh
        have HH := Lib.hid hh
        have hI := HI.out
        unfold insF at hI
        rw [if_neg (by omega), hcn] at hI
        simp only at hI
        have HC := Lib.hid hcn
        clear hh hcn HI
        by_cases hnl : c = 10 ∨ c = 13
        · rw [if_pos hnl] at hI
          have HI := Lib.hid hI
          have hnl' : ((c : Int) == 10) = true ∨ (((c : Int) == 10) = false ∧ ((c : Int) == 13) = true) := by
            rcases hnl with rfl | rfl
            · exact .inl rfl
            · exact .inr ⟨rfl, rfl⟩
          clear hnl hI
          rcases hnl' with g1 | ⟨g1, g2⟩
          all_goals
            go_wp2_with (go_at_call 14; refine HH.out.mono ?_; rintro e w2 ⟨rfl, hb⟩)
            go_ret2
            obtain rfl : .opn = R := HI.out
            exact ⟨rfl, BW.out.trans (hb.mono hzr)⟩
        · rw [if_neg hnl] at hI
          have g1 : ((c : Int) == 10) = false := by simpa using (by omega : ¬ (c : Int) = 10)
          have g2 : ((c : Int) == 13) = false := by simpa using (by omega : ¬ (c : Int) = 13)
          by_cases h92 : c = 92
          · rw [if_neg (by omega)] at hI
            have g3 : ((c : Int) != 92) = false := by rw [h92]; rfl
            by_cases hend : i + n = s.size
            · rw [if_pos hend] at hI
              have g4 : ((i : Int) + (n : Int) == (s.size : Int)) = true := by simpa using (by omega : (i : Int) + (n : Int) = (s.size : Int))
              have HI := Lib.hid hI
              clear hI h92 hnl hend
              go_wp2_with fail
              refine HH.out.mono ?_
              rintro e w2 ⟨rfl, hb⟩
              have X2 := Lib.hid (HX.out.below hb hlt)
              have c1 := X2.out.cell1
              have f1 := X2.out.free 1
              go_wp2
              go_ret2
              obtain rfl : .opn = R := HI.out
              exact ⟨rfl, (BW.out.trans (hb.mono hzr)).setCell hwL _⟩
            · rw [if_neg hend] at hI
              have g4 : ((i : Int) + (n : Int) == (s.size : Int)) = false := by simpa using (by omega : ¬ (i : Int) + (n : Int) = (s.size : Int))
              have HI := Lib.hid hI
              clear hI h92 hnl
              go_wp2_with fail
              refine HH.out.mono ?_
              rintro e w2 ⟨rfl, hb⟩
              have X2 := Lib.hid (HX.out.below hb hlt)
              have c1 := X2.out.cell1
              have f1 := X2.out.free 1
              go_wp2_with fail
              obtain ⟨W3, hW3⟩ : ∃ W3, w2.setCell ⟨L, 1, none⟩ (.int .i64 ((i : Int) + (n : Int))) = W3 := ⟨_, rfl⟩
              rw [hW3]
              have X3 : Hid (LxAt W3 L s (i + n) false (.slice none 0 0) (.slice none 0 0)) := by rw [← hW3]; exact X2.out.set1 (i + n)
              have R3 : Hid (Row W3 (L + 1) u5 u) := by rw [← hW3]; exact (HW.out.beside (.of_below (B := wr.heap.size) (L := L) hb) (Nat.le_refl _) (by omega)).set_below (by simp) _
              have S3 : Hid (Beside (L + 1) L w1 W3) := by rw [← hW3]; exact Beside.setCell (L := L) (HS.out.trans (.of_below (hb.mono (by omega)))) (.inl rfl) _
              have BW3 : Hid (Below w.heap.size w W3) := by rw [← hW3]; exact (BW.out.trans (hb.mono hzr)).setCell hwL _
              have TR3 : Hid (Tabs L W3) := by rw [← hW3]; exact (TR.out.below (hb.mono (by omega : L ≤ wr.heap.size)) (Nat.le_refl _)).below ((Below.refl L w2).setCell (Nat.le_refl _) _) (Nat.le_refl _)
              clear hW3 c1 f1 X2
              have he := escape_any L s (i + n) false (.slice none 0 0) (.slice none 0 0) (L + 1) u5 u W3 X3.out (by omega) (by omega) R3.out (by omega) (by omega) X3.out.lt TR3.out
              cases hx : escF s (i + n) with
              | right a j =>
                rw [hx] at he
                have hI2 := HI.out
                rw [hx] at hI2
                have HI2 : Hid (insF s f j (u ++ a) = R) := hI2
                obtain ⟨l1, l2, l3⟩ := escF_le hx
                have HE := Lib.hid he
                clear he hI2 hx hend
                refine HE.out.mono ?_
                rintro e w4 ⟨v', rfl, hrow4, hlx4, hbs4⟩
                have P4 := Lib.hid hlx4.pos
                have PX := Lib.hid HX.out.pos
                go_wp2
                go_roundw
                case rel => exact ⟨j, f, u ++ a, l2, by omega, by simp; omega, HI2.out, hrow4, hlx4, S3.out.trans hbs4⟩
                case measure => rw [P4.out, PX.out]; omega
              | wrong =>
                rw [hx] at he
                have hI2 := HI.out
                rw [hx] at hI2
                have HI2 : Hid (.wrong = R) := hI2
                have HE := Lib.hid he
                clear he hI2 hx hend
                refine HE.out.mono ?_
                rintro e w4 ⟨rfl, _, hbs4⟩
                go_wp2
                go_ret2
                obtain rfl : .wrong = R := HI2.out
                exact ⟨rfl, BW3.out.trans ((hbs4.mono (by omega)).below hwL)⟩
              | opn =>
                rw [hx] at he
                have hI2 := HI.out
                rw [hx] at hI2
                have HI2 : Hid (.opn = R) := hI2
                have HE := Lib.hid he
                clear he hI2 hx hend
                refine HE.out.mono ?_
                rintro e w4 ⟨rfl, _, hbs4⟩
                go_wp2
                go_ret2
                obtain rfl : .opn = R := HI2.out
                exact ⟨rfl, BW3.out.trans ((hbs4.mono (by omega)).below hwL)⟩
          · rw [if_pos h92] at hI
            have g3 : ((c : Int) != 92) = true := by simpa using (by omega : ¬ (c : Int) = 92)
            have HI := Lib.hid hI
            clear hI h92 hnl
            go_wp2_with fail
            refine HH.out.mono ?_
            rintro e w2 ⟨rfl, hb⟩
            have X2 := Lib.hid (HX.out.below hb hlt)
            have c1 := X2.out.cell1
            have f1 := X2.out.free 1
            go_wp2_with fail
            obtain ⟨W3, hW3⟩ : ∃ W3, w2.setCell ⟨L, 1, none⟩ (.int .i64 ((i : Int) + (n : Int))) = W3 := ⟨_, rfl⟩
            rw [hW3]
            have X3 : Hid (LxAt W3 L s (i + n) false (.slice none 0 0) (.slice none 0 0)) := by rw [← hW3]; exact X2.out.set1 (i + n)
            have R3 : Hid (Row W3 (L + 1) u5 u) := by rw [← hW3]; exact (HW.out.beside (.of_below (B := wr.heap.size) (L := L) hb) (Nat.le_refl _) (by omega)).set_below (by simp) _
            have S3 : Hid (Beside (L + 1) L w1 W3) := by rw [← hW3]; exact Beside.setCell (L := L) (HS.out.trans (.of_below (hb.mono (by omega)))) (.inl rfl) _
            clear hW3 c1 f1 X2
            refine (units_any (L + 1) u5 u c _ R3.out hc (by omega) X3.out.lt).mono ?_
            rintro e w4 ⟨v', rfl, hrow4, hbl4⟩
            have X4 := Lib.hid (X3.out.below hbl4 (by omega))
            have P4 := Lib.hid X4.out.pos
            have PX := Lib.hid HX.out.pos
            have hul2 := unitsOf_len c
            go_wp2
            go_roundw
            case rel => exact ⟨i + n, f, u ++ unitsOf c, by omega, by omega, by simp; omega, HI.out, hrow4, X4.out, S3.out.trans (.of_below hbl4)⟩
            case measure => rw [P4.out, PX.out]; omega
      · obtain rfl : i = s.size := by omega
        rw [if_neg (by omega), rn_end (Nat.le_refl _)] at hh
        have HH := Lib.hid hh
        clear hh
        go_wp2_with (go_at_call 14; refine HH.out.mono ?_; rintro e w2 ⟨rfl, hb⟩)
        go_ret2
        have hI := HI.out
        unfold insF at hI
        rw [if_pos (Nat.le_refl _)] at hI
        obtain rfl : .right u = R := hI
        exact ⟨_, rfl, (HW.out.beside (.of_below (B := wr.heap.size) (L := L) hb) (Nat.le_refl _) (by omega)).mono (by omega), BW.out.trans (hb.mono hzr)⟩
end Go.Proofs.YtolgapijpejpoaaDoor
