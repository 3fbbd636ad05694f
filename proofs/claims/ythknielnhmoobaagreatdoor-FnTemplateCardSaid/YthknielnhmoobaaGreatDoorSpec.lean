/- The walks of the reference's digits, point, units, escape. -/
import Derived.Test.YthknielnhmoobaaGreatDoorBase
namespace Go.Proofs.YthknielnhmoobaaGreatDoor
open Go.RowKit Go.Lib

/-- What digits and point hand back. -/
def RunePost (L : Nat) (s : ByteArray) (nl : Bool) (out opn : Value) (w : World) : Option (Nat × Nat) → Ending → World → Prop
  | none, e, w' => e = .returned (.tuple #[.int .i32 0, .bool false]) ∧ (∃ j, LxAt w' L s j nl out opn) ∧ Beside w.heap.size L w w'
  | some (p, k), e, w' => e = .returned (.tuple #[.int .i32 p, .bool true]) ∧ LxAt w' L s k nl out opn ∧ Beside w.heap.size L w w'

theorem ret_pair {v : Value} {a b : Bool} (h : a = b) : Ending.returned (.tuple #[v, .bool a]) = .returned (.tuple #[v, .bool b]) := by rw [h]
/-- A byte held against a constant, in the walk's own form. -/
theorem bt_index (s : ByteArray) (j x : Nat) {b : Bool} (h : decide (bt s j = x) = b) : ∀ hj : j < s.size, ((((s[j]'hj).toNat : Nat) : Int) == (x : Int)) = b := by
  intro hj
  subst h
  have : bt s j = (s[j]'hj).toNat := by unfold bt; rw [if_pos hj, Utf8W.get!_of_lt _ _ hj]
  rw [this]
  by_cases e : (s[j]'hj).toNat = x
  · rw [decide_eq_true e, e]; simp
  · rw [decide_eq_false e]
    simpa using (by omega : ¬ (((s[j]'hj).toNat : Nat) : Int) = (x : Int))
theorem pow16 {k : Nat} (h : k < 4) : 16 ^ k ≤ 4096 := by
  have : k = 0 ∨ k = 1 ∨ k = 2 ∨ k = 3 := by omega
  rcases this with rfl | rfl | rfl | rfl <;> decide

set_option maxHeartbeats 1000000 in
theorem digits_any (L : Nat) (s : ByteArray) (i m : Nat) (n : Int) (hn : n = m) (nl : Bool) (out opn : Value) (w : World) (h : LxAt w L s i nl out opn) (hm : m ≤ 4) (hi : i ≤ 2305843009213693952) (hs : s.size ≤ 4611686018427387904) :
    Calls Tryz.prog 57 #[.pointer (some ⟨L, 0, none⟩), .int .i64 n] w (RunePost L s nl out opn w (digitsF s m i 0)) := by
  subst hn
  obtain ⟨R, hR⟩ : ∃ R, digitsF s m i 0 = R := ⟨_, rfl⟩
  rw [hR]
  have HR := Lib.hid hR
  have H := Lib.hid h
  clear hR h
  have hm' : (m : Int) ≤ 4 := by omega
  go_enter Tryz.func57, Tryz.ntmps57
  go_wp2
  go_loopw [6, 9] (fun v c wr => ∃ k q : Nat, k ≤ m ∧ c = .int .i64 k ∧ v = .int .i32 q ∧ q < 16 ^ k ∧ digitsF s (m - k) (i + k) q = R ∧ LxAt wr L s (i + k) nl out opn ∧ Beside w.heap.size L w wr) (fun _ c _ => m - (RowKit.intOf c).toNat)
  case atStart => exact ⟨0, 0, by omega, rfl, rfl, by simp, by simpa using HR.out, H.out, Beside.refl _ _ _⟩
  case round =>
    obtain ⟨k, q, hk, rfl, rfl, hq, hd, hl, hb⟩ := hrel
    have HQ := Lib.hid hq
    have HD := Lib.hid hd
    have HL := Lib.hid hl
    have HB := Lib.hid hb
    clear hq hd hl hb
    by_cases hlt : k < m
    · have hq4 : (q : Int) ≤ 4095 := by
        have h1 := pow16 (k := k) (by omega)
        have h2 := HQ.out
        omega
      obtain ⟨m', hm2⟩ : ∃ m', m - k = m' + 1 := ⟨m - k - 1, by omega⟩
      have hd := HD.out
      rw [hm2] at hd
      unfold digitsF at hd
      cases hx : hexv (bt s (i + k)) with
      | none =>
        rw [hx] at hd
        have HX := Lib.hid hx
        have HE : Hid (none = R) := hd
        clear hx hd hm2
        go_wp2_with (first
          | (go_at_call 20; refine (ahead_any L s (i + k) 0 (i + k) 0 rfl rfl nl out opn _ HL.out (by omega) hs).mono ?_; rintro e w1 ⟨rfl, n1, rfl⟩)
          | (go_at_call 63; refine (hex_none HX.out (bt_lt _ _) _).mono ?_; rintro e w1 ⟨rfl, rfl⟩))
        obtain rfl : none = R := HE.out
        go_ret2
        exact ⟨rfl, ⟨i + k, HL.out.drewN _⟩, HB.out.drewN _⟩
      | some d =>
        rw [hx] at hd
        have HX := Lib.hid hx
        have HE : Hid (digitsF s m' (i + k + 1) (16 * q + d) = R) := hd
        have hd16 : (d : Int) ≤ 15 := by have := hexv_lt hx; omega
        have HM := Lib.hid hm2
        clear hx hd hm2
        have c1 := HL.out.cell1
        have f1 := HL.out.free 1
        go_wp2_with (first
          | (go_at_call 20; refine (ahead_any L s (i + k) 0 (i + k) 0 rfl rfl nl out opn _ HL.out (by omega) hs).mono ?_; rintro e w1 ⟨rfl, n1, rfl⟩)
          | (go_at_call 63; refine (hex_some HX.out (bt_lt _ _) _).mono ?_; rintro e w1 ⟨rfl, rfl⟩))
        go_roundw
        case rel =>
          have e : ((i : Int) + (k : Int) + 1) = ((i + (k + 1) : Nat) : Int) := by omega
          rw [e]
          refine ⟨k + 1, 16 * q + d, by omega, by go_num, by go_num, ?_, ?_, (HL.out.drewN n1).set1 _, (HB.out.drewN n1).setCell (.inl rfl) _⟩
          · have := HQ.out
            rw [Nat.pow_succ]
            omega
          · have h1 := HM.out
            have h2 := HE.out
            rw [show m - (k + 1) = m' by omega]
            exact h2
        case measure => simp [RowKit.intOf]; omega
    · obtain rfl : k = m := by omega
      have hd := HD.out
      rw [Nat.sub_self] at hd
      obtain rfl : some (q, i + k) = R := hd
      go_wp2
      go_ret2
      exact ⟨rfl, HL.out, HB.out⟩

set_option maxHeartbeats 1000000 in
theorem point_any (L : Nat) (s : ByteArray) (i : Nat) (nl : Bool) (out opn : Value) (w : World) (h : LxAt w L s i nl out opn) (hi : i ≤ s.size) (hs : s.size ≤ 2305843009213693951) :
    Calls Tryz.prog 51 #[.pointer (some ⟨L, 0, none⟩)] w (RunePost L s nl out opn w (pointF s i)) := by
  by_cases hb : bt s i = 123
  · have hp : pointF s i = braceF s (s.size + 1) (i + 1) 0 true := by unfold pointF; rw [if_pos hb]
    rw [hp]
    obtain ⟨R, hR⟩ : ∃ R, braceF s (s.size + 1) (i + 1) 0 true = R := ⟨_, rfl⟩
    rw [hR]
    have hlt : i < s.size := by
      rcases Nat.lt_or_ge i s.size with h' | h'
      · exact h'
      · have : bt s i = 0 := by unfold bt; rw [if_neg (by omega)]
        omega
    have g : ((bt s i : Int) == 123) = true := by rw [hb]; rfl
    have g' : ((bt s i : Int) != 123) = false := by rw [hb]; rfl
    have HR := Lib.hid hR
    have H := Lib.hid h
    have c1 := h.cell1
    have f1 := h.free 1
    clear hR h hp hb
    go_enter Tryz.func51, Tryz.ntmps51
    go_wp2_with (go_at_call 20; refine (ahead_any L s i 0 i 0 rfl rfl nl out opn _ H.out (by omega) (by omega)).mono ?_; rintro e w1 ⟨rfl, n1, rfl⟩)
    have H1 : Hid (LxAt ((w.drewN n1).setCell ⟨L, 1, none⟩ (.int .i64 (↑i + 1))) L s (i + 1) nl out opn) := by
      have := (H.out.drewN n1).set1 (i + 1)
      exact this
    have B1 : Hid (Beside w.heap.size L w ((w.drewN n1).setCell ⟨L, 1, none⟩ (.int .i64 (↑i + 1)))) := ((Beside.refl _ L w).drewN n1).setCell (.inl rfl) _
    clear c1 f1 g g'
    go_loopw [4, 5] (fun v c wr => ∃ k q : Nat, i + 1 + k ≤ s.size ∧ c = .int .i64 k ∧ v = .int .i32 q ∧ q ≤ 1114111 ∧ (k = 0 → q = 0) ∧ braceF s (s.size + 1 - k) (i + 1 + k) q (decide (k = 0)) = R ∧ LxAt wr L s (i + 1 + k) nl out opn ∧ Beside w.heap.size L w wr) (fun _ c _ => s.size + 1 - (RowKit.intOf c).toNat)
    case atStart => exact ⟨0, 0, by omega, rfl, rfl, by omega, fun _ => rfl, HR.out, H1.out, B1.out⟩
    case round =>
      obtain ⟨k, q, hk, rfl, rfl, hq, hq0, hd, hl, hb⟩ := hrel
      have HQ0 := Lib.hid hq0
      have HL := Lib.hid hl
      have HB := Lib.hid hb
      clear hq0 hl hb
      obtain ⟨f, hf⟩ : ∃ f, s.size + 1 - k = f + 1 := ⟨s.size - k, by omega⟩
      have HF := Lib.hid hf
      rw [hf] at hd
      unfold braceF at hd
      clear hf
      have c1 := HL.out.cell1
      have f1 := HL.out.free 1
      by_cases h125 : bt s (i + 1 + k) = 125
      · rw [if_pos h125] at hd
        have HD := Lib.hid hd
        have hx : hexv (bt s (i + 1 + k)) = none := by rw [h125]; rfl
        have HX := Lib.hid hx
        have g : ((bt s (i + 1 + k) : Int) == 125) = true := by rw [h125]; rfl
        clear hd hx h125
        go_wp2_with (first
          | (go_at_call 20; refine (ahead_any L s (i + 1 + k) 0 (i + 1 + k) 0 rfl rfl nl out opn _ HL.out (by omega) (by omega)).mono ?_; rintro e w1 ⟨rfl, n2, rfl⟩)
          | (go_at_call 63; refine (hex_none HX.out (bt_lt _ _) _).mono ?_; rintro e w1 ⟨rfl, rfl⟩))
        go_ret2
        have e : ((i : Int) + 1 + (k : Int) + 1) = ((i + 1 + k + 1 : Nat) : Int) := by omega
        rw [e]
        have LX := (HL.out.drewN n2).set1 (i + 1 + k + 1)
        have BS := (HB.out.drewN n2).setCell (p := ⟨L, 1, none⟩) (.inl rfl) (.int .i64 ((i + 1 + k + 1 : Nat) : Int))
        by_cases hk0 : k = 0
        · subst hk0
          obtain rfl : q = 0 := HQ0.out rfl
          obtain rfl : none = R := HD.out
          exact ⟨rfl, ⟨_, LX⟩, BS⟩
        · obtain rfl : some (q, i + 1 + k + 1) = R := by
            have := HD.out
            rw [decide_eq_false hk0] at this
            exact this
          exact ⟨ret_pair (decide_eq_true (by omega)), LX, BS⟩
      · rw [if_neg h125] at hd
        have g : ((bt s (i + 1 + k) : Int) == 125) = false := by simpa using (by omega : ¬ (bt s (i + 1 + k) : Int) = 125)
        cases hx : hexv (bt s (i + 1 + k)) with
        | none =>
          rw [hx] at hd
          have HX := Lib.hid hx
          have HD : Hid (none = R) := hd
          clear hd hx h125
          go_wp2_with (first
            | (go_at_call 20; refine (ahead_any L s (i + 1 + k) 0 (i + 1 + k) 0 rfl rfl nl out opn _ HL.out (by omega) (by omega)).mono ?_; rintro e w1 ⟨rfl, n2, rfl⟩)
            | (go_at_call 63; refine (hex_none HX.out (bt_lt _ _) _).mono ?_; rintro e w1 ⟨rfl, rfl⟩))
          obtain rfl : none = R := HD.out
          go_ret2
          exact ⟨rfl, ⟨_, HL.out.drewN _⟩, HB.out.drewN _⟩
        | some d =>
          rw [hx] at hd
          simp only at hd
          have HX := Lib.hid hx
          have hd16 : (d : Int) ≤ 15 := by have := hexv_lt hx; omega
          have hj : i + 1 + k < s.size := by
            rcases Nat.lt_or_ge (i + 1 + k) s.size with h' | h'
            · exact h'
            · have : bt s (i + 1 + k) = 0 := by unfold bt; rw [if_neg (by omega)]
              rw [this] at hx; simp [hexv] at hx
          have hqi : (q : Int) ≤ 1114111 := by omega
          have HD := Lib.hid hd
          clear hd hx h125
          by_cases hbig : 1114111 < 16 * q + d
          · have gb : (1114111 : Int) < 16 * (q : Int) + (d : Int) := by omega
            have hd := HD.out
            rw [if_pos hbig] at hd
            have HD : Hid (none = R) := hd
            clear hbig hd
            go_wp2_with (first
              | (go_at_call 20; refine (ahead_any L s (i + 1 + k) 0 (i + 1 + k) 0 rfl rfl nl out opn _ HL.out (by omega) (by omega)).mono ?_; rintro e w1 ⟨rfl, n2, rfl⟩)
              | (go_at_call 63; refine (hex_some HX.out (bt_lt _ _) _).mono ?_; rintro e w1 ⟨rfl, rfl⟩))
            obtain rfl : none = R := HD.out
            go_ret2
            exact ⟨rfl, ⟨_, HL.out.drewN _⟩, HB.out.drewN _⟩
          · have gb : 16 * (q : Int) + (d : Int) ≤ 1114111 := by omega
            have hd := HD.out
            rw [if_neg hbig] at hd
            have HD : Hid (braceF s f (i + 1 + k + 1) (16 * q + d) false = R) := hd
            clear hbig hd
            go_wp2_with (first
              | (go_at_call 20; refine (ahead_any L s (i + 1 + k) 0 (i + 1 + k) 0 rfl rfl nl out opn _ HL.out (by omega) (by omega)).mono ?_; rintro e w1 ⟨rfl, n2, rfl⟩)
              | (go_at_call 63; refine (hex_some HX.out (bt_lt _ _) _).mono ?_; rintro e w1 ⟨rfl, rfl⟩))
            go_roundw
            case rel =>
              have e : ((i : Int) + 1 + (k : Int) + 1) = ((i + 1 + (k + 1) : Nat) : Int) := by omega
              rw [e]
              refine ⟨k + 1, 16 * q + d, by omega, by go_num, by go_num, by omega, fun h => by omega, ?_, (HL.out.drewN n2).set1 _, (HB.out.drewN n2).setCell (.inl rfl) _⟩
              have h1 := HF.out
              have h2 := HD.out
              rw [show s.size + 1 - (k + 1) = f by omega, decide_eq_false (by omega)]
              exact h2
            case measure => simp [RowKit.intOf]; omega
  · have hp : pointF s i = digitsF s 4 i 0 := by unfold pointF; rw [if_neg hb]
    rw [hp]
    obtain ⟨R, hR⟩ : ∃ R, digitsF s 4 i 0 = R := ⟨_, rfl⟩
    have g : ((bt s i : Int) == 123) = false := by simpa using (by omega : ¬ (bt s i : Int) = 123)
    have g' : ((bt s i : Int) != 123) = true := by simpa using (by omega : ¬ (bt s i : Int) = 123)
    rw [hR]
    have HR := Lib.hid hR
    have H := Lib.hid h
    clear hR h hp hb
    go_enter Tryz.func51, Tryz.ntmps51
    go_wp2_with (go_at_call 20; refine (ahead_any L s i 0 i 0 rfl rfl nl out opn _ H.out (by omega) (by omega)).mono ?_; rintro e w1 ⟨rfl, n1, rfl⟩)
    refine (digits_any L s i 4 4 rfl nl out opn _ (H.out.drewN n1) (by omega) (by omega) (by omega)).mono ?_
    rw [HR.out]
    cases R with
    | none =>
      rintro e w2 ⟨rfl, hj, hb⟩
      go_wp2
      go_ret2
      exact ⟨rfl, hj, hb.undrawn⟩
    | some pk =>
      obtain ⟨p, k⟩ := pk
      rintro e w2 ⟨rfl, hj, hb⟩
      go_wp2
      go_ret2
      exact ⟨rfl, hj, hb.undrawn⟩

def u16 (n : Nat) : Value := .int .u16 n
/-- A slice of units that the call owns, from block base on. -/
def Row (w : World) (base : Nat) (v : Value) (xs : List Nat) : Prop := w.ownsRow base 35 1 v xs.length (xs.map u16)
theorem infoU : (Tryz.prog.info? 35).map (fun i => (i.zero, i.size, i.bytes)) = some (some (.int .u16 0), 1, 2) := by kernel_rfl

theorem Row.of {w1 : World} {base n : Nat} {v' : Value} {xs : List Nat} {news : List Value} (h : w1.ownsRow base 35 1 v' n news) (hn : n = xs.length) (hnews : news = xs.map u16) : Row w1 base v' xs := by
  subst hn; subst hnews; exact h
theorem Row.lt {w : World} {base : Nat} {v : Value} {xs : List Nat} (h : Row w base v xs) : ∀ k, v.ownBlock = some k → base ≤ k := fun k hk => (World.ownsRow.lt h k hk).1
theorem Row.beside {w w' : World} {base B L : Nat} {v : Value} {xs : List Nat} (h : Row w base v xs) (hb : Beside B L w w') (hB : w.heap.size ≤ B) (hL : L < base) : Row w' base v xs := by
  refine World.ownsRow.kept h (row := some L) ⟨hb.os, hb.tape, hb.output, hb.size, fun k hk hr => hb.block k (by omega) (fun e => hr (by rw [e]))⟩ ?_
  right; intro e; have := h.lt L e; omega
theorem Row.set_below {w : World} {base : Nat} {v : Value} {xs : List Nat} (h : Row w base v xs) {a : Addr} (ha : a.block < base) (x : Value) : Row (w.setCell a x) base v xs := ownsRow_setCell_below h ha x
theorem Row.drewN {w : World} {base : Nat} {v : Value} {xs : List Nat} (h : Row w base v xs) (n : Nat) : Row (w.drewN n) base v xs := h
theorem Row.alloc {w : World} {base : Nat} {v : Value} {xs : List Nat} (h : Row w base v xs) (o : Obj) : Row (w.alloc o) base v xs := World.ownsRow.alloc h o
set_option maxRecDepth 100000 in
set_option maxHeartbeats 1000000 in
theorem units_any (base : Nat) (v : Value) (xs : List Nat) (c : Nat) (w : World) (hown : Row w base v xs) (hc : c ≤ 1114111) (hx : xs.length ≤ 1099511627776) (hbase : base ≤ w.heap.size) :
    Calls Tryz.prog 38 #[v, .int .i32 (c : Int)] w fun e w' => ∃ v', e = .returned v' ∧ Row w' base v' (xs ++ unitsOf c) ∧ Below base w w' := by
  obtain ⟨i0, hi, hz0, hz1, hz2⟩ := info_parts infoU
  have H := Lib.hid hown
  clear hown
  by_cases hbig : 65535 < c
  · have g : (65535 : Int) < (c : Int) := by omega
    have g2 : (c : Int) ≤ 1114111 := by omega
    have ha : bits .and .i32 ((c : Int) - 65536) 1023 = ((c : Int) - 65536) % 1024 := i32_and1023 _ (by omega) (by omega)
    have hu : Hid (unitsOf c = [55296 + (c - 65536) / 1024, 56320 + (c - 65536) % 1024]) := by unfold unitsOf Hid; rw [if_pos hbig]
    clear hbig
    go_enter Tryz.func38, Tryz.ntmps38
    go_wp2_with (at_builtin; refine wpList_append_own _ rfl _ _ 22 rfl base 35 i0 (.int .u16 0) 1 2 Tryz.underlying22 hi hz0 hz1 hz2 rfl (by decide) _ _ _ rfl (World.ownsRow.alloc H.out _) ⟨w.heap.size, 0, none⟩ 2 2 [.int .u16 (55296 + ((c : Int) - 65536) / 1024), .int .u16 (56320 + ((c : Int) - 65536) % 1024)] rfl rfl ?_ ?_ ?_ ?_ ?_ ?_; exact cell_two_new _ _ _ _; (intro u hu; simp at hu; rcases hu with rfl | rfl <;> rfl); (unfold maxLen; omega); omega; (simp; omega); intro v' w1 hown hgrow _)
    go_ret
    refine ⟨v', rfl, ?_, ?_⟩
    · refine Row.of hown (by rw [hu.out]; simp) ?_
      rw [hu.out, List.map_append]
      congr 1
      simp only [List.map_cons, List.map_nil, u16]
      congr 2
      · omega
      · congr 1; omega
    · exact ((Below.refl base w).alloc hbase _).grown hgrow (by simp; omega) H.out.lt
  · have g : (c : Int) ≤ 65535 := by omega
    have hu : Hid (unitsOf c = [c]) := by unfold unitsOf Hid; rw [if_neg hbig]
    clear hbig
    go_enter Tryz.func38, Tryz.ntmps38
    go_wp2_with (at_builtin; refine wpList_append_own _ rfl _ _ 22 rfl base 35 i0 (.int .u16 0) 1 2 Tryz.underlying22 hi hz0 hz1 hz2 rfl (by decide) _ _ _ rfl (World.ownsRow.alloc H.out _) ⟨w.heap.size, 0, none⟩ 1 1 [.int .u16 (c : Int)] rfl rfl ?_ ?_ ?_ ?_ ?_ ?_; exact cell_one_new _ _ _; (intro u hu; simp at hu; subst hu; rfl); (unfold maxLen; omega); omega; (simp; omega); intro v' w1 hown hgrow _)
    go_ret
    refine ⟨v', rfl, ?_, ?_⟩
    · refine Row.of hown (by rw [hu.out]; simp) ?_
      rw [hu.out, List.map_append]
      rfl
    · exact ((Below.refl base w).alloc hbase _).grown hgrow (by simp; omega) H.out.lt
theorem Row.mono {w : World} {base base' : Nat} {v : Value} {xs : List Nat} (h : Row w base v xs) (hb : base' ≤ base) : Row w base' v xs := by
  refine ⟨h.1, ?_⟩
  rcases h.2 with h | ⟨g, cap, cur, h1, h2, h3⟩
  · exact .inl h
  · exact .inr ⟨g, cap, cur, h1, by omega, h3⟩
theorem Tabs.mono {B B' : Nat} {w : World} (h : Tabs B w) (hB : B ≤ B') : Tabs B' w := ⟨h.tabs, Nat.lt_of_lt_of_le h.lt hB⟩
end Go.Proofs.YthknielnhmoobaaGreatDoor
