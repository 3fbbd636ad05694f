/- The walk of the reference's escape. -/
import Derived.Test.YthknielnhmoobaaGreatDoorSpec
namespace Go.Proofs.YthknielnhmoobaaGreatDoor
open Go.RowKit Go.Lib

def EscPost (L : Nat) (s : ByteArray) (nl : Bool) (out opn : Value) (base : Nat) (u : List Nat) (w : World) : ER → Ending → World → Prop
  | .right a j, e, w' => ∃ v', e = .returned (.tuple #[v', .int .i64 1]) ∧ Row w' base v' (u ++ a) ∧ LxAt w' L s j nl out opn ∧ Beside base L w w'
  | .wrong, e, w' => e = .returned (.tuple #[.slice none 0 0, .int .i64 2]) ∧ (∃ j, LxAt w' L s j nl out opn) ∧ Beside base L w w'
  | .opn, e, w' => e = .returned (.tuple #[.slice none 0 0, .int .i64 0]) ∧ (∃ j, LxAt w' L s j nl out opn) ∧ Beside base L w w'

abbrev let6 : ByteArray := { data := #[98, 102, 110, 114, 116, 118] }
abbrev val6 : ByteArray := { data := #[8, 12, 10, 13, 9, 11] }
def l6 (k : Nat) : Nat := (let6.get! k).toNat
theorem l6_cases (k : Nat) (h : k < 6) : (k = 0 ∧ l6 k = 98) ∨ (k = 1 ∧ l6 k = 102) ∨ (k = 2 ∧ l6 k = 110) ∨ (k = 3 ∧ l6 k = 114) ∨ (k = 4 ∧ l6 k = 116) ∨ (k = 5 ∧ l6 k = 118) := by
  have : k = 0 ∨ k = 1 ∨ k = 2 ∨ k = 3 ∨ k = 4 ∨ k = 5 := by omega
  rcases this with rfl | rfl | rfl | rfl | rfl | rfl <;> decide
theorem simple_none {c : Nat} (h : ∀ k, k < 6 → c ≠ l6 k) : simpleF c = none := by
  have h0 := h 0 (by omega); have h1 := h 1 (by omega); have h2 := h 2 (by omega); have h3 := h 3 (by omega); have h4 := h 4 (by omega); have h5 := h 5 (by omega)
  have e0 : l6 0 = 98 := by decide
  have e1 : l6 1 = 102 := by decide
  have e2 : l6 2 = 110 := by decide
  have e3 : l6 3 = 114 := by decide
  have e4 : l6 4 = 116 := by decide
  have e5 : l6 5 = 118 := by decide
  unfold simpleF
  rw [if_neg (by omega), if_neg (by omega), if_neg (by omega), if_neg (by omega), if_neg (by omega), if_neg (by omega)]
theorem decode6 (k : Nat) (h : k < 6) : Utf8.decode let6 k = (l6 k, 1) := by
  have : k = 0 ∨ k = 1 ∨ k = 2 ∨ k = 3 ∨ k = 4 ∨ k = 5 := by omega
  rcases this with rfl | rfl | rfl | rfl | rfl | rfl <;> decide
theorem next6 (W : World) (k : Nat) (h : k < 6) (ty : TypeId) : (Instr.next (.pointer (some ⟨W.heap.size, 0, none⟩)) true ty).run Tryz.prog (W.iter let6 k) =
    .ok (.tuple #[.bool true, .int .i64 k, .int .i32 (l6 k)]) (W.iter let6 (k + 1)) := by
  have := run_next_any (P := Tryz.prog) W let6 k ty h
  rw [decode6 k h] at this
  exact this

def v6 (k : Nat) : Nat := (val6.get! k).toNat
theorem val6_wrap (k : Nat) (h : k < 6) : ∀ hk : k < val6.size, IntKind.u16.wrap ((val6[k]'hk).toNat : Int) = (v6 k : Int) := by
  have : k = 0 ∨ k = 1 ∨ k = 2 ∨ k = 3 ∨ k = 4 ∨ k = 5 := by omega
  rcases this with rfl | rfl | rfl | rfl | rfl | rfl <;> intro _ <;> rfl
theorem simple_some (k : Nat) (h : k < 6) : simpleF (l6 k) = some (v6 k) := by
  have : k = 0 ∨ k = 1 ∨ k = 2 ∨ k = 3 ∨ k = 4 ∨ k = 5 := by omega
  rcases this with rfl | rfl | rfl | rfl | rfl | rfl <;> decide
set_option maxRecDepth 100000 in
set_option maxHeartbeats 2000000 in
theorem escape_any (L : Nat) (s : ByteArray) (i : Nat) (nl : Bool) (out opn : Value) (base : Nat) (v : Value) (u : List Nat) (w : World) (h : LxAt w L s i nl out opn) (hi : i < s.size) (hs : s.size ≤ 2305843009213693951)
    (hown : Row w base v u) (hu : u.length ≤ 1099511627776) (hL : L < base) (hB : base ≤ w.heap.size) (hT : Tabs L w) :
    Calls Tryz.prog 39 #[.pointer (some ⟨L, 0, none⟩), v] w (EscPost L s nl out opn base u w (escF s i)) := by
  obtain ⟨i0, hi0, hz0, hz1, hz2⟩ := info_parts infoU
  obtain ⟨c, n, hcn⟩ : ∃ c n, rn s i = (c, n) := ⟨_, _, rfl⟩
  have hn1 : 1 ≤ n := by have := rn_pos hi; rw [hcn] at this; exact this
  have hn2 : i + n ≤ s.size := by have := rn_le (s := s) (i := i) (by omega); rw [hcn] at this; exact this
  have hc : c ≤ 1114111 := by have := rn_rune s i; rw [hcn] at this; exact this
  have hn0 : ((n : Int) == 0) = false := by simpa using (by omega : ¬ (n : Int) = 0)
  have H := Lib.hid h
  have HO := Lib.hid hown
  have HT := Lib.hid hT
  have HC := Lib.hid hcn
  have hlt := h.lt
  clear h hown hT hcn
  go_enter Tryz.func39, Tryz.ntmps39
  go_wp2_with fail
  have hh := here_any L s i nl out opn w H.out (by omega) HT.out.tabs
  rw [if_pos hi, HC.out] at hh
  refine hh.mono ?_
  clear hh
  rintro e w1 ⟨rfl, hb1⟩
  have H1 := Lib.hid (H.out.below hb1 hlt)
  have c1 := H1.out.cell1
  have f1 := H1.out.free 1
  have B1 := Lib.hid hb1
  clear hb1
  go_wp2_with fail
  obtain ⟨W, hW⟩ : ∃ W, w1.setCell ⟨L, 1, none⟩ (.int .i64 ((i : Int) + (n : Int))) = W := ⟨_, rfl⟩
  have hz : w1.heap.size = W.heap.size := by rw [← hW]; simp [World.setCell]
  rw [hW, hz]
  have H2 : Hid (LxAt W L s (i + n) nl out opn) := by rw [← hW]; exact H1.out.set1 (i + n)
  have B2 : Hid (Beside base L w W) := by rw [← hW]; exact Beside.setCell (L := L) (Beside.of_below (B1.out.mono hB)) (.inl rfl) _
  have hsz : w.heap.size ≤ W.heap.size := B2.out.size
  have O2 : Hid (Row W base v u) := by
    refine World.ownsRow.kept HO.out (row := some L) ⟨B2.out.os, B2.out.tape, B2.out.output, B2.out.size, fun k hk hr => ?_⟩ ?_
    · rw [← hW, Below.heap_setCell _ _ _ _ (by simpa using hr)]; exact B1.out.block k hk
    · right; intro e; have := HO.out.lt L e; omega
  clear hW hz c1 f1 H1 B1 H HO
  have hLW := H2.out.lt
  go_loopw [] (fun wr => ∃ k : Nat, k ≤ 6 ∧ wr = W.iter let6 k ∧ ∀ j, j < k → c ≠ l6 j) (fun wr => 6 - wr.iterPos W.heap.size)
  case atStart => exact ⟨0, by omega, rfl, fun j hj => absurd hj (by omega)⟩
  case round =>
    obtain ⟨k, hk, rfl, hno⟩ := hrel
    have HN := Lib.hid hno
    clear hno
    by_cases hk6 : k < 6
    · have hnx := next6 W k hk6
      by_cases hck : c = l6 k
      · have g : ((c : Int) == (l6 k : Int)) = true := by rw [hck]; simp
        have HK := Lib.hid hck
        clear hck
        have hv := val6_wrap k hk6
        have hsz1 : (W.iter let6 (k + 1)).heap.size = W.heap.size + 1 := by simp [World.iter]
        go_wp2_with (at_builtin; go_must (refine wpList_append_own _ rfl _ _ 22 rfl base 35 i0 (.int .u16 0) 1 2 Tryz.underlying22 hi0 hz0 hz1 hz2 rfl (by decide) _ _ _ rfl (World.ownsRow.alloc (World.ownsRow.alloc O2.out (.stringIter let6 (k + 1))) _) ⟨W.heap.size + 1, 0, none⟩ 1 1 [.int .u16 (v6 k : Int)] rfl rfl ?_ ?_ ?_ ?_ ?_ ?_); go_must (rw [← hsz1]; exact cell_one_new _ _ _); (intro u hu; simp at hu; subst hu; rfl); (unfold maxLen; omega); omega; (simp; omega); intro v' w2 hown hgrow _)
        have he : escF s i = .right [v6 k] (i + n) := by
          unfold escF
          rw [if_neg (by omega), HC.out, HK.out, simple_some k hk6]
        rw [he]
        go_ret2
        refine ⟨v', rfl, Row.of hown (by simp) (by rw [List.map_append]; rfl), ?_, ?_⟩
        · have hrow := O2.out.lt
          refine H2.out.of_block ?_
          rw [hgrow.block L (by simp [World.iter]; omega) (fun e => by have := hrow L e.symm; omega), Below.heap_alloc _ _ _ (by simp [World.iter]; omega), World.iter, Below.heap_alloc _ _ _ hLW]
        · exact B2.out.trans (.of_below ((((Below.refl base W).alloc (by omega) _).alloc (by simp; omega) _).grown hgrow (by simp [World.iter]; omega) O2.out.lt))
      · have g : ((c : Int) == (l6 k : Int)) = false := by simpa using (by omega : ¬ (c : Int) = (l6 k : Int))
        have HK := Lib.hid hck
        clear hck
        go_wp2
        go_roundw
        case rel =>
          refine ⟨k + 1, by omega, rfl, fun j hj => ?_⟩
          by_cases e : j = k
          · subst e; exact HK.out
          · exact HN.out j (by omega)
        case measure => simp; omega
    · obtain rfl : k = 6 := by omega
      have hnx := fun ty => run_next_end (P := Tryz.prog) W let6 6 ty (by decide)
      have hsim : Hid (simpleF c = none) := simple_none HN.out
      have H3 : Hid (LxAt (W.iter let6 6) L s (i + n) nl out opn) := H2.out.alloc _
      have B3 : Hid (Beside base L w (W.iter let6 6)) := B2.out.alloc (by omega) _
      have O3 : Hid (Row (W.iter let6 6) base v u) := World.ownsRow.alloc O2.out _
      have hz3 : (W.iter let6 6).heap.size = W.heap.size + 1 := by simp [World.iter]
      have HZ := Lib.hid hz3
      have hE : Hid (∀ x, (if c = 13 ∧ bt s (i + n) = 10 then ER.right [] (i + n + 1) else if isLn c then .right [] (i + n) else if c = 48 ∧ ¬ (48 ≤ bt s (i + n) ∧ bt s (i + n) ≤ 57) then .right [0] (i + n)
          else if 48 ≤ c ∧ c ≤ 57 then .opn else if c = 120 then ofPoint (digitsF s 2 (i + n) 0) else if c = 117 then ofPoint (pointF s (i + n)) else .right (unitsOf c) (i + n)) = x → escF s i = x) := by
        intro x hx
        unfold escF
        rw [if_neg (by omega), HC.out, hsim.out]
        exact hx
      clear H2 B2 O2 hz3
      have c1 := H3.out.cell1
      have f1 := H3.out.free 1
      have hzz := HZ.out
      by_cases h13 : c = 13
      · have g13 : ((c : Int) == 13) = true := by rw [h13]; rfl
        by_cases h10 : bt s (i + n) = 10
        · have g10 : ((bt s (i + n) : Int) == 10) = true := by rw [h10]; rfl
          have HE := Lib.hid (hE.out _ (if_pos ⟨h13, h10⟩))
          clear hE h10 h13 hzz
          go_wp2_with (first | (go_at_call 20; refine (ahead_any L s (i + n) 0 (i + n) 0 rfl rfl nl out opn _ H3.out (by omega) (by omega)).mono ?_; rintro e w2 ⟨rfl, n2, rfl⟩))
          go_ret2
          rw [HE.out]
          exact ⟨v, rfl, by rw [List.append_nil]; exact (O3.out.drewN n2).set_below hL _, (H3.out.drewN n2).set1 (i + n + 1), Beside.setCell (L := L) (B3.out.drewN n2) (.inl rfl) _⟩
        · have g10 : ((bt s (i + n) : Int) == 10) = false := by simpa using (by omega : ¬ (bt s (i + n) : Int) = 10)
          have gl : isLn c = true := by rw [h13]; rfl
          have HE := Lib.hid (hE.out (.right [] (i + n)) (by rw [if_neg (by omega), if_pos gl]))
          clear hE h10 h13 hzz
          go_wp2_with (first | (go_at_call 20; refine (ahead_any L s (i + n) 0 (i + n) 0 rfl rfl nl out opn _ H3.out (by omega) (by omega)).mono ?_; rintro e w2 ⟨rfl, n2, rfl⟩) | (go_at_call 19; refine (isLine_any c _).mono ?_; rintro e w2 ⟨rfl, rfl⟩))
          go_ret2
          rw [HE.out]
          exact ⟨v, rfl, by rw [List.append_nil]; exact O3.out.drewN n2, H3.out.drewN n2, B3.out.drewN n2⟩
      · have g13 : ((c : Int) == 13) = false := by simpa using (by omega : ¬ (c : Int) = 13)
        cases gl : isLn c with
        | true =>
          have HE := Lib.hid (hE.out (.right [] (i + n)) (by rw [if_neg (by omega), if_pos gl]))
          clear hE h13 hzz
          go_wp2_with (first | (go_at_call 20; refine (ahead_any L s (i + n) 0 (i + n) 0 rfl rfl nl out opn _ H3.out (by omega) (by omega)).mono ?_; rintro e w2 ⟨rfl, n2, rfl⟩) | (go_at_call 19; refine (isLine_any c _).mono ?_; rintro e w2 ⟨rfl, rfl⟩))
          go_ret2
          rw [HE.out]
          exact ⟨v, rfl, by rw [List.append_nil]; exact O3.out, H3.out, B3.out⟩
        | false =>
          by_cases h48 : c = 48
          · have g48 : ((c : Int) == 48) = true := by rw [h48]; rfl
            cases gd : isDig (bt s (i + n)) with
            | false =>
              have hd := of_decide_eq_false gd
              have HE := Lib.hid (hE.out (.right [0] (i + n)) (by rw [if_neg (by omega), if_neg (by rw [gl]; simp), if_pos ⟨h48, hd⟩]))
              clear hE h13 h48 hd hzz
              go_wp2_with (first | (go_at_call 20; refine (ahead_any L s (i + n) 0 (i + n) 0 rfl rfl nl out opn _ H3.out (by omega) (by omega)).mono ?_; rintro e w2 ⟨rfl, n2, rfl⟩) | (go_at_call 19; refine (isLine_any c _).mono ?_; rintro e w2 ⟨rfl, rfl⟩) | (go_at_call 23; refine (isDigit_any _ _).mono ?_; rintro e w2 ⟨rfl, rfl⟩) | (at_builtin; refine wpList_append_own _ rfl _ _ 22 rfl base 35 i0 (.int .u16 0) 1 2 Tryz.underlying22 hi0 hz0 hz1 hz2 rfl (by decide) _ _ _ rfl (World.ownsRow.alloc (Row.drewN O3.out n2) _) ⟨(W.iter let6 6).heap.size, 0, none⟩ 1 1 [.int .u16 0] rfl rfl ?_ ?_ ?_ ?_ ?_ ?_; exact cell_one_new _ _ _; (intro u hu; simp at hu; subst hu; rfl); (unfold maxLen; omega); omega; (have := HZ.out; simp at this ⊢; omega); intro v' w3 hown hgrow _))
              go_ret2
              rw [HE.out]
              have hrow := O3.out.lt
              have hzz := HZ.out
              refine ⟨v', rfl, Row.of hown (by simp) (by rw [List.map_append]; rfl), ?_, ?_⟩
              · refine (H3.out.drewN n2).of_block ?_
                rw [hgrow.block L (by simp; omega) (fun e => by have := hrow L e.symm; omega), Below.heap_alloc _ _ _ (by simp; omega)]
              · exact (B3.out.drewN n2).trans (.of_below (((Below.refl base _).alloc (by simp; omega) _).grown hgrow (by simp; omega) hrow))
            | true =>
              have hd := of_decide_eq_true gd
              have HE := Lib.hid (hE.out .opn (by rw [if_neg (by omega), if_neg (by rw [gl]; simp), if_neg (by omega), if_pos (by omega)]))
              have g0 : (48 : Int) ≤ c := by omega
              have g9 : (c : Int) ≤ 57 := by omega
              clear hE h13 h48 hd hzz
              go_wp2_with (first | (go_at_call 20; refine (ahead_any L s (i + n) 0 (i + n) 0 rfl rfl nl out opn _ H3.out (by omega) (by omega)).mono ?_; rintro e w2 ⟨rfl, n2, rfl⟩) | (go_at_call 19; refine (isLine_any c _).mono ?_; rintro e w2 ⟨rfl, rfl⟩) | (go_at_call 23; refine (isDigit_any _ _).mono ?_; rintro e w2 ⟨rfl, rfl⟩))
              go_ret2
              rw [HE.out]
              exact ⟨rfl, ⟨_, H3.out.drewN n2⟩, B3.out.drewN n2⟩
          · have g48 : ((c : Int) == 48) = false := by simpa using (by omega : ¬ (c : Int) = 48)
            by_cases h9 : 48 ≤ c ∧ c ≤ 57
            · have HE := Lib.hid (hE.out .opn (by rw [if_neg (by omega), if_neg (by rw [gl]; simp), if_neg (by omega), if_pos (by omega)]))
              have g0 : (48 : Int) ≤ c := by omega
              have g9 : (c : Int) ≤ 57 := by omega
              clear hE h13 h48 h9 hzz
              go_wp2_with (first | (go_at_call 20; refine (ahead_any L s (i + n) 0 (i + n) 0 rfl rfl nl out opn _ H3.out (by omega) (by omega)).mono ?_; rintro e w2 ⟨rfl, n2, rfl⟩) | (go_at_call 19; refine (isLine_any c _).mono ?_; rintro e w2 ⟨rfl, rfl⟩) | (go_at_call 23; refine (isDigit_any _ _).mono ?_; rintro e w2 ⟨rfl, rfl⟩))
              go_ret2
              rw [HE.out]
              exact ⟨rfl, ⟨_, H3.out⟩, B3.out⟩
            · have gp : (decide ((c : Int) < 48) = true ∧ True) ∨ (decide ((c : Int) < 48) = false ∧ decide ((c : Int) ≤ 57) = false) := by
                by_cases h : (c : Int) < 48
                · exact .inl ⟨decide_eq_true h, trivial⟩
                · exact .inr ⟨decide_eq_false h, decide_eq_false (by omega)⟩
              by_cases hx : c = 120
              · have hy : True := trivial
                have g1 : ((c : Int) == 120) = true := by rw [hx]; rfl
                have g0 : (57 : Int) < c := by omega
                have g5 : (48 : Int) ≤ c := by omega
                clear gp
                cases hd : digitsF s 2 (i + n) 0 with
                | none =>
                  have HD := Lib.hid hd
                  have HE : Hid (escF s i = .wrong) := hE.out .wrong (by rw [if_neg (by omega), if_neg (by rw [gl]; simp), if_neg (by omega), if_neg h9, if_pos hx]; rw [hd]; rfl)
                  clear hE h13 h48 h9 hd hx hy
                  go_wp2_with (first | (go_at_call 19; refine (isLine_any c _).mono ?_; rintro e w2 ⟨rfl, rfl⟩) | (go_at_call 57; refine (digits_any L s (i + n) 2 2 rfl nl out opn _ H3.out (by omega) (by omega) (by omega)).mono ?_; rw [HD.out]; rintro e w2 ⟨rfl, hj, hb⟩))
                  go_ret2
                  rw [HE.out]
                  exact ⟨rfl, hj, B3.out.trans (hb.mono (by omega))⟩
                | some pk =>
                  obtain ⟨p, k⟩ := pk
                  have HD := Lib.hid hd
                  have HE : Hid (escF s i = .right (unitsOf p) k) := hE.out _ (by rw [if_neg (by omega), if_neg (by rw [gl]; simp), if_neg (by omega), if_neg h9, if_pos hx]; rw [hd]; rfl)
                  have hp : p ≤ 1114111 := by obtain ⟨_, h, _⟩ := digitsF_le s _ _ _ _ _ hd; omega
                  clear hE h13 h48 h9 hd hx hy
                  go_wp2_with (first | (go_at_call 19; refine (isLine_any c _).mono ?_; rintro e w2 ⟨rfl, rfl⟩) | (go_at_call 57; refine (digits_any L s (i + n) 2 2 rfl nl out opn _ H3.out (by omega) (by omega) (by omega)).mono ?_; rw [HD.out]; rintro e w2 ⟨rfl, hj, hb⟩))
                  have hsz2 := hb.size
                  refine (units_any base v u p _ (O3.out.beside hb (Nat.le_refl _) hL) hp hu (by omega)).mono ?_
                  rintro e w3 ⟨v', rfl, hrow, hbl⟩
                  go_wp2
                  go_ret2
                  rw [HE.out]
                  exact ⟨v', rfl, hrow, hj.below hbl hL, (B3.out.trans (hb.mono (by omega))).trans (.of_below hbl)⟩
              · by_cases hy : c = 117
                · have g1 : ((c : Int) == 120) = false := by simpa using (by omega : ¬ (c : Int) = 120)
                  have g2 : ((c : Int) == 117) = true := by rw [hy]; rfl
                  have g0 : (57 : Int) < c := by omega
                  have g5 : (48 : Int) ≤ c := by omega
                  clear gp
                  cases hd : pointF s (i + n) with
                  | none =>
                    have HD := Lib.hid hd
                    have HE : Hid (escF s i = .wrong) := hE.out .wrong (by rw [if_neg (by omega), if_neg (by rw [gl]; simp), if_neg (by omega), if_neg h9, if_neg hx, if_pos hy]; rw [hd]; rfl)
                    clear hE h13 h48 h9 hd hx hy
                    go_wp2_with (first | (go_at_call 19; refine (isLine_any c _).mono ?_; rintro e w2 ⟨rfl, rfl⟩) | (go_at_call 51; refine (point_any L s (i + n) nl out opn _ H3.out (by omega) (by omega)).mono ?_; rw [HD.out]; rintro e w2 ⟨rfl, hj, hb⟩))
                    go_ret2
                    rw [HE.out]
                    exact ⟨rfl, hj, B3.out.trans (hb.mono (by omega))⟩
                  | some pk =>
                    obtain ⟨p, k⟩ := pk
                    have HD := Lib.hid hd
                    have HE : Hid (escF s i = .right (unitsOf p) k) := hE.out _ (by rw [if_neg (by omega), if_neg (by rw [gl]; simp), if_neg (by omega), if_neg h9, if_neg hx, if_pos hy]; rw [hd]; rfl)
                    have hp : p ≤ 1114111 := (pointF_le hd).2.1
                    clear hE h13 h48 h9 hd hx hy
                    go_wp2_with (first | (go_at_call 19; refine (isLine_any c _).mono ?_; rintro e w2 ⟨rfl, rfl⟩) | (go_at_call 51; refine (point_any L s (i + n) nl out opn _ H3.out (by omega) (by omega)).mono ?_; rw [HD.out]; rintro e w2 ⟨rfl, hj, hb⟩))
                    have hsz2 := hb.size
                    refine (units_any base v u p _ (O3.out.beside hb (Nat.le_refl _) hL) hp hu (by omega)).mono ?_
                    rintro e w3 ⟨v', rfl, hrow, hbl⟩
                    go_wp2
                    go_ret2
                    rw [HE.out]
                    exact ⟨v', rfl, hrow, hj.below hbl hL, (B3.out.trans (hb.mono (by omega))).trans (.of_below hbl)⟩
                · have g1 : ((c : Int) == 120) = false := by simpa using (by omega : ¬ (c : Int) = 120)
                  have g2 : ((c : Int) == 117) = false := by simpa using (by omega : ¬ (c : Int) = 117)
                  have HE := Lib.hid (hE.out (.right (unitsOf c) (i + n)) (by rw [if_neg (by omega), if_neg (by rw [gl]; simp), if_neg (by omega), if_neg h9, if_neg hx, if_neg hy]))
                  have hszz := HZ.out
                  have hb0 : base ≤ (W.iter let6 6).heap.size := by omega
                  clear hE h13 h48 hx hy hszz gp
                  by_cases g0 : (c : Int) < 48
                  · clear h9 hzz
                    go_wp2_with (first | (go_at_call 19; refine (isLine_any c _).mono ?_; rintro e w2 ⟨rfl, rfl⟩) | (go_at_call 38; refine (units_any base v u c _ O3.out hc hu hb0).mono ?_; rintro e w3 ⟨v', rfl, hrow, hbl⟩))
                    go_ret2
                    rw [HE.out]
                    exact ⟨v', rfl, hrow, H3.out.below hbl hL, B3.out.trans (.of_below hbl)⟩
                  · have g7 : (57 : Int) < c := by omega
                    clear h9 hzz
                    go_wp2_with (first | (go_at_call 19; refine (isLine_any c _).mono ?_; rintro e w2 ⟨rfl, rfl⟩) | (go_at_call 38; refine (units_any base v u c _ O3.out hc hu hb0).mono ?_; rintro e w3 ⟨v', rfl, hrow, hbl⟩))
                    go_ret2
                    rw [HE.out]
                    exact ⟨v', rfl, hrow, H3.out.below hbl hL, B3.out.trans (.of_below hbl)⟩
end Go.Proofs.YthknielnhmoobaaGreatDoor
