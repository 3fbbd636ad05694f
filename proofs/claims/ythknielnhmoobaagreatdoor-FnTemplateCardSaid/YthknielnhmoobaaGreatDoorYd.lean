/- Go's ZZTemplate, impl.Template: where the template is right. Plain words: what the reference makes of a template, Go's decoder makes of its raw text. -/
import Derived.Test.YthknielnhmoobaaGreatDoorYb
import Derived.Laws.EntriesVeiled
import Derived.Test.YthknielnhmoobaaGreatDoorZa
namespace Go.Proofs.YthknielnhmoobaaGreatDoor
open Go.RowKit Go.Lib

/-- A text between two back quotes. -/
def ticked (s : ByteArray) : ByteArray := ⟨#[96]⟩ ++ s ++ ⟨#[96]⟩
theorem ticked_size (s : ByteArray) : (ticked s).size = s.size + 2 := by
  unfold ticked
  rw [ByteArray.size_append, ByteArray.size_append]
  show 1 + s.size + 1 = s.size + 2
  omega
theorem ticked_mid (s : ByteArray) : (ticked s).extract 1 (s.size + 1) = s := by
  have h1 : (1 : Nat) = (⟨#[96]⟩ : ByteArray).size := rfl
  unfold ticked
  rw [ByteArray.append_assoc]
  refine ByteArray.ext ?_
  simp only [ByteArray.data_extract, ByteArray.data_append]
  rw [Array.extract_append]
  simp [show s.data.size = s.size from rfl]
theorem lexV_69 (K S M H : Nat) (s : ByteArray) : (lexV K S M H s)[69]? = some (.int .u8 0) := by kernel_rfl
theorem lexV_53 (K S M H : Nat) (s : ByteArray) : (lexV K S M H s)[53]? = some (.int .i64 0) := by kernel_rfl
theorem Row.slice {w : World} {base : Nat} {v : Value} {xs : List Nat} (h : Row w base v xs) (hn : v ≠ .slice none 0 0) : ∃ g cap, v = .slice (some ⟨g, 0, none⟩) xs.length cap ∧ base ≤ g ∧ g < w.heap.size := by
  rcases h.2 with ⟨e, _⟩ | ⟨g, cap, cur, e, hb, hg, _⟩
  · exact absurd e hn
  · exact ⟨g, cap, e, hb, (Array.getElem?_eq_some_iff.1 hg).1⟩
theorem calls_named {P : Program} {f : Nat} {a : Array Value} {w : World} {Q : Ending → World → Prop} (h : ∀ V, V = w → Calls P f a V Q) : Calls P f a w Q := h w rfl
set_option maxRecDepth 100000 in
set_option maxHeartbeats 2000000 in
theorem zzTpl_any (inner : ByteArray) (w : World) (B : Nat) (r : List Nat) (hT : Tabs B w) (hB : B ≤ w.heap.size) (hs : inner.size ≤ 1048576)
    (ht : tteF (rawOf inner) ((rawOf inner).size + 1) 0 [] = .right r) (hr : (rawOf inner).size ≤ 1048576) :
    Calls Tryz.prog 8 #[.string inner] w fun e w' => ∃ v, e = .returned (.tuple #[v, .bool true, .string (rawOf inner)]) ∧ Row w' w.heap.size v r ∧ Below w.heap.size w w' := by
  have HT := Lib.hid hT
  have HR := Lib.hid ht
  clear hT ht
  have hs1 : (⟨#[96]⟩ : ByteArray).size + inner.size ≤ 9223372036854775807 := by show 1 + inner.size ≤ _; omega
  have hs2 : (⟨#[96]⟩ ++ inner : ByteArray).size + (⟨#[96]⟩ : ByteArray).size ≤ 9223372036854775807 := by rw [ByteArray.size_append]; show 1 + inner.size + 1 ≤ _; omega
  go_enter Tryz.func8, Tryz.ntmps8
  go_wp2_with fail
  refine (zzLexer_any (ticked inner) w B HT.out hB (by rw [ticked_size]; omega)).mono ?_
  rintro e w1 ⟨X, K, S, M, H, cs, rfl, hG, hC, hL, h0, h1, h2, h3, h4, hb⟩
  have HG := Lib.hid hG
  have HC := Lib.hid hC
  have HB := Lib.hid hb
  have hX := hG.lt
  have hbs := hb.size
  clear hG hC hL hb
  obtain ⟨c54, hc54⟩ : ∃ c54, cs[54]? = some c54 := ⟨cs[54]'(by have := HG.out.2; omega), Array.getElem?_eq_getElem _⟩
  have k53 := (HC.out 53 (by omega) (by omega) (by omega) (by omega)).trans (lexV_53 K S M H _)
  have g69 := fun (o : Obj) => (HG.out.alloc o).cell ((HC.out 69 (by omega) (by omega) (by omega) (by omega)).trans (lexV_69 K S M H _))
  have g53 := fun (v : Value) (o : Obj) => ((HG.out.set 69 v).alloc o).cell (k := 53) (v := .int .i64 0) (by rw [Array.getElem?_setIfInBounds_ne (by omega)]; exact k53)
  have g54 := fun (v v' : Value) (o : Obj) => (((HG.out.set 69 v).set 53 v').alloc o).cell (k := 54) (v := c54) (by rw [Array.getElem?_setIfInBounds_ne (by omega), Array.getElem?_setIfInBounds_ne (by omega)]; exact hc54)
  have gf := fun (o : Obj) => (HG.out.alloc o).free
  have gf1 := fun (v : Value) (o : Obj) => ((HG.out.set 69 v).alloc o).free
  have gf2 := fun (v v' : Value) (o : Obj) => (((HG.out.set 69 v).set 53 v').alloc o).free
  have hsz : IntKind.i64.wrap ((inner.size : Int) + 2) = (inner.size : Int) + 2 := IntWalk.i64_in _ (by omega)
  clear hc54 k53
  unfold logV
  go_wp2_with fail
  refine calls_named fun V hV => ?_
  have GV : GoLex V X (((cs.setIfInBounds 69 (.int .u8 3)).setIfInBounds 53 (.int .i64 0)).setIfInBounds 54 (.int .i64 ((inner.size : Int) + 2))) := by
    rw [hV]
    exact (((HG.out.set 69 _).set 53 _).set 54 _).alloc _
  have HAt : AtTpl V X (ticked inner) inner.size := by
    have z := HG.out.2
    refine ⟨GV.cell ?_, GV.cell ?_, GV.cell ?_, GV.cell ?_, GV.cell ?_, GV.lt⟩
    · rw [Array.getElem?_setIfInBounds_ne (by omega), Array.getElem?_setIfInBounds_ne (by omega), Array.getElem?_setIfInBounds_self_of_lt (by omega)]
    · rw [Array.getElem?_setIfInBounds_ne (by omega), Array.getElem?_setIfInBounds_ne (by omega), Array.getElem?_setIfInBounds_ne (by omega)]
      exact (HC.out 14 (by omega) (by omega) (by omega) (by omega)).trans (lexV_14 K S M H _)
    · rw [Array.getElem?_setIfInBounds_ne (by omega), Array.getElem?_setIfInBounds_self_of_lt (by rw [Array.size_setIfInBounds]; omega)]
    · rw [Array.getElem?_setIfInBounds_self_of_lt (by rw [Array.size_setIfInBounds, Array.size_setIfInBounds]; omega)]
    · rw [Array.getElem?_setIfInBounds_ne (by omega), Array.getElem?_setIfInBounds_ne (by omega), Array.getElem?_setIfInBounds_ne (by omega)]
      exact (HC.out 68 (by omega) (by omega) (by omega) (by omega)).trans (lexV_68 K S M H _)
  have HBV : Hid (Below w.heap.size w V) := by
    rw [hV]
    exact (((HB.out.setCell (by show w.heap.size ≤ X; omega) _).setCell (by show w.heap.size ≤ X; omega) _).setCell (by show w.heap.size ≤ X; omega) _).alloc (by simp [World.setCell]; omega) _
  have HA := Lib.hid HAt
  clear hV GV HAt HG HC HB g69 g53 g54 gf gf1 gf2
  have hzV := HBV.out.size
  refine (cooked_any X B inner (ticked inner) V r HA.out (HT.out.below HBV.out hB) (by omega) hs (ticked_mid inner) (ticked_size inner) HR.out hr).mono ?_
  rintro e w3 ⟨v, rfl, hn, hrow, hb⟩
  obtain ⟨g, cap, rfl, hg1, hg2⟩ := hrow.slice hn
  have HW := Lib.hid (show Row w3 w.heap.size _ r from hrow.mono hzV)
  have HB3 := Lib.hid (HBV.out.trans (hb.mono hzV))
  clear hn hrow hb
  have hne := fun V => run_neq_slice_nil_any (P := Tryz.prog) V 22 35 (some ⟨g, 0, none⟩) r.length cap 0 0 (by kernel_rfl)
  go_wp2_with fail
  go_ret3
  exact ⟨_, rfl, HW.out, HB3.out⟩
/-- impl.Template, where the template is right. -/
theorem implTpl_any (inner : ByteArray) (w : World) (B : Nat) (r : List Nat) (hT : Tabs B w) (hB : B ≤ w.heap.size) (hs : inner.size ≤ 1048576)
    (ht : tteF (rawOf inner) ((rawOf inner).size + 1) 0 [] = .right r) (hr : (rawOf inner).size ≤ 1048576) :
    Calls Tryz.prog 5 #[.string inner] w fun e w' => ∃ v, e = .returned (.tuple #[v, .bool true, .string (rawOf inner)]) ∧ Row w' w.heap.size v r ∧ Below w.heap.size w w' := by
  have HH := Lib.hid (zzTpl_any inner w B r hT hB hs ht hr)
  clear hT ht
  go_enter Tryz.func5, Tryz.ntmps5
  go_wp2_with fail
  refine HH.out.mono ?_
  rintro e w3 ⟨v, rfl, hrow, hb⟩
  have HW := Lib.hid hrow
  have HB3 := Lib.hid hb
  clear hrow hb
  go_wp2
  go_ret3
  exact ⟨v, rfl, HW.out, HB3.out⟩
end Go.Proofs.YthknielnhmoobaaGreatDoor
namespace Go.Proofs.YthknielnhmoobaaGreatDoor
open Go.RowKit Go.Lib

/-- Enough rounds are enough. -/
theorem tte_fuel {s : ByteArray} (k : Nat) : ∀ k' i u v, tteF s k i u = .right v → i ≤ s.size → s.size < i + k' → tteF s k' i u = .right v := by
  induction k with
  | zero => intro k' i u v h; cases h
  | succ k ih =>
    intro k' i u v h hi hk
    unfold tteF at h
    by_cases h0 : s.size ≤ i
    · rw [if_pos h0] at h
      cases k' with
      | zero => omega
      | succ k' => unfold tteF; rw [if_pos h0]; exact h
    obtain ⟨k', rfl⟩ : ∃ f, k' = f + 1 := ⟨k' - 1, by omega⟩
    unfold tteF
    rw [if_neg h0] at h ⊢
    have hp := rn_pos (s := s) (i := i) (by omega)
    by_cases h1 : (rn s i).1 = 13
    · rw [if_pos h1] at h ⊢
      have hl := rn_le (s := s) (i := i) (by omega)
      by_cases h10 : bt s (i + (rn s i).2) = 10
      · rw [if_pos h10] at h ⊢
        have : i + (rn s i).2 < s.size := by
          rcases Nat.lt_or_ge (i + (rn s i).2) s.size with h' | h'
          · exact h'
          · rw [bt_end h'] at h10; omega
        exact ih _ _ _ _ h (by omega) (by omega)
      · rw [if_neg h10] at h ⊢
        exact ih _ _ _ _ h hl (by omega)
    rw [if_neg h1] at h ⊢
    by_cases h2 : (rn s i).1 ≠ 92
    · rw [if_pos h2] at h ⊢
      exact ih _ _ _ _ h (rn_le (by omega)) (by omega)
    rw [if_neg h2] at h ⊢
    by_cases h3 : i + (rn s i).2 = s.size
    · rw [if_pos h3] at h; cases h
    rw [if_neg h3] at h ⊢
    cases hx : escF s (i + (rn s i).2) with
    | wrong => rw [hx] at h; cases h
    | opn => rw [hx] at h; cases h
    | right a j =>
      rw [hx] at h
      have := escF_le hx
      exact ih _ _ _ _ h (by omega) (by omega)
theorem tpl_len {s : ByteArray} (k : Nat) : ∀ i u v n, tplF s k i u = .plain v n → v.length ≤ u.length + 2 * k := by
  induction k with
  | zero => intro i u v n h; cases h
  | succ k ih =>
    intro i u v n h
    unfold tplF at h
    by_cases h0 : s.size ≤ i
    · rw [if_pos h0] at h; cases h
    rw [if_neg h0] at h
    by_cases h1 : (rn s i).1 = 96
    · rw [if_pos h1] at h; injection h with e _; subst e; omega
    rw [if_neg h1] at h
    by_cases h2 : (rn s i).1 = 36 ∧ bt s (i + (rn s i).2) = 123
    · rw [if_pos h2] at h; cases h
    rw [if_neg h2] at h
    by_cases h3 : (rn s i).1 = 92
    · rw [if_pos h3] at h
      cases hx : escF s (i + (rn s i).2) with
      | wrong => rw [hx] at h; cases h
      | opn => rw [hx] at h; cases h
      | right a j =>
        rw [hx] at h
        have h4 := (escF_le hx).2.2
        have := ih _ _ _ _ h
        rw [List.length_append] at this
        omega
    rw [if_neg h3] at h
    by_cases h4 : (rn s i).1 = 13
    · rw [if_pos h4] at h
      have := ih _ _ _ _ h
      rw [List.length_append] at this
      simp at this
      omega
    · rw [if_neg h4] at h
      have := ih _ _ _ _ h
      have h5 := unitsOf_len (rn s i).1
      rw [List.length_append] at this
      omega
theorem ticked_data (s : ByteArray) : (ticked s).data.toList = 96 :: (s.data.toList ++ [96]) := by
  unfold ticked
  simp [ByteArray.data_append]
theorem bt_list (s : ByteArray) (i : Nat) : bt s i = match s.data.toList[i]? with | some b => b.toNat | none => 0 := by
  have hl : s.data.toList.length = s.size := Array.length_toList
  unfold bt
  by_cases h : i < s.size
  · rw [if_pos h, List.getElem?_eq_getElem (by omega), Utf8W.get!_of_lt _ _ h]
    rfl
  · rw [if_neg h, List.getElem?_eq_none (by omega)]
theorem ticked_first (s : ByteArray) : bt (ticked s) 0 = 96 := by rw [bt_list, ticked_data]; rfl
theorem ticked_in (s : ByteArray) (i : Nat) (h : i < s.size) : bt (ticked s) (i + 1) = bt s i := by
  have hl : s.data.toList.length = s.size := Array.length_toList
  rw [bt_list, ticked_data, bt_list, List.getElem?_cons_succ, List.getElem?_append_left (by omega)]
theorem ticked_last (s : ByteArray) : bt (ticked s) (s.size + 1) = 96 := by
  have hl : s.data.toList.length = s.size := Array.length_toList
  rw [bt_list, ticked_data, List.getElem?_cons_succ, List.getElem?_append_right (by omega), hl]
  simp
theorem lines_ticked (s : ByteArray) (k : Nat) : ∀ i, linesF (ticked s) (s.size + 1) k (i + 1) = linesF s s.size k i := by
  induction k with
  | zero => intro i; rfl
  | succ k ih =>
    intro i
    unfold linesF
    by_cases h0 : s.size ≤ i
    · rw [if_pos h0, if_pos (by omega)]
    rw [if_neg h0, if_neg (by omega), ticked_in s i (by omega)]
    by_cases h1 : bt s i ≠ 13
    · rw [if_pos h1, if_pos h1, ih]
    rw [if_neg h1, if_neg h1]
    by_cases h2 : i + 1 = s.size
    · rw [if_pos (.inl (by omega)), if_pos (.inl h2), ih]
    · have e : bt (ticked s) (i + 1 + 1) = bt s (i + 1) := ticked_in s (i + 1) (by omega)
      rw [e]
      by_cases h3 : bt s (i + 1) ≠ 10
      · rw [if_pos (.inr h3), if_pos (.inr h3), ih]
      · rw [if_neg (by omega), if_neg (by omega), ih]
theorem textOf_bt (l : List Nat) (h : ∀ b ∈ l, b < 256) (x : Nat) (hx : x < l.length) : bt (textOf l) x = l[x] := by
  rw [bt_list]
  unfold textOf
  simp only
  rw [List.getElem?_map, List.getElem?_eq_getElem hx]
  have := h _ (List.getElem_mem hx)
  simp only [Option.map_some]
  simp
  omega
theorem lines_len (s : ByteArray) (e k : Nat) : ∀ i, (linesF s e k i).length ≤ k := by
  induction k with
  | zero => intro i; simp [linesF]
  | succ k ih =>
    intro i
    have := ih (i + 1)
    unfold linesF
    split
    · simp
    split
    · simp; omega
    split
    · simp; omega
    · omega
theorem raw_size (s : ByteArray) : (rawOf s).size ≤ s.size := by
  unfold rawOf
  rw [textOf_size]
  exact lines_len s s.size s.size 0
/-- THE LAW IN PLAIN WORDS. -/
theorem tte_of_ticked (s : ByteArray) (u : List Nat) (h : tplF (ticked s) ((ticked s).size + 1) (0 + 1) [] = .plain u (s.size + 2)) : tteF (rawOf s) ((rawOf s).size + 1) 0 [] = .right u := by
  have hL : Ln (ticked s) (rawOf s) (s.size + 1) 1 0 := by
    refine ln_of (by rw [ticked_last]; decide) s.size 1 0 (by omega) (by omega) ?_ ?_
    · rw [lines_ticked s s.size 0]
      unfold rawOf
      rw [textOf_size]
      omega
    · intro x hx
      have e := lines_ticked s s.size 0
      simp only [Nat.zero_add] at e
      simp only [e] at hx ⊢
      rw [Nat.zero_add]
      exact textOf_bt _ (linesF_lt _ _ _ _) x hx
  have h2 : tplF (ticked s) ((ticked s).size + 1) 1 [] = .plain u (ticked s).size := by rw [ticked_size] at h ⊢; exact h
  exact tte_fuel _ _ _ _ _ (tte_of_tpl (ticked_last s) (by rw [ticked_size]) _ 1 0 [] u hL h2) (by omega) (by omega)
end Go.Proofs.YthknielnhmoobaaGreatDoor
