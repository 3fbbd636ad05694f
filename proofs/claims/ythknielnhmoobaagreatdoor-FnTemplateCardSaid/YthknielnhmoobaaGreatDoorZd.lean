/- The reference's lexer at any text: digits of a number. -/
import Derived.Test.YthknielnhmoobaaGreatDoorZc
namespace Go.Proofs.YthknielnhmoobaaGreatDoor
open Go.RowKit Go.Lib

/-- A text and a Bool come back. -/
def TB (e : Ending) (t : ByteArray) (r : Bool) : Prop := e = .returned (.tuple #[.string t, .bool r])
def RunR (w : World) (L : Nat) (s : ByteArray) (nl : Bool) (out opn : Value) (i : Nat) (r : Bool) (w' : World) : Prop :=
  (r = true → ∃ j, i < j ∧ j ≤ s.size ∧ LxAt w' L s j nl out opn) ∧ Beside w.heap.size L w w'
def RunP (w : World) (L : Nat) (s : ByteArray) (nl : Bool) (out opn : Value) (i : Nat) (e : Ending) (w' : World) : Prop :=
  ∃ t, t.size ≤ 4194304 ∧ ((TB e t true ∧ RunR w L s nl out opn i true w') ∨ (TB e t false ∧ RunR w L s nl out opn i false w'))
theorem run_ends {w w' : World} {L : Nat} {s : ByteArray} {nl : Bool} {out opn : Value} {i : Nat} (t : ByteArray) (r : Bool) (ht : t.size ≤ 4194304) (h : RunR w L s nl out opn i r w') :
    RunP w L s nl out opn i (.returned (.tuple #[.string t, .bool r])) w' := by
  cases r
  · exact ⟨t, ht, .inr ⟨rfl, h⟩⟩
  · exact ⟨t, ht, .inl ⟨rfl, h⟩⟩
theorem hexI_pos {b : Nat} (h : 0 ≤ hexI b) : 1 ≤ b := by
  rcases Nat.lt_or_ge 0 b with h' | h'
  · exact h'
  · obtain rfl : b = 0 := by omega
    exact absurd h (by decide)
theorem byte_of {a b : Nat} (h : ((a : Int) == (b : Int)) = true) : a = b := by
  have := eq_of_beq h
  omega
theorem hex_b (b : Nat) (hb : b < 256) (w : World) : Calls Tryz.prog 63 #[.int .u8 (b : Int)] w fun e w' => ∃ d : Int, e = .returned (.int .i64 d) ∧ w = w' ∧ (0 ≤ d → 1 ≤ b) := by
  refine (hex_any b hb w).mono ?_
  rintro e w' ⟨rfl, rfl⟩
  exact ⟨_, rfl, rfl, hexI_pos⟩
set_option maxRecDepth 100000 in
set_option maxHeartbeats 2000000 in
theorem run_any (L : Nat) (s : ByteArray) (i : Nat) (b : Int) (nl : Bool) (out opn : Value) (w : World) (h : LxAt w L s i nl out opn) (hi : i ≤ s.size) (hs : s.size ≤ 1048576) :
    Calls Tryz.prog 52 #[.pointer (some ⟨L, 0, none⟩), .int .i64 b] w (RunP w L s nl out opn i) := by
  have H := Lib.hid h
  have hL := h.lt
  clear h
  go_enter Tryz.func52, Tryz.ntmps52
  go_wp2
  go_loopw [6] (fun v wr => ∃ (nm : ByteArray) (j : Nat), v = .string nm ∧ i ≤ j ∧ j ≤ s.size ∧ nm.size ≤ 4 * j ∧ (i = j → nm = ⟨#[]⟩) ∧ LxAt wr L s j nl out opn ∧ Beside w.heap.size L w wr) (fun _ wr => s.size - posOf wr L)
  case atStart => exact ⟨⟨#[]⟩, i, rfl, Nat.le_refl _, hi, Nat.zero_le _, fun _ => rfl, H.out, Beside.refl _ _ _⟩
  case round =>
    obtain ⟨nm, j, rfl, hij, hj, hnm, hz, hx, hb⟩ := hrel
    have HX := Lib.hid hx
    have HB := Lib.hid hb
    have HZ := Lib.hid hz
    have P0 := Lib.hid hx.posOf
    have hLr := hx.lt
    have c1 := hx.cell1
    have c0 := hx.cell0
    have f1 := hx.free 1
    clear hx hb hz
    have hB0 := HB.out.size
    obtain ⟨E, hE, ht1⟩ := str_run (bt s j)
    have ht2 : nm.size + E.size ≤ 9223372036854775807 := by omega
    have hlt := bt_lt s j
    by_cases hne : i = j
    · have hnm0 := HZ.out hne
      subst hnm0
      by_cases h95 : ((bt s j : Int) == 95) = true
      all_goals
        go_wp2_with (first | (go_at_call 20; refine (ahead_any L s j 0 j 0 rfl rfl nl out opn _ HX.out (by omega) (by omega)).mono ?_; rintro e w2 ⟨rfl, q, rfl⟩) | (go_at_call 63; refine (hex_b _ hlt _).mono ?_; rintro e w2 ⟨d, rfl, rfl, hd⟩) | go_quiet (fail))
        all_goals first
          | (go_ret2; exact run_ends _ _ (by omega) ⟨fun h => (by cases h), HB.out.drewN _⟩)
          | (go_ret2; exact run_ends _ _ (by omega) ⟨fun h => (by cases h), (HB.out.drewN _).drewN _⟩)
          | (go_ret2; exact run_ends _ _ (by omega) ⟨fun h => (by cases h), ((HB.out.drewN _).drewN _).drewN _⟩)
          | (have h1 := bt_some (s := s) (i := j) (by omega); refine ⟨⟨_, j + 1, rfl, by omega, by omega, by rw [ByteArray.size_append]; omega, fun h => by omega, (HX.out.drewN _).set1 (j + 1), Beside.setCell (HB.out.drewN _) (.inl rfl) _⟩, ?_⟩; exact meas P0.out ((HX.out.drewN _).set1 (j + 1)).posOf (by omega) (by omega))
    · have hj1 : i + 1 ≤ j := by omega
      obtain ⟨k, rfl⟩ : ∃ k, j = k + 1 := ⟨j - 1, by omega⟩
      have hk : k < s.size := by omega
      have e6 : ((k + 1 : Nat) : Int) = (k : Int) + 1 := by omega
      rw [e6] at c1
      by_cases h95 : ((bt s (k + 1) : Int) == 95) = true
      all_goals
        cases hem : nm.toList.isEmpty
        all_goals
          go_wp2_with (first | (go_at_call 20; refine (ahead_any L s (k + 1) 0 (k + 1) 0 rfl rfl nl out opn _ HX.out (by omega) (by omega)).mono ?_; rintro e w2 ⟨rfl, q, rfl⟩) | (go_at_call 63; refine (hex_b _ hlt _).mono ?_; rintro e w2 ⟨d, rfl, rfl, hd⟩) | go_quiet (fail))
          all_goals first
            | (go_ret2; exact run_ends _ _ (by omega) ⟨fun _ => ⟨k + 1, by omega, hj, ((HX.out.drewN _).drewN _).drewN _⟩, ((HB.out.drewN _).drewN _).drewN _⟩)
            | (go_ret2; exact run_ends _ _ (by omega) ⟨fun _ => ⟨k + 1, by omega, hj, HX.out.drewN _⟩, HB.out.drewN _⟩)
            | (have h1 := bt_some (s := s) (i := k + 1) (by omega); refine ⟨⟨_, k + 2, rfl, by omega, by omega, by rw [ByteArray.size_append]; omega, fun h => by omega, (HX.out.drewN _).set1 (k + 2), Beside.setCell (HB.out.drewN _) (.inl rfl) _⟩, ?_⟩; exact meas P0.out ((HX.out.drewN _).set1 (k + 2)).posOf (by omega) (by omega))
            | (have h0 : bt s (k + 1) = 95 := byte_of h95; have h1 := bt_some (s := s) (i := k + 1) (by omega); refine ⟨⟨nm, k + 2, rfl, by omega, by omega, by omega, fun h => by omega, (HX.out.drewN _).set1 (k + 2), Beside.setCell (HB.out.drewN _) (.inl rfl) _⟩, ?_⟩; exact meas P0.out ((HX.out.drewN _).set1 (k + 2)).posOf (by omega) (by omega))
end Go.Proofs.YthknielnhmoobaaGreatDoor
