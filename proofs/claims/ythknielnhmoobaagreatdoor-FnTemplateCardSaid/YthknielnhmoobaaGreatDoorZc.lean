/- The reference's lexer at any text: what a safe text wants of letters. -/
import Derived.Test.YthknielnhmoobaaGreatDoorEsc
import Derived.Test.YthknielnhmoobaaGreatDoorZb
import Derived.Test.YthknielnhmoobaaGreatDoorZa
import Derived.Test.YthknielnhmoobaaGreatDoorWr
namespace Go.Proofs.YthknielnhmoobaaGreatDoor
open Go.RowKit Go.Lib

/-- Where the lexer of block L stands. -/
def posOf (w : World) (L : Nat) : Nat := match w.cell? ⟨L, 1, none⟩ with | some (.int _ n) => n.toNat | _ => 0
theorem LxAt.posOf {w : World} {L i : Nat} {s : ByteArray} {nl : Bool} {out opn : Value} (h : LxAt w L s i nl out opn) : posOf w L = i := by unfold Go.Proofs.YthknielnhmoobaaGreatDoor.posOf; rw [h.cell1]; simp
/-- The lexer has gone on from place i, if all is right. -/
def LexR (w : World) (L : Nat) (s : ByteArray) (nl : Bool) (out opn : Value) (i : Nat) (v : Int) (w' : World) : Prop :=
  (v = 1 → ∃ j, i < j ∧ j ≤ s.size ∧ LxAt w' L s j nl out opn) ∧ Beside w.heap.size L w w'
theorem bt_some {s : ByteArray} {i : Nat} (h : bt s i ≠ 0) : i < s.size := by
  rcases Nat.lt_or_ge i s.size with h' | h'
  · exact h'
  · exact absurd (bt_end h') h
section
variable {L : Nat} {s : ByteArray} {i : Nat} {nl : Bool} {out opn : Value} {w : World}
theorem here_weak (h : LxAt w L s i nl out opn) (hi : i ≤ s.size) (hT : Tabs L w) :
    Calls Tryz.prog 17 #[.pointer (some ⟨L, 0, none⟩)] w fun e w' => ∃ c n : Nat, e = .returned (.tuple #[.int .i32 c, .int .i64 n]) ∧ c ≤ 1114111 ∧ i + n ≤ s.size ∧ (n = 0 → i = s.size ∧ c = 0) ∧ LxAt w' L s i nl out opn ∧ Below w.heap.size w w' := by
  refine (here_any L s i nl out opn w h hi hT.tabs).mono ?_
  rintro e w' ⟨rfl, hb⟩
  refine ⟨if i < s.size then (rn s i).1 else 0, _, by split <;> rfl, ?_, rn_le hi, fun h0 => ?_, h.below hb h.lt, hb⟩
  · split
    · exact rn_rune s i
    · omega
  · rcases Nat.lt_or_ge i s.size with h' | h'
    · have := rn_pos h'; omega
    · exact ⟨by omega, if_neg (by omega)⟩
theorem isLine_weak (c : Nat) : Calls Tryz.prog 19 #[.int .i32 (c : Int)] w fun e w' => Bo e ∧ w = w' := by
  refine (isLine_any c w).mono ?_
  rintro e w' ⟨rfl, rfl⟩
  exact ⟨⟨_, rfl⟩, rfl⟩
theorem point_weak (h : LxAt w L s i nl out opn) (hi : i ≤ s.size) (hs : s.size ≤ 2305843009213693951) :
    Calls Tryz.prog 51 #[.pointer (some ⟨L, 0, none⟩)] w fun e w' => ∃ (p : Nat) (ok : Bool), e = .returned (.tuple #[.int .i32 p, .bool ok]) ∧ p ≤ 1114111 ∧ (ok = true → ∃ j, i < j ∧ j ≤ s.size ∧ LxAt w' L s j nl out opn) ∧ Beside w.heap.size L w w' := by
  refine (point_any L s i nl out opn w h hi hs).mono ?_
  cases hx : pointF s i with
  | none => rintro e w' ⟨rfl, _, hb⟩; exact ⟨0, false, rfl, by omega, fun h => (by cases h), hb⟩
  | some pk =>
    obtain ⟨p, k⟩ := pk
    rintro e w' ⟨rfl, hl, hb⟩
    obtain ⟨a, b, c⟩ := pointF_le hx
    exact ⟨p, true, rfl, b, fun _ => ⟨k, a, c, hl⟩, hb⟩
end
theorem str_run (c : Nat) : ∃ E : ByteArray, (∀ W, (convert 21 9 (.int .i32 (c : Int))).run Tryz.prog W = .ok (.string E) W) ∧ E.size ≤ 4 :=
  ⟨Utf8.encode (c : Int), fun W => by simp [go_sem], encode_le _⟩
theorem meas {a b j k n : Nat} (h1 : b = j) (h2 : a = k) (h3 : j < k) (h4 : k ≤ n) : n - a < n - b := by omega
theorem lt_of_name {i j : Nat} {nm : ByteArray} (hij : i ≤ j) (hz : i = j → nm = ⟨#[]⟩) (h : nm.toList.isEmpty = false) : i < j := by
  rcases Nat.lt_or_ge i j with h' | h'
  · exact h'
  · rw [hz (by omega)] at h
    rw [ByteArray.toList_eq] at h
    exact absurd h (by decide)
/-- A text, a Bool and a verdict come back. -/
def Let3 (e : Ending) (v : Int) : Prop := ∃ nm b, e = .returned (.tuple #[.string nm, .bool b, .int .i64 v])
set_option maxRecDepth 100000 in
set_option maxHeartbeats 2000000 in
theorem letters_any (L : Nat) (s : ByteArray) (i : Nat) (nl : Bool) (out opn : Value) (w : World) (h : LxAt w L s i nl out opn) (hi : i ≤ s.size) (hs : s.size ≤ 1048576) (hT : Tabs L w) :
    Calls Tryz.prog 34 #[.pointer (some ⟨L, 0, none⟩)] w fun e w' => ∃ v, Let3 e v ∧ LexR w L s nl out opn i v w' := by
  have HT := Lib.hid hT
  have H := Lib.hid h
  have hL := h.lt
  clear hT h
  go_enter Tryz.func34, Tryz.ntmps34
  go_wp2
  go_loopw [5, 6] (fun v b wr => ∃ (nm : ByteArray) (r : Bool) (j : Nat), v = .string nm ∧ b = .bool r ∧ i ≤ j ∧ j ≤ s.size ∧ nm.size ≤ 4 * j ∧ (i = j → nm = ⟨#[]⟩) ∧ LxAt wr L s j nl out opn ∧ Beside w.heap.size L w wr) (fun _ _ wr => s.size - posOf wr L)
  case atStart => exact ⟨⟨#[]⟩, false, i, rfl, rfl, Nat.le_refl _, hi, Nat.zero_le _, fun _ => rfl, H.out, Beside.refl _ _ _⟩
  case round =>
    obtain ⟨nm, r, j, rfl, rfl, hij, hj, hnm, hz, hx, hb⟩ := hrel
    have HX := Lib.hid hx
    have HB := Lib.hid hb
    have HZ := Lib.hid hz
    have P0 := Lib.hid hx.posOf
    have hLr := hx.lt
    clear hx hb hz
    have TR : Hid (Tabs L wr) := HT.out.beside (HB.out.mono (by omega)) (Nat.le_refl _) (Nat.le_refl _)
    go_wp2_with fail
    refine (here_weak HX.out hj TR.out).mono ?_
    rintro e w1 ⟨c, n, rfl, hc, hn, hn0, hx1, hb1⟩
    have X1 := Lib.hid hx1
    have B1 : Hid (Beside w.heap.size L w w1) := HB.out.trans (.of_below (hb1.mono HB.out.size))
    have c1 := hx1.cell1
    have f1 := hx1.free 1
    have HN0 := Lib.hid hn0
    clear hx1 hb1 hn0
    have hB0 := HB.out.size
    have hz1 := B1.out.size
    obtain ⟨E, hE, ht1⟩ := str_run c
    have ht2 : nm.size + E.size ≤ 9223372036854775807 := by omega
    by_cases hu : j + 1 < s.size
    · go_wp2_with (first | (go_at_call 21; refine (isBegin_any _ _).mono ?_; rintro e w2 ⟨⟨r2, rfl⟩, rfl⟩; cases r2) | (go_at_call 23; refine (isDigit_weak _ _).mono ?_; rintro e w2 ⟨⟨r2, rfl⟩, rfl⟩; cases r2) | (go_at_call 18; refine (isBlank_any _ _).mono ?_; rintro e w2 ⟨⟨r2, rfl⟩, rfl⟩; cases r2) | (go_at_call 19; refine (isLine_weak _).mono ?_; rintro e w2 ⟨⟨r2, rfl⟩, rfl⟩; cases r2) | (go_at_call 20; refine (ahead_any L s j 1 (j + 1) 1 rfl rfl nl out opn _ X1.out (by omega) (by omega)).mono ?_; rintro e w2 ⟨rfl, q, rfl⟩) | (go_at_call 51; refine (point_weak (i := j + 2) ((X1.out.drewN _).set1 (j + 2)) (by omega) (by omega)).mono ?_; rintro e w3 ⟨p, ok, rfl, hp, hok, hb3⟩; have HO := Lib.hid hok; have HB3 := Lib.hid hb3; clear hok hb3; obtain ⟨F, hF, ht3⟩ := str_run p; have ht4 : nm.size + F.size ≤ 9223372036854775807 := (by omega); cases ok))
      all_goals first
        | (go_ret3; exact ⟨_, ⟨_, _, rfl⟩, ⟨fun h => absurd h (by decide), B1.out⟩⟩)
        | (go_ret3; exact ⟨_, ⟨_, _, rfl⟩, ⟨fun h => absurd h (by decide), B1.out.drewN _⟩⟩)
        | (go_ret3; exact ⟨_, ⟨_, _, rfl⟩, ⟨fun h => absurd h (by decide), (Beside.setCell (B1.out.drewN _) (.inl rfl) _).trans (HB3.out.mono (by simp [World.setCell]; omega))⟩⟩)
        | (go_ret3; refine ⟨_, ⟨_, _, rfl⟩, ⟨fun _ => ⟨j, ?_, hj, X1.out⟩, B1.out⟩⟩; exact lt_of_name hij HZ.out (by assumption))
        | (refine ⟨⟨_, _, j + n, rfl, rfl, by omega, by omega, by rw [ByteArray.size_append]; omega, fun h => by omega, X1.out.set1 (j + n), Beside.setCell B1.out (.inl rfl) _⟩, ?_⟩; exact meas P0.out (X1.out.set1 (j + n)).posOf (by omega) (by omega))
        | (obtain ⟨j3, h1, h2, h3⟩ := HO.out (by trivial); refine ⟨⟨_, _, j3, rfl, rfl, by omega, by omega, by rw [ByteArray.size_append]; omega, fun h => by omega, h3, (Beside.setCell (B1.out.drewN _) (.inl rfl) _).trans (HB3.out.mono (by simp [World.setCell]; omega))⟩, ?_⟩; exact meas P0.out h3.posOf (by omega) (by omega))
    · have hbt : bt s (j + 1) = 0 := bt_end (by omega)
      go_wp2_with (first | (go_at_call 21; refine (isBegin_any _ _).mono ?_; rintro e w2 ⟨⟨r2, rfl⟩, rfl⟩; cases r2) | (go_at_call 23; refine (isDigit_weak _ _).mono ?_; rintro e w2 ⟨⟨r2, rfl⟩, rfl⟩; cases r2) | (go_at_call 18; refine (isBlank_any _ _).mono ?_; rintro e w2 ⟨⟨r2, rfl⟩, rfl⟩; cases r2) | (go_at_call 19; refine (isLine_weak _).mono ?_; rintro e w2 ⟨⟨r2, rfl⟩, rfl⟩; cases r2) | (go_at_call 20; refine (ahead_any L s j 1 (j + 1) 1 rfl rfl nl out opn _ X1.out (by omega) (by omega)).mono ?_; rintro e w2 ⟨rfl, q, rfl⟩))
      all_goals first
        | (go_ret3; exact ⟨_, ⟨_, _, rfl⟩, ⟨fun h => absurd h (by decide), B1.out⟩⟩)
        | (go_ret3; exact ⟨_, ⟨_, _, rfl⟩, ⟨fun h => absurd h (by decide), B1.out.drewN _⟩⟩)
        | (go_ret3; exact ⟨_, ⟨_, _, rfl⟩, ⟨fun h => absurd h (by decide), (Beside.setCell (B1.out.drewN _) (.inl rfl) _).trans (HB3.out.mono (by simp [World.setCell]; omega))⟩⟩)
        | (go_ret3; refine ⟨_, ⟨_, _, rfl⟩, ⟨fun _ => ⟨j, ?_, hj, X1.out⟩, B1.out⟩⟩; exact lt_of_name hij HZ.out (by assumption))
        | (refine ⟨⟨_, _, j + n, rfl, rfl, by omega, by omega, by rw [ByteArray.size_append]; omega, fun h => by omega, X1.out.set1 (j + n), Beside.setCell B1.out (.inl rfl) _⟩, ?_⟩; exact meas P0.out (X1.out.set1 (j + n)).posOf (by omega) (by omega))
end Go.Proofs.YthknielnhmoobaaGreatDoor
