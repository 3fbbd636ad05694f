/- What the walks share: the two tables of utf8, the frame, the reference's lexer in memory; the contract of utf8.DecodeRuneInString. -/
import Derived.Test.YthknielnhmoobaaGreatDoorProg
import Derived.Test.YthknielnhmoobaaGreatDoorPure
import Derived.Test.YthknielnhmoobaaGreatDoorShelf
import Derived.WalkKit
import Derived.WalkSpells
import Derived.Lib.Hide
import Derived.Deep.QuietTactic
import Derived.BigQuiet
import Derived.StillTailTactics
import Derived.Deep.RegionWith
import Derived.Deep.DeepMust
import Derived.WalkSmall
namespace Go.Proofs.YthknielnhmoobaaGreatDoor
open Go.RowKit Go.Lib

/-- The two tables of package utf8 read as they are laid, and lie below B. -/
structure Tabs (B : Nat) (w : World) : Prop where
  tabs : Lib.Utf8Tabs 0 1 w
  lt : 1 < B
theorem Tabs.below {B B' : Nat} {w w' : World} (h : Tabs B w) (hb : Below B' w w') (hB : B ≤ B') : Tabs B w' := by
  have h1 : 0 < B := Nat.lt_of_le_of_lt (by decide) h.lt
  refine ⟨⟨fun c hc => ?_, fun i hi => ?_⟩, h.lt⟩
  · rw [hb.cell (p := ⟨0, c, none⟩) (Nat.lt_of_lt_of_le h1 hB)]; exact h.tabs.1 c hc
  · rw [hb.cell (p := ⟨1, 2 * i, none⟩) (Nat.lt_of_lt_of_le h.lt hB), hb.cell (p := ⟨1, 2 * i + 1, none⟩) (Nat.lt_of_lt_of_le h.lt hB)]; exact h.tabs.2 i hi

/-- Below block B nothing has turned but block L. -/
structure Beside (B L : Nat) (w w' : World) : Prop where
  os : w'.os = w.os
  tape : w'.tape = w.tape
  output : w'.output = w.output
  size : w.heap.size ≤ w'.heap.size
  block : ∀ k, k < B → k ≠ L → w'.heap[k]? = w.heap[k]?
theorem Beside.refl (B L : Nat) (w : World) : Beside B L w w := ⟨rfl, rfl, rfl, Nat.le_refl _, fun _ _ _ => rfl⟩
theorem Beside.trans {B L : Nat} {a b c : World} (h : Beside B L a b) (k : Beside B L b c) : Beside B L a c :=
  ⟨k.os.trans h.os, k.tape.trans h.tape, k.output.trans h.output, Nat.le_trans h.size k.size, fun i hi hl => (k.block i hi hl).trans (h.block i hi hl)⟩
theorem Beside.mono {B B' L : Nat} {w w' : World} (h : Beside B L w w') (hB : B' ≤ B) : Beside B' L w w' := ⟨h.os, h.tape, h.output, h.size, fun k hk => h.block k (Nat.lt_of_lt_of_le hk hB)⟩
theorem Beside.of_below {B L : Nat} {w w' : World} (h : Below B w w') : Beside B L w w' := ⟨h.os, h.tape, h.output, h.size, fun k hk _ => h.block k hk⟩
theorem Beside.below {B L : Nat} {w w' : World} (h : Beside B L w w') (hL : B ≤ L) : Below B w w' := ⟨h.os, h.tape, h.output, h.size, fun k hk => h.block k hk (by omega)⟩
theorem Beside.alloc {B L : Nat} {a w : World} (h : Beside B L a w) (hB : B ≤ w.heap.size) (o : Obj) : Beside B L a (w.alloc o) :=
  h.trans (.of_below ((Below.refl _ _).alloc hB o))
theorem Beside.setCell {B L : Nat} {a w : World} (h : Beside B L a w) {p : Addr} (hp : p.block = L ∨ B ≤ p.block) (u : Value) : Beside B L a (w.setCell p u) :=
  h.trans ⟨rfl, rfl, rfl, by simp [World.setCell], fun k hk hl => Below.heap_setCell _ _ _ _ (by omega)⟩
theorem Beside.drew {B L : Nat} {a w : World} (h : Beside B L a w) : Beside B L a w.drew := ⟨h.os, h.tape, h.output, h.size, h.block⟩
theorem Beside.drewN {B L : Nat} {a w : World} (h : Beside B L a w) (n : Nat) : Beside B L a (w.drewN n) := ⟨h.os, h.tape, h.output, h.size, h.block⟩
theorem Beside.grown {B L : Nat} {a w w' : World} {row : Option Nat} (h : Beside B L a w) (hg : w.grownBy w' row) (hB : B ≤ w.heap.size) (hr : ∀ k, row = some k → k = L ∨ B ≤ k) : Beside B L a w' :=
  h.trans ⟨hg.os, hg.tape, hg.output, hg.size, fun k hk hl => hg.block k (by omega) (fun e => by have := hr k e.symm; omega)⟩
theorem Beside.undrawn {B L n : Nat} {w w' : World} (h : Beside B L (w.drewN n) w') : Beside B L w w' := ⟨h.os, h.tape, h.output, h.size, h.block⟩
theorem Tabs.beside {B B' L : Nat} {w w' : World} (h : Tabs B w) (hb : Beside B' L w w') (hB : B ≤ B') (hL : B ≤ L) : Tabs B w' :=
  h.below (Beside.below (hb.mono hB) hL) (Nat.le_refl _)
theorem _root_.Go.RowKit.Below.undrawn {B n : Nat} {w w' : World} (h : Below B (w.drewN n) w') : Below B w w' := ⟨h.os, h.tape, h.output, h.size, h.block⟩
theorem _root_.Go.RowKit.Below.drewN' {B : Nat} {a w : World} (h : Below B a w) (n : Nat) : Below B a (w.drewN n) := ⟨h.os, h.tape, h.output, h.size, h.block⟩

/-- THE REFERENCE's LEXER: block L, known whole. -/
def LxAt (w : World) (L : Nat) (s : ByteArray) (i : Nat) (nl : Bool) (out opn : Value) : Prop :=
  w.heap[L]? = some (.cells #[.string s, .int .i64 i, .bool nl, out, opn] 40 (0, 0))
section
variable {w w' : World} {L : Nat} {s : ByteArray} {i : Nat} {nl : Bool} {out opn : Value}
theorem LxAt.lt (h : LxAt w L s i nl out opn) : L < w.heap.size := (Array.getElem?_eq_some_iff.1 h).1
theorem LxAt.cell0 (h : LxAt w L s i nl out opn) : w.cell? ⟨L, 0, none⟩ = some (.string s) := by unfold LxAt at h; simp [World.cell?, h]
theorem LxAt.cell1 (h : LxAt w L s i nl out opn) : w.cell? ⟨L, 1, none⟩ = some (.int .i64 i) := by unfold LxAt at h; simp [World.cell?, h]
theorem LxAt.cell2 (h : LxAt w L s i nl out opn) : w.cell? ⟨L, 2, none⟩ = some (.bool nl) := by unfold LxAt at h; simp [World.cell?, h]
theorem LxAt.cell3 (h : LxAt w L s i nl out opn) : w.cell? ⟨L, 3, none⟩ = some out := by unfold LxAt at h; simp [World.cell?, h]
theorem LxAt.cell4 (h : LxAt w L s i nl out opn) : w.cell? ⟨L, 4, none⟩ = some opn := by unfold LxAt at h; simp [World.cell?, h]
theorem LxAt.free (h : LxAt w L s i nl out opn) (o : Nat) : w.frozen? ⟨L, o, none⟩ = false := by unfold LxAt at h; simp [World.frozen?, h]
theorem LxAt.of_block (h : LxAt w L s i nl out opn) (e : w'.heap[L]? = w.heap[L]?) : LxAt w' L s i nl out opn := by unfold LxAt at *; rw [e]; exact h
theorem LxAt.below {B : Nat} (h : LxAt w L s i nl out opn) (hb : Below B w w') (hB : L < B) : LxAt w' L s i nl out opn := h.of_block (hb.block L hB)
theorem LxAt.beside {B K : Nat} (h : LxAt w L s i nl out opn) (hb : Beside B K w w') (hB : L < B) (hK : L ≠ K) : LxAt w' L s i nl out opn := h.of_block (hb.block L hB hK)
theorem LxAt.drewN (h : LxAt w L s i nl out opn) (n : Nat) : LxAt (w.drewN n) L s i nl out opn := h
theorem LxAt.drew (h : LxAt w L s i nl out opn) : LxAt w.drew L s i nl out opn := h
theorem LxAt.set1 (h : LxAt w L s i nl out opn) (j : Nat) : LxAt (w.setCell ⟨L, 1, none⟩ (.int .i64 j)) L s j nl out opn := by
  unfold LxAt at *
  simp [World.setCell, Array.getElem?_modify, h]
theorem LxAt.set2 (h : LxAt w L s i nl out opn) (b : Bool) : LxAt (w.setCell ⟨L, 2, none⟩ (.bool b)) L s i b out opn := by
  unfold LxAt at *
  simp [World.setCell, Array.getElem?_modify, h]
theorem LxAt.set3 (h : LxAt w L s i nl out opn) (v : Value) : LxAt (w.setCell ⟨L, 3, none⟩ v) L s i nl v opn := by
  unfold LxAt at *
  simp [World.setCell, Array.getElem?_modify, h]
theorem LxAt.set4 (h : LxAt w L s i nl out opn) (v : Value) : LxAt (w.setCell ⟨L, 4, none⟩ v) L s i nl out v := by
  unfold LxAt at *
  simp [World.setCell, Array.getElem?_modify, h]
theorem LxAt.alloc (h : LxAt w L s i nl out opn) (o : Obj) : LxAt (w.alloc o) L s i nl out opn := h.of_block (Below.heap_alloc _ _ _ h.lt)
theorem LxAt.set_other (h : LxAt w L s i nl out opn) (a : Addr) (v : Value) (ha : L ≠ a.block) : LxAt (w.setCell a v) L s i nl out opn := h.of_block (Below.heap_setCell _ _ _ _ ha)
end

theorem dec_any (s : ByteArray) (i : Nat) (w : World) (hi : i ≤ s.size) (hT : Lib.Utf8Tabs 0 1 w) :
    Calls Tryz.prog 33 #[.string (s.extract i s.size)] w fun e w' => e = .returned (.tuple #[.int .i32 (rn s i).1, .int .i64 (rn s i).2]) ∧ Below w.heap.size w w' := by
  have h : Calls Tryz.prog 33 #[.string (s.extract i s.size)] w fun e w' => e = .returned (.tuple #[.int .i32 (decodeGo (s.extract i s.size)).1, .int .i64 (decodeGo (s.extract i s.size)).2]) ∧ Below w.heap.size w w' := Any.utf8_DecodeRuneInString Tryz.lays197 (s.extract i s.size) w hT
  rw [decode_extract s i hi] at h
  exact h
theorem ofInt_i32 (a : Nat) (ha : a < 2147483648) : (BitVec.ofInt 32 (a : Int)).toNat = a := by
  rw [BitVec.ofInt_natCast, BitVec.toNat_ofNat]; exact Nat.mod_eq_of_lt (by omega)
theorem i32_and_nat (a b : Nat) (ha : a < 2147483648) (hb : b < 2147483648) : bits .and .i32 (a : Int) (b : Int) = ((a &&& b : Nat) : Int) := by
  have hx : a &&& b < 2 ^ 31 := Nat.and_lt_two_pow _ (by omega)
  show IntKind.i32.wrap ((BitVec.ofInt 32 (a : Int) &&& BitVec.ofInt 32 (b : Int)).toNat : Int) = _
  rw [BitVec.toNat_and, ofInt_i32 a ha, ofInt_i32 b hb, IntKind.wrap_i32]
  omega
theorem i32_or_nat (a b : Nat) (ha : a < 2147483648) (hb : b < 2147483648) : bits .or .i32 (a : Int) (b : Int) = ((a ||| b : Nat) : Int) := by
  have hx : a ||| b < 2 ^ 31 := Nat.or_lt_two_pow (by omega) (by omega)
  show IntKind.i32.wrap ((BitVec.ofInt 32 (a : Int) ||| BitVec.ofInt 32 (b : Int)).toNat : Int) = _
  rw [BitVec.toNat_or, ofInt_i32 a ha, ofInt_i32 b hb, IntKind.wrap_i32]
  omega
theorem i32_and1023 (x : Int) (h0 : 0 ≤ x) (h1 : x < 2147483648) : bits .and .i32 x 1023 = x % 1024 := by
  obtain ⟨a, rfl⟩ := Int.eq_ofNat_of_zero_le h0
  have := i32_and_nat a 1023 (by omega) (by omega)
  rw [show (((1023 : Nat) : Int)) = 1023 from rfl] at this
  rw [this, show a &&& 1023 = a % 1024 from Nat.and_two_pow_sub_one_eq_mod a 10]
  omega
theorem nat_or16 (v d : Nat) (hd : d < 16) : (v * 16) ||| d = v * 16 + d := by
  have := Nat.two_pow_add_eq_or_of_lt (i := 4) (b := d) (by simpa using hd) v
  rw [Nat.mul_comm v 16]
  exact this.symm
theorem i32_or16 (v d : Nat) (hv : v ≤ 134217726) (hd : d < 16) : bits .or .i32 ((v : Int) * 16) (d : Int) = (v : Int) * 16 + (d : Int) := by
  have := i32_or_nat (v * 16) d (by omega) (by omega)
  rw [nat_or16 v d hd] at this
  rw [show ((v : Int) * 16) = ((v * 16 : Nat) : Int) by omega, this]
  omega

/-- The value of a digit; -1: none. -/
def hexI (b : Nat) : Int := if 48 ≤ b ∧ b ≤ 57 then b - 48 else if 97 ≤ b ∧ b ≤ 102 then b - 87 else if 65 ≤ b ∧ b ≤ 70 then b - 55 else -1
theorem hexI_some {b d : Nat} (h : hexv b = some d) : hexI b = d := by
  unfold hexv at h; unfold hexI
  repeat' split at h
  all_goals first | cases h | skip
  all_goals (repeat' split) <;> omega
theorem hexI_none {b : Nat} (h : hexv b = none) : hexI b = -1 := by
  unfold hexv at h; unfold hexI
  repeat' split at h
  all_goals first | cases h | skip
  all_goals (repeat' split) <;> omega
theorem bt_lt (s : ByteArray) (i : Nat) : bt s i < 256 := by
  unfold bt; split
  · exact UInt8.toNat_lt _
  · omega

theorem ret_bool {a b : Bool} (h : a = b) : Ending.returned (.bool a) = .returned (.bool b) := by rw [h]
theorem ret_int {k : IntKind} {a b : Int} (h : a = b) : Ending.returned (.int k a) = .returned (.int k b) := by rw [h]

def isDig (b : Nat) : Bool := decide (48 ≤ b ∧ b ≤ 57)
set_option maxHeartbeats 400000 in
theorem isDigit_any (b : Nat) (w : World) : Calls Tryz.prog 23 #[.int .u8 (b : Int)] w fun e w' => e = .returned (.bool (isDig b)) ∧ w = w' := by
  by_cases h1 : (48 : Int) ≤ b
  · by_cases h2 : (b : Int) ≤ 57
    · go_enter Tryz.func23, Tryz.ntmps23
      go_wp2
      go_ret
      exact ⟨ret_bool (decide_eq_true (by omega)).symm, rfl⟩
    · go_enter Tryz.func23, Tryz.ntmps23
      go_wp2
      go_ret
      exact ⟨ret_bool (decide_eq_false (by omega)).symm, rfl⟩
  · go_enter Tryz.func23, Tryz.ntmps23
    go_wp2
    go_ret
    exact ⟨ret_bool (decide_eq_false (by omega)).symm, rfl⟩

set_option maxHeartbeats 400000 in
theorem hex_any (b : Nat) (hb : b < 256) (w : World) : Calls Tryz.prog 63 #[.int .u8 (b : Int)] w fun e w' => e = .returned (.int .i64 (hexI b)) ∧ w = w' := by
  have hb' : (b : Int) ≤ 255 := by omega
  by_cases h1 : 48 ≤ b ∧ b ≤ 57
  · have d1 : isDig b = true := decide_eq_true h1
    have g1 : (48 : Int) ≤ b := by omega
    have hx : Hid (hexI b = b - 48) := by unfold hexI; rw [if_pos h1]; rfl
    go_enter Tryz.func63, Tryz.ntmps63
    go_wp2_with (go_at_call 23; refine (isDigit_any b _).mono ?_; rintro e w' ⟨rfl, rfl⟩)
    go_ret
    exact ⟨ret_int hx.out.symm, rfl⟩
  · have d1 : isDig b = false := decide_eq_false h1
    by_cases h2 : 97 ≤ b ∧ b ≤ 102
    · have g1 : (97 : Int) ≤ b := by omega
      have g2 : (b : Int) ≤ 102 := by omega
      have hx : Hid (hexI b = b - 97 + 10) := by unfold hexI Hid; rw [if_neg h1, if_pos h2]; omega
      clear h1 h2
      go_enter Tryz.func63, Tryz.ntmps63
      go_wp2_with (go_at_call 23; refine (isDigit_any b _).mono ?_; rintro e w' ⟨rfl, rfl⟩)
      go_ret
      exact ⟨ret_int hx.out.symm, rfl⟩
    · by_cases h3 : 65 ≤ b ∧ b ≤ 70
      · have g1 : (65 : Int) ≤ b := by omega
        have g2 : (b : Int) ≤ 70 := by omega
        have hx : Hid (hexI b = b - 65 + 10) := by unfold hexI Hid; rw [if_neg h1, if_neg h2, if_pos h3]; omega
        clear h1 h2 h3
        go_enter Tryz.func63, Tryz.ntmps63
        go_wp2_with (go_at_call 23; refine (isDigit_any b _).mono ?_; rintro e w' ⟨rfl, rfl⟩)
        go_ret
        exact ⟨ret_int hx.out.symm, rfl⟩
      · have hx : Hid (hexI b = -1) := by unfold hexI Hid; rw [if_neg h1, if_neg h2, if_neg h3]
        by_cases g1 : (b : Int) < 97
        · by_cases g2 : (b : Int) < 65
          · clear h1 h2 h3
            go_enter Tryz.func63, Tryz.ntmps63
            go_wp2_with (go_at_call 23; refine (isDigit_any b _).mono ?_; rintro e w' ⟨rfl, rfl⟩)
            go_ret
            exact ⟨ret_int hx.out.symm, rfl⟩
          · have g3 : (70 : Int) < b := by omega
            clear h1 h2 h3
            go_enter Tryz.func63, Tryz.ntmps63
            go_wp2_with (go_at_call 23; refine (isDigit_any b _).mono ?_; rintro e w' ⟨rfl, rfl⟩)
            go_ret
            exact ⟨ret_int hx.out.symm, rfl⟩
        · have g3 : (102 : Int) < b := by omega
          clear h1 h2 h3
          go_enter Tryz.func63, Tryz.ntmps63
          go_wp2_with (go_at_call 23; refine (isDigit_any b _).mono ?_; rintro e w' ⟨rfl, rfl⟩)
          go_ret
          exact ⟨ret_int hx.out.symm, rfl⟩

theorem hex_some {b d : Nat} (h : hexv b = some d) (hb : b < 256) (w : World) : Calls Tryz.prog 63 #[.int .u8 (b : Int)] w fun e w' => e = .returned (.int .i64 (d : Int)) ∧ w = w' := by
  have := hex_any b hb w
  rw [hexI_some h] at this
  exact this
theorem hex_none {b : Nat} (h : hexv b = none) (hb : b < 256) (w : World) : Calls Tryz.prog 63 #[.int .u8 (b : Int)] w fun e w' => e = .returned (.int .i64 (-1)) ∧ w = w' := by
  have := hex_any b hb w
  rw [hexI_none h] at this
  exact this

set_option maxHeartbeats 400000 in
theorem isLine_any (c : Nat) (w : World) : Calls Tryz.prog 19 #[.int .i32 (c : Int)] w fun e w' => e = .returned (.bool (isLn c)) ∧ w = w' := by
  have hx : Hid (isLn c = (decide (c = 10) || decide (c = 13) || decide (c = 8232) || decide (c = 8233))) := rfl
  by_cases h1 : c = 10
  · subst h1
    go_enter Tryz.func19, Tryz.ntmps19
    go_wp2
    go_ret
    exact ⟨rfl, rfl⟩
  · have g1 : ((c : Int) == 10) = false := by simpa using (by omega : ¬ (c : Int) = 10)
    by_cases h2 : c = 13
    · subst h2
      go_enter Tryz.func19, Tryz.ntmps19
      go_wp2
      go_ret
      exact ⟨rfl, rfl⟩
    · have g2 : ((c : Int) == 13) = false := by simpa using (by omega : ¬ (c : Int) = 13)
      by_cases h3 : c = 8232
      · subst h3
        go_enter Tryz.func19, Tryz.ntmps19
        go_wp2
        go_ret
        exact ⟨rfl, rfl⟩
      · have g3 : ((c : Int) == 8232) = false := by simpa using (by omega : ¬ (c : Int) = 8232)
        by_cases h4 : c = 8233
        · subst h4
          go_enter Tryz.func19, Tryz.ntmps19
          go_wp2
          go_ret
          exact ⟨rfl, rfl⟩
        · have g4 : ((c : Int) == 8233) = false := by simpa using (by omega : ¬ (c : Int) = 8233)
          go_enter Tryz.func19, Tryz.ntmps19
          go_wp2
          go_ret
          exact ⟨ret_bool (by rw [hx.out, decide_eq_false h1, decide_eq_false h2, decide_eq_false h3, decide_eq_false h4]; rfl), rfl⟩

set_option maxHeartbeats 400000 in
/-- A byte that comes. -/
theorem ahead_any (L : Nat) (s : ByteArray) (i k j : Nat) (n : Int) (hn : n = k) (hj : i + k = j) (nl : Bool) (out opn : Value) (w : World) (h : LxAt w L s i nl out opn) (hk : i + k ≤ 4611686018427387904) (hs : s.size ≤ 4611686018427387904) :
    Calls Tryz.prog 20 #[.pointer (some ⟨L, 0, none⟩), .int .i64 n] w fun e w' => e = .returned (.int .u8 (bt s j)) ∧ ∃ q, w' = w.drewN q := by
  subst hn
  subst hj
  have c0 := h.cell0
  have c1 := h.cell1
  have H := Lib.hid h
  clear h
  by_cases hlt : i + k < s.size
  · have g : ((i : Int) + (k : Int)) < (s.size : Int) := by omega
    have hx : Hid (bt s (i + k) = (s[i + k]'hlt).toNat) := by unfold bt Hid; rw [if_pos hlt, Utf8W.get!_of_lt _ _ hlt]
    go_enter Tryz.func20, Tryz.ntmps20
    go_wp2
    go_quiet (fail)
    go_wp2
    have e1 : IntKind.i64.wrap ((i : Int) + (k : Int)) = (i : Int) + (k : Int) := IntWalk.i64_in _ (by omega)
    have e3 : (0 : Int) ≤ (i : Int) + (k : Int) := by omega
    have e2 : ((i : Int) + (k : Int)).toNat = i + k := by omega
    go_quiet (fail)
    go_wp2
    go_ret
    refine ⟨ret_int ?_, _, World.drewN_drewN _ _ _⟩
    rw [hx.out]
  · have g : (s.size : Int) ≤ (i : Int) + (k : Int) := by omega
    have hx : Hid (bt s (i + k) = 0) := by unfold bt Hid; rw [if_neg hlt]
    go_enter Tryz.func20, Tryz.ntmps20
    go_wp2
    go_quiet (fail)
    go_wp2
    go_ret
    exact ⟨ret_int (by rw [hx.out]; rfl), _, rfl⟩

set_option maxHeartbeats 400000 in
/-- The character at a place. -/
theorem here_any (L : Nat) (s : ByteArray) (i : Nat) (nl : Bool) (out opn : Value) (w : World) (h : LxAt w L s i nl out opn) (hi : i ≤ s.size) (hT : Lib.Utf8Tabs 0 1 w) :
    Calls Tryz.prog 17 #[.pointer (some ⟨L, 0, none⟩)] w fun e w' => e = .returned (.tuple #[.int .i32 (if i < s.size then (rn s i).1 else 0), .int .i64 (rn s i).2]) ∧ Below w.heap.size w w' := by
  have c0 := h.cell0
  have c1 := h.cell1
  have hlt := h.lt
  have H := Lib.hid h
  clear h
  by_cases he : i < s.size
  · have g : ((i : Int) == (s.size : Int)) = false := by simpa using (by omega : ¬ (i : Int) = (s.size : Int))
    have g' : (i : Int) ≤ (s.size : Int) := by omega
    rw [if_pos he]
    go_enter Tryz.func17, Tryz.ntmps17
    go_wp2
    go_quiet (fail)
    go_wp2
    have hT2 := Lib.hid hT
    clear hT
    go_region_with (go_at_call 33; refine (dec_any s i _ hi (by exact hT2.out)).mono ?_; rintro e w1 ⟨rfl, hb⟩)
    all_goals (go_wp2; go_ret2; exact ⟨rfl, hb.undrawn⟩)
  · obtain rfl : i = s.size := by omega
    rw [if_neg (by omega), rn_end (Nat.le_refl _)]
    go_enter Tryz.func17, Tryz.ntmps17
    go_wp2
    go_quiet (fail)
    go_wp2
    go_ret2
    exact ⟨rfl, (Below.refl _ _).drewN' _⟩
end Go.Proofs.YthknielnhmoobaaGreatDoor
