/- Go's strconv.FormatInt at base 16. -/
import Derived.Test.YtolgapijpejpoaaDoorSpec
import Derived.Test.YtolgapijpejpoaaDoorWr
namespace Go.Proofs.YtolgapijpejpoaaDoor
open Go.RowKit Go.Lib

theorem cells_of_block2 {w : World} {b : Nat} {c : Array Value} {t : TypeId} (h : w.heap[b]? = some (.cells c t (0, 0))) (i : Nat) : w.cell? ⟨b, i, none⟩ = c[i]? ∧ w.frozen? ⟨b, i, none⟩ = false := by
  constructor
  · simp [World.cell?, h]
  · simp [World.frozen?, h]
theorem pow2_16 (w : World) : Calls Tryd.prog 85 #[.int .i64 16] w fun e w' => e = .returned (.bool true) ∧ w = w' := by
  have h1 : bits .and .i64 16 15 = 0 := by decide
  go_enter Tryd.func85, Tryd.ntmps85
  go_wp2
  go_ret
  exact ⟨rfl, rfl⟩
set_option maxHeartbeats 400000 in
theorem tz64_16 (w : World) (hc : w.cell? ⟨6, 15, none⟩ = some (.int .u8 4)) : Calls Tryd.prog 89 #[.int .u64 16] w fun e w' => e = .returned (.int .i64 4) ∧ w = w' := by
  have h0 : bits .and .u64 16 (IntKind.u64.wrap (-16)) = 16 := by decide
  have h1 : IntKind.u64.wrap (16 * 285870213051353865) = 4573923408821661840 := by decide
  go_enter Tryd.func89, Tryd.ntmps89
  go_wp2
  go_ret
  exact ⟨rfl, rfl⟩
set_option maxHeartbeats 400000 in
theorem tz_16 (w : World) (hc : w.cell? ⟨6, 15, none⟩ = some (.int .u8 4)) : Calls Tryd.prog 86 #[.int .u64 16] w fun e w' => e = .returned (.int .i64 4) ∧ w = w' := by
  go_enter Tryd.func86, Tryd.ntmps86
  go_wp2_with (go_at_call 89; refine (tz64_16 _ hc).mono ?_; rintro e w' ⟨rfl, rfl⟩)
  go_ret
  exact ⟨rfl, rfl⟩
abbrev digs : ByteArray := { data := #[48, 49, 50, 51, 52, 53, 54, 55, 56, 57, 97, 98, 99, 100, 101, 102, 103, 104, 105, 106, 107, 108, 109, 110, 111, 112, 113, 114, 115, 116, 117, 118, 119, 120, 121, 122] }
/-- The digit that writes q. -/
def hx (q : Nat) : Nat := if q < 10 then 48 + q else 87 + q
theorem hexv_hx {q : Nat} (h : q < 16) : hexv (hx q) = some q := by
  unfold hx hexv
  by_cases h1 : q < 10
  · rw [if_pos h1, if_pos (by omega)]; congr 1; omega
  · rw [if_neg h1, if_neg (by omega), if_pos (by omega)]; congr 1; omega
theorem hx_lt {q : Nat} (h : q < 16) : hx q < 128 := by unfold hx; split <;> omega
theorem digs_at {q : Nat} (h : q < 16) : ∀ hk : q < digs.size, (((digs[q]'hk).toNat : Nat) : Int) = (hx q : Int) := by
  have : q = 0 ∨ q = 1 ∨ q = 2 ∨ q = 3 ∨ q = 4 ∨ q = 5 ∨ q = 6 ∨ q = 7 ∨ q = 8 ∨ q = 9 ∨ q = 10 ∨ q = 11 ∨ q = 12 ∨ q = 13 ∨ q = 14 ∨ q = 15 := by omega
  rcases this with rfl | rfl | rfl | rfl | rfl | rfl | rfl | rfl | rfl | rfl | rfl | rfl | rfl | rfl | rfl | rfl <;> intro _ <;> rfl
theorem u64_and15 (x : Nat) (h : x < 18446744073709551616) : bits .and .u64 (x : Int) 15 = ((x % 16 : Nat) : Int) := by
  show IntKind.u64.wrap ((BitVec.ofInt 64 (x : Int) &&& BitVec.ofInt 64 (15 : Int)).toNat : Int) = _
  have e1 : (BitVec.ofInt 64 (x : Int)).toNat = x := by rw [BitVec.ofInt_natCast, BitVec.toNat_ofNat]; exact Nat.mod_eq_of_lt (by omega)
  have e2 : (BitVec.ofInt 64 (15 : Int)).toNat = 15 := by decide
  rw [BitVec.toNat_and, e1, e2, show x &&& 15 = x % 16 from Nat.and_two_pow_sub_one_eq_mod x 4]
  exact IntWalk.u64_in _ (by omega)
/-- The array in which digits are laid from the end. -/
def DigAt (w : World) (A : Nat) (l : List Nat) : Prop := ∃ cur : Array Value, w.heap[A]? = some (.cells cur 177 (0, 0)) ∧ cur.size = 65 ∧ l.length ≤ 65 ∧ ∀ k, k < l.length → cur[65 - l.length + k]? = some (.int .u8 (l.getD k 0 : Nat))
theorem DigAt.old {w : World} {A : Nat} {l : List Nat} (h : DigAt w A l) {j : Nat} (hj : j < 65) : ∃ v, w.cell? ⟨A, j, none⟩ = some v := by
  obtain ⟨cur, h1, h2, _⟩ := h
  exact ⟨cur[j]'(by omega), by rw [(cells_of_block2 h1 j).1]; simp [h2, hj]⟩
theorem DigAt.free {w : World} {A : Nat} {l : List Nat} (h : DigAt w A l) (j : Nat) : w.frozen? ⟨A, j, none⟩ = false := by
  obtain ⟨cur, h1, _⟩ := h
  exact (cells_of_block2 h1 j).2
theorem DigAt.push {w : World} {A : Nat} {l : List Nat} (h : DigAt w A l) (d : Nat) (hl : l.length < 65) : DigAt (w.setCell ⟨A, 65 - (l.length + 1), none⟩ (.int .u8 (d : Nat))) A (d :: l) := by
  obtain ⟨cur, h1, h2, h3, h4⟩ := h
  refine ⟨cur.setIfInBounds (65 - (l.length + 1)) (.int .u8 (d : Nat)), ?_, by simp [h2], by simp; omega, fun k hk => ?_⟩
  · simp [World.setCell, Array.getElem?_modify, h1]
  · simp only [List.length_cons] at hk ⊢
    cases k with
    | zero =>
      rw [Nat.add_zero, Array.getElem?_setIfInBounds]
      rw [if_pos (by omega), if_pos (by omega)]; rfl
    | succ k =>
      rw [Array.getElem?_setIfInBounds_ne (by omega), show 65 - (l.length + 1) + (k + 1) = 65 - l.length + k by omega, h4 k (by omega)]
      rfl
theorem hexL_lt (l : List Nat) : ∀ v p, hexL l v = some p → ∀ b ∈ l, b < 128 := by
  induction l with
  | nil => intro v p _ b hb; cases hb
  | cons c l ih =>
    intro v p h b hb
    simp only [hexL] at h
    cases hc : hexv c with
    | none => rw [hc] at h; cases h
    | some d =>
      rw [hc] at h
      rcases List.mem_cons.1 hb with rfl | hb
      · unfold hexv at hc
        repeat' split at hc
        all_goals first | omega | cases hc
      · exact ih _ _ h b hb
/-- The text of a list of bytes. -/
def textOf (l : List Nat) : ByteArray := ⟨(l.map UInt8.ofNat).toArray⟩
theorem textOf_size (l : List Nat) : (textOf l).size = l.length := by
  show (l.map UInt8.ofNat).toArray.size = _
  rw [List.size_toArray, List.length_map]
theorem bytesL_textOf (l : List Nat) (h : ∀ b ∈ l, b < 256) : bytesL (textOf l) = l := by
  unfold bytesL textOf
  simp only [List.map_map]
  conv => rhs; rw [← List.map_id l]
  refine List.map_congr_left fun b hb => ?_
  exact u8n (h b hb)
theorem DigAt.conv {w : World} {A : Nat} {l : List Nat} (h : DigAt w A l) (hl : ∀ b ∈ l, b < 256) (c : Nat) : (convert 172 9 (.slice (some ⟨A, 65 - l.length, none⟩) l.length c)).run Tryd.prog w = .ok (.string (textOf l)) w := by
  obtain ⟨cur, h1, h2, h3, h4⟩ := h
  have := run_convert_bytes_back (P := Tryd.prog) w 172 9 5 ⟨A, 65 - l.length, none⟩ c (l.map UInt8.ofNat) Tryd.underlying172 Tryd.underlying5 Tryd.underlying9 (fun j hj => by
    rw [List.length_map] at hj
    rw [Addr.add_lit, (cells_of_block2 h1 _).1, h4 j hj]
    simp only [List.getElem_map]
    rw [u8n (hl _ (List.getElem_mem hj)), List.getD_eq_getElem?_getD, List.getElem?_eq_getElem hj]
    rfl)
  rw [List.length_map] at this
  exact this
set_option maxRecDepth 100000 in
set_option maxHeartbeats 2000000 in
theorem fmtBits_any (n m : Nat) (hm : 1 ≤ m) (hm8 : m ≤ 8) (hn : n < 16 ^ m) (w : World) (hc : w.cell? ⟨6, 15, none⟩ = some (.int .u8 4)) :
    Calls Tryd.prog 78 #[.slice none 0 0, .int .u64 (n : Int), .int .i64 16, .bool false, .bool false] w fun e w' => ∃ t, e = .returned (.tuple #[.slice none 0 0, .string t]) ∧ HexT t n ∧ 1 ≤ t.size ∧ t.size ≤ m ∧ Below w.heap.size w w' := by
  have hlt := World.block_lt_of_cell? w _ hc
  go_enter Tryd.func78, Tryd.ntmps78
  go_wp2_with (go_at_call 85; refine (pow2_16 _).mono ?_; rintro e w1 ⟨rfl, rfl⟩)
  obtain ⟨A, hA⟩ : ∃ A, w.heap.size = A := ⟨_, rfl⟩
  obtain ⟨W, hW⟩ : ∃ W, w.alloc (.cells Tryd.zeroCells177 177) = W := ⟨_, rfl⟩
  have hcW : W.cell? ⟨6, 15, none⟩ = some (.int .u8 4) := by rw [← hW, World.cell?_alloc_lt (h := hlt)]; exact hc
  have D0 : Hid (DigAt W A []) := by
    rw [← hW, ← hA]
    exact ⟨Tryd.zeroCells177, heap_alloc_new _ _, by kernel_rfl, by simp, fun k hk => by simp at hk⟩
  have B0 : Hid (Below w.heap.size w W) := by rw [← hW]; exact (Below.refl _ _).alloc (Nat.le_refl _) _
  have HN := Lib.hid hn
  rw [hW, hA]
  rw [hA] at B0
  clear hW hc hn
  go_wp2_with (go_at_call 86; refine (tz_16 _ hcW).mono ?_; rintro e w1 ⟨rfl, rfl⟩)
  clear hcW
  go_loopw [1, 13] (fun u c wr => ∃ (x q : Nat) (l : List Nat), u = .int .u64 x ∧ c = .int .i64 q ∧ q + l.length = 65 ∧ hexL l x = some n ∧ l.length < m ∧ x < 16 ^ (m - l.length) ∧ DigAt wr A l ∧ Below A w wr) (fun _ c _ => (RowKit.intOf c).toNat)
  case atStart => exact ⟨n, 65, [], rfl, rfl, rfl, rfl, by simp; omega, by simpa using HN.out, D0.out, B0.out⟩
  case round =>
    obtain ⟨x, q, l, rfl, rfl, hq, hl, hlm, hx, hd, hb⟩ := hrel
    have HL := Lib.hid hl
    have HX := Lib.hid hx
    have HD := Lib.hid hd
    have HB := Lib.hid hb
    clear hl hx hd hb
    by_cases hge : 16 ≤ x
    · obtain ⟨p, rfl⟩ : ∃ p, q = p + 1 := ⟨q - 1, by omega⟩
      have g : (16 : Int) ≤ (x : Int) := by omega
      have hx16 : x < 4294967296 := Nat.lt_of_lt_of_le HX.out (Nat.le_trans (Nat.pow_le_pow_right (by omega) (by omega : m - l.length ≤ 8)) (by decide))
      obtain ⟨r, hr⟩ : ∃ r, x % 16 = r := ⟨_, rfl⟩
      have hr16 : r < 16 := by omega
      have hand : bits .and .u64 (x : Int) 15 = (r : Int) := by rw [u64_and15 x (by omega), hr]
      have hdig := digs_at hr16
      have g36 : (r : Int) < 36 := by omega
      obtain ⟨vo, ho⟩ := HD.out.old (j := p) (by omega)
      have hfz := HD.out.free p
      have gp : (p : Int) < 65 := by omega
      have hlen : l.length + 1 < m := by
        rcases Nat.lt_or_ge (l.length + 1) m with h | h
        · exact h
        · have h1 : m - l.length = 1 := by omega
          have h2 := HX.out
          rw [h1] at h2
          omega
      have hpw : x / 16 < 16 ^ (m - (l.length + 1)) := by
        have h2 := HX.out
        rw [show m - l.length = m - (l.length + 1) + 1 by omega, Nat.pow_succ] at h2
        omega
      go_wp2
      go_roundw
      case rel =>
        refine ⟨x / 16, p, hx r :: l, by go_num, rfl, by simp; omega, ?_, by simpa using hlen, by simpa using hpw, ?_, ?_⟩
        · simp only [hexL, hexv_hx hr16]
          rw [show 16 * (x / 16) + r = x by omega]
          exact HL.out
        · have := HD.out.push (hx r) (by omega)
          rw [show 65 - (l.length + 1) = p by omega] at this
          exact this
        · exact HB.out.setCell (Nat.le_refl _) _
      case measure => simp [RowKit.intOf]
    · obtain ⟨p, rfl⟩ : ∃ p, q = p + 1 := ⟨q - 1, by omega⟩
      have g : (x : Int) < 16 := by omega
      have hdig := digs_at (q := x) (by omega)
      have g36 : (x : Int) < 36 := by omega
      obtain ⟨vo, ho⟩ := HD.out.old (j := p) (by omega)
      have hfz := HD.out.free p
      have gp : (p : Int) < 65 := by omega
      have gp2 : (p : Int) ≤ 65 := by omega
      have D1 := HD.out.push (hx x) (by omega)
      rw [show 65 - (l.length + 1) = p by omega] at D1
      have hL1 : hexL (hx x :: l) 0 = some n := by
        simp only [hexL, hexv_hx (show x < 16 by omega)]
        rw [Nat.mul_zero, Nat.zero_add]
        exact HL.out
      have hall : ∀ b ∈ hx x :: l, b < 256 := fun b hb => by have := hexL_lt _ _ _ hL1 b hb; omega
      have hconv := D1.conv hall (65 - p)
      rw [List.length_cons, show l.length + 1 = 65 - p by omega, show 65 - (65 - p) = p by omega] at hconv
      have HL1 := Lib.hid hL1
      have HA := Lib.hid hall
      clear hL1 hall D1
      go_wp2
      go_ret2
      refine ⟨_, rfl, ?_, ?_, ?_, ?_⟩
      · unfold HexT; rw [bytesL_textOf _ HA.out]; exact HL1.out
      · rw [textOf_size]; simp
      · rw [textOf_size]; simp; omega
      · rw [hA]; exact HB.out.setCell (Nat.le_refl _) _
end Go.Proofs.YtolgapijpejpoaaDoor
