/- The reference's lexer goes over white space: at the end, at a template's beginning. -/
import Derived.Test.YthknielnhmoobaaGreatDoorZm
namespace Go.Proofs.YthknielnhmoobaaGreatDoor
open Go.RowKit Go.Lib

/-- Does a text begin with another? -/
def hpB (s p : ByteArray) : Bool := if p.size ≤ s.size then (s.extract 0 p.size).toList == p.toList else false
theorem hpB_true {s p : ByteArray} (h : hpB s p = true) : p.size ≤ s.size ∧ s.extract 0 p.size = p := by
  unfold hpB at h
  split at h
  · rename_i h1
    exact ⟨h1, toList_inj (of_decide_eq_true (by simpa using h : decide ((s.extract 0 p.size).toList = p.toList) = true))⟩
  · cases h
set_option maxRecDepth 100000 in
set_option maxHeartbeats 1000000 in
theorem hasPre2_is (s p : ByteArray) (w : World) : Calls Tryz.prog 16 #[.string s, .string p] w fun e w' => e = .returned (.bool (hpB s p)) ∧ w = w' := by
  by_cases h : p.size ≤ s.size
  · have hx : Hid (hpB s p = ((s.extract 0 p.size).toList == p.toList)) := by unfold hpB Hid; rw [if_pos h]
    go_enter Tryz.func16, Tryz.ntmps16
    go_wp2
    go_ret
    exact ⟨ret_bool hx.out.symm, rfl⟩
  · have hx : Hid (hpB s p = false) := by unfold hpB Hid; rw [if_neg h]
    go_enter Tryz.func16, Tryz.ntmps16
    go_wp2
    go_ret
    exact ⟨ret_bool hx.out.symm, rfl⟩
set_option maxHeartbeats 1000000 in
theorem hasPre_is (s p : ByteArray) (w : World) : Calls Tryz.prog 10 #[.string s, .string p] w fun e w' => e = .returned (.bool (hpB s p)) ∧ w = w' := by
  go_enter Tryz.func10, Tryz.ntmps10
  go_wp2_with (go_at_call 16; refine (hasPre2_is s p _).mono ?_; rintro e w' ⟨rfl, rfl⟩)
  go_ret
  exact ⟨rfl, rfl⟩
theorem hasPre_q (s p : ByteArray) (w : World) : Calls Tryz.prog 10 #[.string s, .string p] w fun e w' => e = .returned (.bool (hpB s p)) ∧ w' = w := by
  refine (hasPre_is s p w).mono ?_
  rintro e w' ⟨rfl, rfl⟩
  exact ⟨rfl, rfl⟩
theorem hasPre_v (s p : ByteArray) (w : World) (b : Bool) (h : hpB s p = b) : Calls Tryz.prog 10 #[.string s, .string p] w fun e w' => e = .returned (.bool b) ∧ w' = w := by
  subst h
  exact hasPre_q s p w
theorem bt_extract (s : ByteArray) (i k : Nat) (hi : i ≤ s.size) : bt (s.extract i s.size) k = bt s (i + k) := by
  unfold bt
  have hs : (s.extract i s.size).size = s.size - i := by simp
  by_cases h : i + k < s.size
  · rw [if_pos (by omega), if_pos h, get!_extract s i k hi]
  · rw [if_neg (by omega), if_neg h]
/-- The first byte tells. -/
theorem hpB_first {s p : ByteArray} {i : Nat} (hi : i ≤ s.size) (hp : 1 ≤ p.size) (h : bt s i ≠ bt p 0) : hpB (s.extract i s.size) p = false := by
  cases hx : hpB (s.extract i s.size) p with
  | false => rfl
  | true =>
    obtain ⟨h1, h2⟩ := hpB_true hx
    exfalso
    apply h
    have e : bt p 0 = bt (s.extract i s.size) 0 := by
      have e3 : bt ((s.extract i s.size).extract 0 p.size) 0 = bt (s.extract i s.size) 0 := by
        unfold bt
        have h3 : ((s.extract i s.size).extract 0 p.size).size = p.size := by simp only [ByteArray.size_extract] at *; omega
        rw [if_pos (by omega), if_pos (by omega), Utf8W.get!_of_lt _ _ (by omega), Utf8W.get!_of_lt _ _ (by omega)]
        simp [ByteArray.getElem_extract]
      rw [← e3, h2]
    rw [e, bt_extract s i 0 hi, Nat.add_zero]
set_option maxRecDepth 100000 in
set_option maxHeartbeats 1000000 in
theorem isBlank_tick (w : World) : Calls Tryz.prog 18 #[.int .i32 96] w fun e w' => e = .returned (.bool false) ∧ w = w' := by
  go_enter Tryz.func18, Tryz.ntmps18
  go_wp2
  go_ret
  exact ⟨rfl, rfl⟩
set_option maxRecDepth 100000 in
set_option maxHeartbeats 1000000 in
theorem skip_end (L : Nat) (s : ByteArray) (nl : Bool) (out opn : Value) (w : World) (h : LxAt w L s s.size nl out opn) (hT : Tabs L w) :
    Calls Tryz.prog 11 #[.pointer (some ⟨L, 0, none⟩)] w fun e w' => e = .returned (.int .i64 1) ∧ LxAt w' L s s.size false out opn ∧ Beside w.heap.size L w w' := by
  have hL := h.lt
  have X1 := Lib.hid (h.set2 false)
  have c2 := h.cell2
  have f2 := h.free 2
  have T1 : Hid (Tabs L (w.setCell ⟨L, 2, none⟩ (.bool false))) := hT.beside (Beside.setCell (B := L) (L := L) (Beside.refl _ _ _) (.inl rfl) _) (Nat.le_refl _) (Nat.le_refl _)
  clear h hT
  go_enter Tryz.func11, Tryz.ntmps11
  go_wp2_with fail
  go_loopw [] (fun wr => LxAt wr L s s.size false out opn ∧ Beside w.heap.size L w wr ∧ Tabs L wr) (fun _ => 0)
  case atStart => exact ⟨X1.out, Beside.setCell (p := ⟨L, 2, none⟩) (Beside.refl _ _ _) (.inl rfl) _, T1.out⟩
  case round =>
    obtain ⟨hx, hb, ht⟩ := hrel
    have HX := Lib.hid hx
    have HB := Lib.hid hb
    have hh := here_any L s s.size false out opn wr hx (Nat.le_refl _) ht.tabs
    rw [if_neg (Nat.lt_irrefl _), rn_end (Nat.le_refl _)] at hh
    clear hx hb ht
    go_wp2_with fail
    refine hh.mono ?_
    clear hh
    rintro e w1 ⟨rfl, hb1⟩
    go_wp2
    go_ret
    exact ⟨rfl, HX.out.below hb1 HX.out.lt, HB.out.trans (.of_below (hb1.mono HB.out.size))⟩
set_option maxRecDepth 100000 in
set_option maxHeartbeats 2000000 in
theorem skip_tick (L : Nat) (s : ByteArray) (i : Nat) (nl : Bool) (out opn : Value) (w : World) (h : LxAt w L s i nl out opn) (hT : Tabs L w) (hi : i < s.size) (h96 : bt s i = 96) (hs : s.size ≤ 1048576) :
    Calls Tryz.prog 11 #[.pointer (some ⟨L, 0, none⟩)] w fun e w' => e = .returned (.int .i64 1) ∧ LxAt w' L s i false out opn ∧ Beside w.heap.size L w w' := by
  have hL := h.lt
  have X1 := Lib.hid (h.set2 false)
  have c2 := h.cell2
  have f2 := h.free 2
  have T1 : Hid (Tabs L (w.setCell ⟨L, 2, none⟩ (.bool false))) := hT.beside (Beside.setCell (B := L) (L := L) (Beside.refl _ _ _) (.inl rfl) _) (Nat.le_refl _) (Nat.le_refl _)
  clear h hT
  go_enter Tryz.func11, Tryz.ntmps11
  go_wp2_with fail
  go_loopw [] (fun wr => LxAt wr L s i false out opn ∧ Beside w.heap.size L w wr ∧ Tabs L wr) (fun _ => 0)
  case atStart => exact ⟨X1.out, Beside.setCell (p := ⟨L, 2, none⟩) (Beside.refl _ _ _) (.inl rfl) _, T1.out⟩
  case round =>
    obtain ⟨hx, hb, ht⟩ := hrel
    have HX := Lib.hid hx
    have HB := Lib.hid hb
    have hh := here_any L s i false out opn wr hx (by omega) ht.tabs
    rw [if_pos hi, rn_of_byte hi (by omega), h96] at hh
    clear hx hb ht
    go_wp2_with fail
    refine hh.mono ?_
    clear hh
    rintro e w1 ⟨rfl, hb1⟩
    have X2 := Lib.hid (HX.out.below hb1 HX.out.lt)
    have B2 := Lib.hid (HB.out.trans (.of_below (L := L) (hb1.mono HB.out.size)))
    have p1 := hpB_first (p := ⟨#[60, 33, 45, 45]⟩) (by omega : i ≤ s.size) (by decide) (by rw [h96]; decide)
    have p2 := hpB_first (p := ⟨#[45, 45, 62]⟩) (by omega : i ≤ s.size) (by decide) (by rw [h96]; decide)
    have k0 := X2.out.cell0
    have k1 := X2.out.cell1
    have g1 : (i : Int) ≤ (s.size : Int) := by omega
    clear hb1
    go_wp2_with (first | (go_at_call 18; refine (isBlank_tick _).mono ?_; rintro e w2 ⟨rfl, rfl⟩) | (go_at_call 19; refine (isLine_any 96 _).mono ?_; rintro e w2 ⟨rfl, rfl⟩; rw [show isLn 96 = false from rfl]))
    go_quiet (first | (go_at_call 10; refine Calls.quiet_of_same (hasPre_v _ _ _ _ p1)) | (go_at_call 10; refine Calls.quiet_of_same (hasPre_v _ _ _ _ p2)))
    go_wp2
    go_ret
    exact ⟨rfl, X2.out.drewN _, B2.out.drewN _⟩
end Go.Proofs.YthknielnhmoobaaGreatDoor
