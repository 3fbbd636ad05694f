/- The walk of the reference's Template. Two rows of units that are the same. The law FnTemplate answers true at every text. -/
import Derived.Test.YthknielnhmoobaaGreatDoorZt
import Derived.Test.YthknielnhmoobaaGreatDoorYd
import Derived.Test.YthknielnhmoobaaGreatDoorHb
import Derived.Test.YthknielnhmoobaaGreatDoorSpec
namespace Go.Proofs.YthknielnhmoobaaGreatDoor
open Go.RowKit Go.Lib

/-- What the reference says of a template. -/
def TplS (w : World) (inner : ByteArray) (e : Ending) (w' : World) : Prop :=
  ∃ (p : Option Addr) (k c : Nat) (raw : ByteArray) (v : Int), e = .returned (.tuple #[.slice p k c, .string raw, .int .i64 v]) ∧ Below w.heap.size w w' ∧
    (v = 1 → inner.size ≤ 1048576 ∧ raw = rawOf inner ∧ ∃ u, tplF (ticked inner) ((ticked inner).size + 1) (0 + 1) [] = .plain u (inner.size + 2) ∧ Row w' w.heap.size (.slice p k c) u)
theorem tok_cells {w : World} {base g c : Nat} {k a b : Int} {t : ByteArray} {u : Value} {f : Nat} {x y : Bool} (h : w.ownsRow base 34 8 (.slice (some ⟨g, 0, none⟩) 1 c) 1 (tokC k a b t u f x y).toList) :
    w.cell? ⟨g, 0, none⟩ = some (.int .i64 k) ∧ w.cell? ⟨g, 2, none⟩ = some (.int .i64 b) ∧ w.cell? ⟨g, 3, none⟩ = some (.string t) ∧ w.cell? ⟨g, 4, none⟩ = some u := by
  have hc := World.ownsRow.cells h (g := g) rfl
  have hadd : ∀ j, (⟨g, 0, none⟩ : Addr).add j = ⟨g, j, none⟩ := by intro j; unfold Addr.add; split <;> simp_all
  simp only [hadd] at hc
  exact ⟨hc 0 _ rfl, hc 2 _ rfl, hc 3 _ rfl, hc 4 _ rfl⟩
set_option maxRecDepth 100000 in
set_option maxHeartbeats 4000000 in
theorem specTpl_any (inner : ByteArray) (w : World) (B : Nat) (hT : Tabs B w) (hB : B ≤ w.heap.size) (hs : inner.size ≤ 2147483647) (wb wo wn : Nat) (ws : List ByteArray) (sb so sn : Nat) (ss : List ByteArray) (hW : Lists B w wb wo wn ws sb so sn ss) :
    Calls Tryz.prog 4 #[.string inner] w (TplS w inner) := by
  have HT := Lib.hid hT
  have HW := Lib.hid hW
  have hs1 : (⟨#[96]⟩ : ByteArray).size + inner.size ≤ 9223372036854775807 := by show 1 + inner.size ≤ _; omega
  have hs2 : (⟨#[96]⟩ ++ inner : ByteArray).size + (⟨#[96]⟩ : ByteArray).size ≤ 9223372036854775807 := by rw [ByteArray.size_append]; show 1 + inner.size + 1 ≤ _; omega
  clear hT hW
  go_enter Tryz.func4, Tryz.ntmps4
  go_wp2_with fail
  refine (decode_any (ticked inner) w B HT.out hB (by rw [ticked_size]; omega) (ticked_first inner) (by rw [ticked_size]; omega) wb wo wn ws sb so sn ss HW.out).mono ?_
  rintro e w1 ⟨p, k, c, v, rfl, hb, hv⟩
  by_cases hv1 : v = 1
  · subst hv1
    obtain ⟨hsz, n, cs, ho, hn, hf⟩ := hv rfl
    rw [ticked_size] at hsz
    have HB := Lib.hid hb
    clear hv hb hs1 hs2
    obtain ⟨g, rfl, rfl⟩ : ∃ g, p = some ⟨g, 0, none⟩ ∧ k = n := by
      rcases ho.2 with ⟨_, e⟩ | ⟨g, cap, cur, e, _⟩
      · omega
      · injection e with e1 e2 _; exact ⟨g, e1, e2⟩
    by_cases h1 : k = 1
    · subst h1
      have hf := hf rfl
      cases hR : tplF (ticked inner) ((ticked inner).size + 1) (0 + 1) [] with
      | bad q => rw [hR] at hf; exact absurd hf (by simp [FirstT])
      | head u z =>
        rw [hR] at hf
        obtain ⟨a, b, t, v, f, x, y, rfl⟩ := hf
        obtain ⟨c0, c2, c3, c4⟩ := tok_cells ho
        clear ho hR c3 c4
        go_wp2_with fail
        go_ret3
        exact ⟨_, _, _, _, 0, rfl, HB.out, fun h => absurd h (by decide)⟩
      | plain u z =>
        rw [hR] at hf
        obtain ⟨v, rfl, hrow⟩ := hf
        obtain ⟨p2, n2, k2, rfl⟩ := slice_of_row hrow
        obtain ⟨c0, c2, c3, c4⟩ := tok_cells ho
        have HRow := Lib.hid hrow
        have HR := Lib.hid hR
        clear ho hR hrow
        by_cases hz : z = inner.size + 2
        · subst hz
          have e1 : (ticked inner).extract (0 + 1) (inner.size + 2 - 1) = inner := by rw [show inner.size + 2 - 1 = inner.size + 1 by omega]; exact ticked_mid inner
          rw [e1] at c3
          have c3 : w1.cell? ⟨g, 3, none⟩ = some (.string (rawOf inner)) := c3
          have c2 : w1.cell? ⟨g, 2, none⟩ = some (.int .i64 ((inner.size : Int) + 2)) := c2
          clear e1
          go_wp2_with fail
          go_quiet (fail)
          go_wp2
          go_ret3
          exact ⟨_, _, _, _, 1, rfl, HB.out.drewN' _, fun _ => ⟨by omega, rfl, u, HR.out, HRow.out.drewN _⟩⟩
        · have g1 : ((z : Int) == (inner.size : Int) + 2) = false := by simpa using (by omega : ¬ (z : Int) = (inner.size : Int) + 2)
          have g2 : ((z : Int) != (inner.size : Int) + 2) = true := by simpa using (by omega : ¬ (z : Int) = (inner.size : Int) + 2)
          clear c3 c4
          go_wp2_with fail
          go_ret3
          exact ⟨_, _, _, _, 0, rfl, HB.out, fun h => absurd h (by decide)⟩
    · have g1 : ((k : Int) == 1) = false := by simpa using (by omega : ¬ (k : Int) = 1)
      have g2 : ((k : Int) != 1) = true := by simpa using (by omega : ¬ (k : Int) = 1)
      clear hf ho h1
      go_wp2_with fail
      go_ret3
      exact ⟨_, _, _, _, 0, rfl, HB.out, fun h => absurd h (by decide)⟩
  · have g1 : (v == 1) = false := by simpa using hv1
    have g2 : (v != 1) = true := by simpa using hv1
    clear hv
    go_wp2_with fail
    go_ret3
    exact ⟨_, _, _, _, 0, rfl, hb, fun h => absurd h (by decide)⟩
end Go.Proofs.YthknielnhmoobaaGreatDoor
namespace Go.Proofs.YthknielnhmoobaaGreatDoor
open Go.RowKit Go.Lib

/-- A slice that reads as these units. -/
def URow (w : World) (v : Value) (xs : List Nat) : Prop :=
  ((∃ p cap, v = .slice p 0 cap) ∧ xs = []) ∨ ∃ b o cap, v = .slice (some ⟨b, o, none⟩) xs.length cap ∧ xs.length ≤ cap ∧ cap ≤ maxLen ∧ ∀ k, k < xs.length → w.cell? ⟨b, o + k, none⟩ = some (.int .u16 (xs.getD k 0 : Nat))
theorem Row.urow {w : World} {base : Nat} {v : Value} {xs : List Nat} (h : Row w base v xs) : URow w v xs := by
  rcases h.2 with ⟨e, hn⟩ | ⟨g, cap, cur, e, hb, hg, h1, h2, h3, h4⟩
  · exact .inl ⟨⟨none, 0, e⟩, List.length_eq_zero_iff.1 hn⟩
  · refine .inr ⟨g, 0, cap, e, h1, h2, fun k hk => ?_⟩
    have e1 := (cells_of_block hg (0 + k)).1
    rw [e1, Nat.zero_add]
    rw [Nat.mul_one] at h4
    have e2 : (cur.toList.take xs.length)[k]? = (xs.map u16)[k]? := by rw [h4]
    rw [List.getElem?_take, if_pos hk, List.getElem?_map, List.getElem?_eq_getElem hk] at e2
    rw [Array.getElem?_toList] at e2
    rw [e2, List.getD_eq_getElem?_getD, List.getElem?_eq_getElem hk]
    rfl
set_option maxHeartbeats 1000000 in
theorem sameUnits_any (v1 v2 : Value) (xs : List Nat) (w : World) (h1 : URow w v1 xs) (h2 : URow w v2 xs) (hx : xs.length ≤ 1099511627776) : Calls Tryz.prog 6 #[v1, v2] w fun e w' => e = .returned (.bool true) ∧ ∃ n, w' = w.drewN n := by
  by_cases hz : xs.length = 0
  · have hx0 : xs = [] := List.length_eq_zero_iff.1 hz
    subst hx0
    have e1 : ∃ p cap, v1 = .slice p 0 cap := by
      rcases h1 with ⟨h, _⟩ | ⟨b, o, cap, rfl, _⟩
      · exact h
      · exact ⟨_, cap, rfl⟩
    have e2 : ∃ p cap, v2 = .slice p 0 cap := by
      rcases h2 with ⟨h, _⟩ | ⟨b, o, cap, rfl, _⟩
      · exact h
      · exact ⟨_, cap, rfl⟩
    clear h1 h2 hx hz
    obtain ⟨p1, cap1, rfl⟩ := e1
    obtain ⟨p2, cap2, rfl⟩ := e2
    all_goals
      go_enter Tryz.func6, Tryz.ntmps6
      go_wp2
      go_loopw [13] (fun c wr => c = .int .i64 0 ∧ wr = w) (fun _ _ => 0)
      case atStart => exact ⟨rfl, rfl⟩
      case round =>
        obtain ⟨rfl, rfl⟩ := hrel
        go_wp2
        go_ret
        exact ⟨rfl, 0, rfl⟩
  · rcases h1 with ⟨_, hx0⟩ | ⟨b1, o1, cap1, rfl, hc1, hm1, hr1⟩
    · rw [hx0] at hz; exact absurd rfl hz
    rcases h2 with ⟨_, hx0⟩ | ⟨b2, o2, cap2, rfl, hc2, hm2, hr2⟩
    · rw [hx0] at hz; exact absurd rfl hz
    obtain ⟨n1, hn1⟩ : ∃ n, xs.length = n := ⟨_, rfl⟩
    rw [hn1] at hr1 hr2 hc1 hc2 hx hz ⊢
    go_enter Tryz.func6, Tryz.ntmps6
    go_wp2
    go_loopw [13] (fun c wr => ∃ k n, k ≤ n1 ∧ c = .int .i64 k ∧ wr = w.drewN n) (fun c _ => n1 - (RowKit.intOf c).toNat)
    case atStart => exact ⟨0, 0, by omega, rfl, rfl⟩
    case round =>
      obtain ⟨k, n, hk, rfl, rfl⟩ := hrel
      by_cases hlt : k < n1
      · have d1 : (w.drewN n).cell? ⟨b1, o1 + k, none⟩ = some (.int .u16 (xs.getD k 0 : Nat)) := hr1 k hlt
        have d2 : (w.drewN n).cell? ⟨b2, o2 + k, none⟩ = some (.int .u16 (xs.getD k 0 : Nat)) := hr2 k hlt
        obtain ⟨x, hx⟩ : ∃ x, xs.getD k 0 = x := ⟨_, rfl⟩
        rw [hx] at d1 d2
        obtain ⟨wq, hwq⟩ : ∃ wq, w.drewN n = wq := ⟨_, rfl⟩
        rw [hwq] at d1 d2 ⊢
        clear hr1 hr2
        go_wp2
        go_quiet (fail)
        go_wp2
        go_roundw
        case rel => exact ⟨k + 1, _, by omega, by go_num, by rw [← hwq]; exact World.drewN_drewN _ _ _⟩
        case measure => simp [RowKit.intOf]; omega
      · obtain rfl : k = n1 := by omega
        go_wp2
        go_ret
        exact ⟨rfl, n, rfl⟩
end Go.Proofs.YthknielnhmoobaaGreatDoor
namespace Go.Proofs.YthknielnhmoobaaGreatDoor
open Go.RowKit Go.Lib

set_option maxRecDepth 100000 in
set_option maxHeartbeats 2000000 in
theorem fnTemplate_any (s : ByteArray) (w : World) (B : Nat) (hT : Tabs B w) (hB : B ≤ w.heap.size) (hs : s.size ≤ maxLen) (wb wo wn : Nat) (ws : List ByteArray) (sb so sn : Nat) (ss : List ByteArray) (hW : Lists B w wb wo wn ws sb so sn ss) :
    Calls Tryz.prog 3 #[.string s] w fun e w' => e = .returned (.bool true) ∧ Below w.heap.size w w' := by
  have hm : maxLen = 9223372036854775807 := rfl
  by_cases hbig : 2147483647 < s.size
  · have g : (2147483647 : Int) < (s.size : Int) := by omega
    go_enter Tryz.func3, Tryz.ntmps3
    go_wp2
    go_ret
    exact ⟨rfl, Below.refl _ _⟩
  have g : (s.size : Int) ≤ 2147483647 := by omega
  have HI := Lib.hid (specTpl_any s w B hT hB (by omega) wb wo wn ws sb so sn ss hW)
  have HT := Lib.hid hT
  clear hT hW hbig
  go_enter Tryz.func3, Tryz.ntmps3
  go_wp2_with fail
  refine HI.out.mono ?_
  rintro e w1 ⟨p, k, c, raw, v, rfl, hb, hv⟩
  have B1 := Lib.hid hb
  have z1 := hb.size
  clear hb HI
  by_cases hv1 : v = 1
  · subst hv1
    obtain ⟨h1, rfl, u, hR, hrow⟩ := hv rfl
    have hu : u.length ≤ 1099511627776 := by
      have := tpl_len _ _ _ _ _ hR
      rw [ticked_size] at this
      simp at this
      omega
    have HX := Lib.hid (implTpl_any s w1 B u (HT.out.below B1.out hB) (by omega) h1 (tte_of_ticked s u hR) (Nat.le_trans (raw_size s) h1))
    have HRow := Lib.hid hrow
    clear hv hR hrow
    go_wp2_with fail
    refine HX.out.mono ?_
    rintro e w2 ⟨v2, rfl, hrow2, hb2⟩
    obtain ⟨p2, n2, c2, rfl⟩ := slice_of_row hrow2
    have B2 := Lib.hid hb2
    have HRow2 := Lib.hid hrow2
    have HRow1 := Lib.hid (Row.below HRow.out hb2 (Nat.le_refl _))
    clear hb2 hrow2 HX
    go_wp2_with (go_at_call 6; refine (sameUnits_any _ _ u _ HRow2.out.urow HRow1.out.urow hu).mono ?_; rintro e w3 ⟨rfl, n3, rfl⟩)
    go_ret
    exact ⟨rfl, (B1.out.trans (B2.out.mono z1)).drewN' n3⟩
  · have g1 : (v == 1) = false := by simpa using hv1
    have g2 : (v != 1) = true := by simpa using hv1
    clear hv
    go_wp2_with fail
    go_ret
    exact ⟨rfl, B1.out⟩
end Go.Proofs.YthknielnhmoobaaGreatDoor
