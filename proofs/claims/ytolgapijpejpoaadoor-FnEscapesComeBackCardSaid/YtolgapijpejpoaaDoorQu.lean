/- The reference's Quoted: a text between two quotes that means the units. -/
import Derived.Test.YtolgapijpejpoaaDoorPi
import Derived.Test.YtolgapijpejpoaaDoorSa
namespace Go.Proofs.YtolgapijpejpoaaDoor
open Go.RowKit Go.Lib

abbrev quots : ByteArray := { data := #[34, 39] }
def qn (k : Nat) : Nat := if k = 0 then 34 else 39
theorem quots_at {k : Nat} (h : k < 2) : ∀ hk : k < quots.size, (((quots[k]'hk).toNat : Nat) : Int) = (qn k : Int) := by
  have : k = 0 ∨ k = 1 := by omega
  rcases this with rfl | rfl <;> intro _ <;> rfl
/-- The text between two quotes of one byte. -/
def QuotPost (w0 : World) (C : Nat) (vN : Value) (xs : List Nat) (e : Ending) (w' : World) : Prop :=
  ∃ t : ByteArray, ∃ q : UInt8, e = .returned (.string (⟨#[q]⟩ ++ t ++ ⟨#[q]⟩)) ∧ Means t xs ∧ t.size ≤ 1048576 ∧ OneAt w0 w' C vN 2097152
set_option maxHeartbeats 1000000 in
theorem quoted_any {w0 w : World} {C : Nat} {vu : Value} {xs : List Nat} {vN : Value} (hO : OneAt w0 w C vN 0) (hu : ((∃ p cap, vu = .slice p 0 cap) ∧ xs = []) ∨ ∃ b o cap, vu = .slice (some ⟨b, o, none⟩) xs.length cap ∧ UAt w0 C b o cap xs) (hxs : ∀ x ∈ xs, x < 65536) :
    Calls Tryd.prog 18 #[.pointer (some ⟨C, 0, none⟩), vu] w (QuotPost w0 C vN xs) := by
  obtain ⟨a, ha, hch⟩ := hO.ch
  have HO := Lib.hid hO
  have HU := Lib.hid hu
  have HX := Lib.hid hxs
  have HC := Lib.hid hch
  clear hO hu hxs hch
  go_enter Tryd.func18, Tryd.ntmps18
  go_wp2_with fail
  refine (of_any C vN a 2 2 rfl w HC.out HO.out.nums (by omega) (by omega) (by omega)).mono ?_
  rintro e w1 ⟨k, a', rfl, hk, ha', hc', hb⟩
  have hk2 : k < 2 := by omega
  have hkI : (k : Int) < 2 := by omega
  have hqa := quots_at hk2
  have O1 : Hid (OneAt w0 w1 C vN 1) := HO.out.step (by omega) hc' hb
  obtain ⟨q, hq⟩ : ∃ q, qn k = q := ⟨_, rfl⟩
  rw [hq] at hqa
  have hq34 : q = 34 ∨ q = 39 := by rw [← hq]; unfold qn; split <;> simp
  have hw1 : IntKind.i32.wrap (q : Int) = (q : Int) := IntWalk.i32_in _ (by omega)
  have hp := piece_any (q := q) (vN := vN) O1.out (by omega) HU.out hq34 HX.out
  have HP := Lib.hid hp
  have he : Utf8.encode (q : Int) = ⟨#[UInt8.ofNat q]⟩ := encode_1 (by omega)
  have hes : (Utf8.encode (q : Int)).size = 1 := by rw [he]; rfl
  clear hp hc' hb hq ha' he
  go_wp2_with fail
  refine HP.out.mono ?_
  rintro e w2 ⟨t, rfl, hm, hsz, O2⟩
  have s1 : (Utf8.encode (q : Int)).size + t.size ≤ 9223372036854775807 := by omega
  have s2 : (Utf8.encode (q : Int) ++ t).size + (Utf8.encode (q : Int)).size ≤ 9223372036854775807 := by rw [ByteArray.size_append]; omega
  have HM := Lib.hid hm
  have H2 := Lib.hid O2
  clear hm O2
  go_wp2
  go_ret
  refine ⟨t, UInt8.ofNat q, ?_, HM.out, hsz, H2.out.mono (by omega)⟩
  rw [← encode_1 (show q < 128 by omega)]
  rfl
/-- The units and the numbers that came in. -/
def UIn (w : World) (v : Value) (xs : List Nat) : Prop :=
  ((∃ p cap, v = .slice p 0 cap) ∧ xs = []) ∨ ∃ b o cap, v = .slice (some ⟨b, o, none⟩) xs.length cap ∧ xs.length ≤ cap ∧ cap ≤ maxLen ∧ b < w.heap.size ∧ ∀ k, k < xs.length → w.cell? ⟨b, o + k, none⟩ = some (.int .u16 (xs.getD k 0 : Nat))
def NIn (w : World) (v : Value) (l : Nat) : Prop :=
  ((∃ p cap, v = .slice p 0 cap) ∧ l = 0) ∨ ∃ b o cap, v = .slice (some ⟨b, o, none⟩) l cap ∧ l ≤ cap ∧ cap ≤ maxLen ∧ b < w.heap.size ∧ ∀ k, k < l → ∃ x : Int, -9223372036854775808 ≤ x ∧ x ≤ 9223372036854775807 ∧ w.cell? ⟨b, o + k, none⟩ = some (.int .i64 x)
theorem UIn.below {w w' : World} {v : Value} {xs : List Nat} (h : UIn w v xs) (hb : Below w.heap.size w w') : UIn w' v xs := by
  rcases h with h | ⟨b, o, cap, e, h1, h2, h3, h4⟩
  · exact .inl h
  · exact .inr ⟨b, o, cap, e, h1, h2, by have := hb.size; omega, fun k hk => (hb.cell (p := ⟨b, o + k, none⟩) h3).trans (h4 k hk)⟩
theorem UIn.urow {w : World} {v : Value} {xs : List Nat} (h : UIn w v xs) : URow w v xs := by
  rcases h with h | ⟨b, o, cap, e, h1, h2, h3, h4⟩
  · exact .inl h
  · exact .inr ⟨b, o, cap, e, h1, h2, h4⟩
theorem start_one {w : World} {vN : Value} {l : Nat} (hN : NIn w vN l) (hl : l ≤ 2147483647) (ht : w.cell? ⟨6, 15, none⟩ = some (.int .u8 4)) :
    OneAt (w.alloc (.cells #[vN, .int .i64 0] 44)) (w.alloc (.cells #[vN, .int .i64 0] 44)) w.heap.size vN 0 := by
  have hlt := World.block_lt_of_cell? w _ ht
  have hk : ∀ a : Addr, a.block < w.heap.size → (w.alloc (.cells #[vN, .int .i64 0] 44)).cell? a = w.cell? a := fun a ha => World.cell?_alloc_lt w _ a ha
  refine ⟨⟨0, Nat.le_refl _, heap_alloc_new _ _⟩, ?_, (hk _ hlt).trans ht, hlt, Nat.le_refl _, by simp, Beside.refl _ _ _⟩
  rcases hN with ⟨h, _⟩ | ⟨b, o, cap, e, h1, h2, h3, h4⟩
  · exact .inl h
  · refine .inr ⟨b, o, l, cap, e, hl, h3, fun k hkl => ?_⟩
    obtain ⟨x, x0, x1, hx⟩ := h4 k hkl
    exact ⟨x, x0, x1, (hk _ h3).trans hx⟩
theorem start_units {w : World} {v : Value} {xs : List Nat} (h : UIn w v xs) (hx : xs.length ≤ 65536) (o2 : Obj) : ((∃ p cap, v = .slice p 0 cap) ∧ xs = []) ∨ ∃ b o cap, v = .slice (some ⟨b, o, none⟩) xs.length cap ∧ UAt (w.alloc o2) w.heap.size b o cap xs := by
  rcases h with h | ⟨b, o, cap, e, h1, h2, h3, h4⟩
  · exact .inl h
  · exact .inr ⟨b, o, cap, e, h3, hx, fun k hk => (World.cell?_alloc_lt w o2 ⟨b, o + k, none⟩ h3).trans (h4 k hk)⟩
def QPost (w : World) (xs : List Nat) (e : Ending) (w' : World) : Prop :=
  ∃ t : ByteArray, ∃ q : UInt8, e = .returned (.string (⟨#[q]⟩ ++ t ++ ⟨#[q]⟩)) ∧ Means t xs ∧ t.size ≤ 1048576 ∧ Below w.heap.size w w'
theorem quotedTop_any {w : World} {vu vN : Value} {xs : List Nat} {l : Nat} (hu : UIn w vu xs) (hN : NIn w vN l) (hl : l ≤ 2147483647) (hx : xs.length ≤ 65536) (hxs : ∀ x ∈ xs, x < 65536) (ht : w.cell? ⟨6, 15, none⟩ = some (.int .u8 4)) :
    Calls Tryd.prog 11 #[vu, vN] w (QPost w xs) := by
  have hO := start_one hN hl ht
  have hU := start_units hu hx (.cells #[vN, .int .i64 0] 44)
  have hq := quoted_any hO hU hxs
  have HQ := Lib.hid hq
  have fin : ∀ e w', QuotPost (w.alloc (.cells #[vN, .int .i64 0] 44)) w.heap.size vN xs e w' → QPost w xs e w' := by
    rintro e w' ⟨t, q, rfl, hm, hsz, hO'⟩
    have hb := hO'.beside.mono (B' := w.heap.size) (by simp)
    exact ⟨t, q, rfl, hm, hsz, ((Below.refl w.heap.size w).alloc (Nat.le_refl _) _).trans (hb.below (Nat.le_refl _))⟩
  clear hO hU hq
  rcases hN with ⟨⟨p0, cap0, rfl⟩, _⟩ | ⟨b, o, cap, rfl, _⟩
  all_goals
    go_enter Tryd.func11, Tryd.ntmps11
    go_wp2_with (go_at_call 18; refine HQ.out.mono ?_; intro e w1 hp; obtain ⟨t, q, rfl, hm, hsz, hb⟩ := fin _ _ hp)
    go_ret
    exact ⟨t, q, rfl, hm, hsz, hb⟩
end Go.Proofs.YtolgapijpejpoaaDoor
