/- The law FnEscapesComeBack, walked. -/
import Derived.Test.YtolgapijpejpoaaDoorQu
namespace Go.Proofs.YtolgapijpejpoaaDoor
open Go.RowKit Go.Lib Go.MuLone

theorem quot_size (q : UInt8) (t : ByteArray) : (⟨#[q]⟩ ++ t ++ ⟨#[q]⟩ : ByteArray).size = t.size + 2 := by
  rw [ByteArray.size_append, ByteArray.size_append, size1]; omega
theorem quot_extract (q : UInt8) (t : ByteArray) : (⟨#[q]⟩ ++ t ++ ⟨#[q]⟩ : ByteArray).extract 1 (t.size + 1) = t := by
  rw [ByteArray.append_assoc]
  apply ByteArray.ext
  apply Array.ext
  · have h1 : ((⟨#[q]⟩ ++ (t ++ ⟨#[q]⟩) : ByteArray).extract 1 (t.size + 1)).size = t.size := by
      rw [ByteArray.size_extract, ByteArray.size_append, ByteArray.size_append, size1]; omega
    exact h1
  · intro i h1 h2
    have hi : i < t.size := h2
    simp only [ByteArray.data_extract, ByteArray.data_append, Array.getElem_extract]
    rw [Array.getElem_append_right (by simp), Array.getElem_append_left (by simpa [Nat.add_sub_cancel_left] using hi)]
    simp [Nat.add_sub_cancel_left]
def BackPost (w : World) (e : Ending) (w' : World) : Prop := e = .returned (.bool true) ∧ Below w.heap.size w w'
set_option maxHeartbeats 1000000 in
theorem back_any {w : World} {vu vN : Value} {xs : List Nat} {l B : Nat} (hT : Tabs B w) (hB : B ≤ w.heap.size) (hu : UIn w vu xs) (hN : NIn w vN l) (hxl : xs.length ≤ maxLen) (hll : l ≤ maxLen) (hxs : ∀ x ∈ xs, x < 65536) (ht : w.cell? ⟨6, 15, none⟩ = some (.int .u8 4)) :
    Calls Tryd.prog 5 #[vu, vN] w (BackPost w) := by
  have hvu : ∃ p cap, vu = .slice p xs.length cap := by
    rcases hu with ⟨⟨p, cap, h⟩, h2⟩ | ⟨b, o, cap, h, _⟩
    · exact ⟨p, cap, by rw [h, h2]; rfl⟩
    · exact ⟨_, cap, h⟩
  have hvn : ∃ p cap, vN = .slice p l cap := by
    rcases hN with ⟨⟨p, cap, h⟩, h2⟩ | ⟨b, o, cap, h, _⟩
    · exact ⟨p, cap, by rw [h, h2]⟩
    · exact ⟨_, cap, h⟩
  obtain ⟨p1, cap1, e1⟩ := hvu
  obtain ⟨p2, cap2, e2⟩ := hvn
  have hml : maxLen = 9223372036854775807 := rfl
  obtain ⟨m, hm⟩ : ∃ m, xs.length = m := ⟨_, rfl⟩
  have HT := Lib.hid hT
  have HU := Lib.hid hu
  have HN := Lib.hid hN
  have HX := Lib.hid hxs
  have HM := Lib.hid hm
  rw [hm] at hxl e1
  clear hT hu hN hxs hm
  subst e1 e2
  by_cases g1 : (2147483647 : Int) < (m : Int)
  · go_enter Tryd.func5, Tryd.ntmps5
    go_wp2
    go_ret
    exact ⟨rfl, Below.refl _ _⟩
  by_cases g2 : (2147483647 : Int) < (l : Int)
  · go_enter Tryd.func5, Tryd.ntmps5
    go_wp2
    go_ret
    exact ⟨rfl, Below.refl _ _⟩
  by_cases g3 : (32768 : Int) < (m : Int)
  · go_enter Tryd.func5, Tryd.ntmps5
    go_wp2
    go_ret
    exact ⟨rfl, Below.refl _ _⟩
  have hq := quotedTop_any HU.out HN.out (by omega) (by have := HM.out; omega) HX.out ht
  have HQ := Lib.hid hq
  clear hq
  go_enter Tryd.func5, Tryd.ntmps5
  go_wp2_with (go_at_call 11; refine HQ.out.mono ?_; rintro e w1 ⟨t, q, rfl, hme, hsz, hb⟩)
  rw [show 1 + t.size = t.size + 1 by omega, quot_extract]
  have HB1 := Lib.hid hb
  have hz := hb.size
  have T1 : Hid (Tabs B w1) := HT.out.below hb hB
  have hr := means_whole hme
  have HR := Lib.hid hr
  have U1 : Hid (UIn w1 (.slice p1 m cap1) xs) := HU.out.below hb
  clear hb hme hr
  refine (escImpl_right t w1 B xs T1.out (by omega) (by omega) HR.out).mono ?_
  rintro e w2 ⟨v, rfl, hrow, hb2⟩
  have R2 := Lib.hid hrow.urow
  have U2 : Hid (URow w2 (.slice p1 m cap1) xs) := (U1.out.below hb2).urow
  have HB2 : Hid (Below w.heap.size w w2) := HB1.out.trans (hb2.mono hz)
  clear hrow hb2
  go_wp2_with (go_at_call 10; refine (sameUnits_any v _ xs _ R2.out U2.out (by have := HM.out; omega)).mono ?_; rintro e w3 ⟨rfl, n3, rfl⟩)
  go_ret
  exact ⟨rfl, HB2.out.drewN' n3⟩
end Go.Proofs.YtolgapijpejpoaaDoor
