/- The law FnEscapes answers true at every text. -/
import Derived.Test.YtolgapijpejpoaaDoorWk
import Derived.Test.YtolgapijpejpoaaDoorSa
import Derived.Test.YtolgapijpejpoaaDoorIns
namespace Go.Proofs.YtolgapijpejpoaaDoor
open Go.RowKit Go.Lib Go.MuLone
theorem escImpl_wrong (s : ByteArray) (w : World) (B : Nat) (hT : Tabs B w) (hB : B ≤ w.heap.size) (hs : s.size ≤ 1048576) (ht : tteF s (s.size + 1) 0 [] = .wrong) :
    Calls Tryd.prog 9 #[.string s] w fun e w' => ∃ k : Int, e = .returned (.tuple #[.slice none 0 0, .bool false, .int .i64 k]) ∧ Below w.heap.size w w' := by
  have HT := Lib.hid hT
  have HF := Lib.hid ht
  clear hT ht
  go_enter Tryd.func9, Tryd.ntmps9
  go_wp2_with (go_at_call 17; refine (zzEsc_wrong s _ B HT.out hB hs HF.out).mono ?_; rintro e w1 ⟨k, rfl, hb⟩)
  go_ret3
  exact ⟨k, rfl, hb⟩
theorem Row.len {w : World} {base : Nat} {v : Value} {xs : List Nat} (h : Row w base v xs) : ∃ p cap, v = .slice p xs.length cap := by
  rcases h.2 with ⟨e, hn⟩ | ⟨g, cap, cur, e, _⟩
  · exact ⟨none, 0, by rw [e, hn]⟩
  · exact ⟨_, _, e⟩
theorem ins_len (s : ByteArray) (k : Nat) : ∀ i u r, insF s k i u = .right r → r.length ≤ u.length + 2 * k := by
  induction k with
  | zero => intro i u r h; simp [insF] at h
  | succ k ih =>
    intro i u r h
    unfold insF at h
    split at h
    · have e : u = r := by simpa using h
      subst e; omega
    split at h
    · simp at h
    split at h
    · have := ih _ _ _ h
      have h2 := unitsOf_len (rn s i).1
      rw [List.length_append] at this
      omega
    split at h
    · simp at h
    split at h
    · rename_i a j hx
      have := ih _ _ _ h
      have h2 := (escF_le hx).2.2
      rw [List.length_append] at this
      omega
    · simp at h
    · simp at h
set_option maxRecDepth 100000 in
set_option maxHeartbeats 2000000 in
theorem fnEscapes_any (s : ByteArray) (w : World) (B : Nat) (hT : Tabs B w) (hB : B ≤ w.heap.size) (hs : s.size ≤ maxLen) :
    Calls Tryd.prog 4 #[.string s] w fun e w' => e = .returned (.bool true) ∧ Below w.heap.size w w' := by
  have hm : maxLen = 9223372036854775807 := rfl
  by_cases hbig : 2147483647 < s.size
  · have g : (2147483647 : Int) < (s.size : Int) := by omega
    go_enter Tryd.func4, Tryd.ntmps4
    go_wp2
    go_ret
    exact ⟨rfl, Below.refl _ _⟩
  have g : (s.size : Int) ≤ 2147483647 := by omega
  have hi := inside_any s w B hT hB (by omega)
  have HT := Lib.hid hT
  cases hx : insTop s with
  | opn =>
    rw [hx] at hi
    have HI := Lib.hid hi
    clear hi hT hx
    go_enter Tryd.func4, Tryd.ntmps4
    go_wp2_with (go_at_call 8; refine HI.out.mono ?_; rintro e w1 ⟨rfl, hb⟩)
    go_ret
    exact ⟨rfl, hb⟩
  | wrong =>
    rw [hx] at hi
    have HI := Lib.hid hi
    have h1 : s.size ≤ 1048576 ∧ tteF s (s.size + 1) 0 [] = .wrong := by
      unfold insTop at hx
      split at hx
      · exact absurd hx (by simp)
      split at hx
      · exact absurd hx (by simp)
      exact ⟨by omega, by rw [tte_of_ins s _ 0 [] (by rw [hx]; simp)]; exact hx⟩
    have HX := Lib.hid h1
    clear hi hT hx h1
    go_enter Tryd.func4, Tryd.ntmps4
    go_wp2_with (first | (go_at_call 8; refine HI.out.mono ?_; rintro e w1 ⟨rfl, hb⟩; have T1 := Lib.hid (HT.out.below hb hB); have B1 := Lib.hid hb; have z1 := hb.size; clear hb) | (go_at_call 9; refine (escImpl_wrong s _ B T1.out (by omega) HX.out.1 HX.out.2).mono ?_; rintro e w2 ⟨k, rfl, hb2⟩))
    go_ret
    exact ⟨rfl, B1.out.trans (hb2.mono (by omega))⟩
  | right u =>
    rw [hx] at hi
    have HI := Lib.hid hi
    have h1 : s.size ≤ 1048576 ∧ tteF s (s.size + 1) 0 [] = .right u ∧ u.length ≤ 1099511627776 := by
      unfold insTop at hx
      split at hx
      · exact absurd hx (by simp)
      split at hx
      · exact absurd hx (by simp)
      exact ⟨by omega, by rw [tte_of_ins s _ 0 [] (by rw [hx]; simp)]; exact hx, by have := ins_len s _ 0 [] u hx; simp at this; omega⟩
    have HX := Lib.hid h1
    clear hi hT hx h1
    go_enter Tryd.func4, Tryd.ntmps4
    go_wp2_with (first | (go_at_call 8; refine HI.out.mono ?_; rintro e w1 ⟨v1, rfl, hrow1, hb⟩; have T1 := Lib.hid (HT.out.below hb hB); have B1 := Lib.hid hb; have z1 := hb.size; obtain ⟨q1, k1, rfl⟩ := hrow1.len; have R1 := Lib.hid hrow1; clear hb hrow1) | (go_at_call 9; refine (escImpl_right s _ B u T1.out (by omega) (by have := HX.out.1; omega) HX.out.2.1).mono ?_; rintro e w2 ⟨v2, rfl, hrow2, hb2⟩; obtain ⟨q2, k2, rfl⟩ := hrow2.len; have R2 := Lib.hid hrow2; have B2 := Lib.hid hb2; clear hrow2 hb2) | (go_at_call 10; refine (sameUnits_any _ _ u _ R2.out.urow ((R1.out.below B2.out (Nat.le_refl _)).urow) HX.out.2.2).mono ?_; rintro e w3 ⟨rfl, n3, rfl⟩))
    go_ret
    exact ⟨rfl, (B1.out.trans (B2.out.mono (by omega))).drewN' n3⟩
end Go.Proofs.YtolgapijpejpoaaDoor
