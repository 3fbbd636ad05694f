/- impl.Escapes where the text is right; two rows of units that are the same. -/
import Derived.Test.YtolgapijpejpoaaDoorHe
namespace Go.Proofs.YtolgapijpejpoaaDoor
open Go.RowKit Go.Lib Go.MuLone

theorem escImpl_right (s : ByteArray) (w : World) (B : Nat) (r : List Nat) (hT : Tabs B w) (hB : B ≤ w.heap.size) (hs : s.size ≤ 1099511627776) (ht : tteF s (s.size + 1) 0 [] = .right r) :
    Calls Tryd.prog 9 #[.string s] w fun e w' => ∃ v, e = .returned (.tuple #[v, .bool true, .int .i64 0]) ∧ Row w' w.heap.size v r ∧ Below w.heap.size w w' := by
  have HT := Lib.hid hT
  have HF := Lib.hid ht
  clear hT ht
  go_enter Tryd.func9, Tryd.ntmps9
  go_wp2_with (go_at_call 17; refine (zzEsc_right s _ B r HT.out hB hs HF.out).mono ?_; rintro e w1 ⟨v, rfl, hrow, hb⟩)
  go_ret3
  exact ⟨v, rfl, hrow, hb⟩

/-- A slice that reads as these units. -/
def URow (w : World) (v : Value) (xs : List Nat) : Prop :=
  ((∃ p cap, v = .slice p 0 cap) ∧ xs = []) ∨ ∃ b o cap, v = .slice (some ⟨b, o, none⟩) xs.length cap ∧ xs.length ≤ cap ∧ cap ≤ maxLen ∧ ∀ k, k < xs.length → w.cell? ⟨b, o + k, none⟩ = some (.int .u16 (xs.getD k 0 : Nat))
theorem Row.urow {w : World} {base : Nat} {v : Value} {xs : List Nat} (h : Row w base v xs) : URow w v xs := by
  rcases h.2 with ⟨e, hn⟩ | ⟨g, cap, cur, e, hb, hg, h1, h2, h3, h4⟩
  · exact .inl ⟨⟨none, 0, e⟩, List.length_eq_zero_iff.1 hn⟩
  · refine .inr ⟨g, 0, cap, e, h1, h2, fun k hk => ?_⟩
    have e1 := (cells_of_block hg (0 + k)).1
    rw [e1, Nat.zero_add]
    rw [Nat.mul_one] at h4
    have e2 : (cur.toList.take xs.length)[k]? = (xs.map u16)[k]? := by rw [h4]
    rw [List.getElem?_take, if_pos hk, List.getElem?_map, List.getElem?_eq_getElem hk] at e2
    rw [Array.getElem?_toList] at e2
    rw [e2, List.getD_eq_getElem?_getD, List.getElem?_eq_getElem hk]
    rfl
set_option maxHeartbeats 1000000 in
theorem sameUnits_any (v1 v2 : Value) (xs : List Nat) (w : World) (h1 : URow w v1 xs) (h2 : URow w v2 xs) (hx : xs.length ≤ 1099511627776) : Calls Tryd.prog 10 #[v1, v2] w fun e w' => e = .returned (.bool true) ∧ ∃ n, w' = w.drewN n := by
  by_cases hz : xs.length = 0
  · have hx0 : xs = [] := List.length_eq_zero_iff.1 hz
    subst hx0
    have e1 : ∃ p cap, v1 = .slice p 0 cap := by
      rcases h1 with ⟨h, _⟩ | ⟨b, o, cap, rfl, _⟩
      · exact h
      · exact ⟨_, cap, rfl⟩
    have e2 : ∃ p cap, v2 = .slice p 0 cap := by
      rcases h2 with ⟨h, _⟩ | ⟨b, o, cap, rfl, _⟩
      · exact h
      · exact ⟨_, cap, rfl⟩
    clear h1 h2 hx hz
    obtain ⟨p1, cap1, rfl⟩ := e1
    obtain ⟨p2, cap2, rfl⟩ := e2
    all_goals
      go_enter Tryd.func10, Tryd.ntmps10
      go_wp2
      go_loopw [13] (fun c wr => c = .int .i64 0 ∧ wr = w) (fun _ _ => 0)
      case atStart => exact ⟨rfl, rfl⟩
      case round =>
        obtain ⟨rfl, rfl⟩ := hrel
        go_wp2
        go_ret
        exact ⟨rfl, 0, rfl⟩
  · rcases h1 with ⟨_, hx0⟩ | ⟨b1, o1, cap1, rfl, hc1, hm1, hr1⟩
    · rw [hx0] at hz; exact absurd rfl hz
    rcases h2 with ⟨_, hx0⟩ | ⟨b2, o2, cap2, rfl, hc2, hm2, hr2⟩
    · rw [hx0] at hz; exact absurd rfl hz
    obtain ⟨n1, hn1⟩ : ∃ n, xs.length = n := ⟨_, rfl⟩
    rw [hn1] at hr1 hr2 hc1 hc2 hx hz ⊢
    go_enter Tryd.func10, Tryd.ntmps10
    go_wp2
    go_loopw [13] (fun c wr => ∃ k n, k ≤ n1 ∧ c = .int .i64 k ∧ wr = w.drewN n) (fun c _ => n1 - (RowKit.intOf c).toNat)
    case atStart => exact ⟨0, 0, by omega, rfl, rfl⟩
    case round =>
      obtain ⟨k, n, hk, rfl, rfl⟩ := hrel
      by_cases hlt : k < n1
      · have d1 : (w.drewN n).cell? ⟨b1, o1 + k, none⟩ = some (.int .u16 (xs.getD k 0 : Nat)) := hr1 k hlt
        have d2 : (w.drewN n).cell? ⟨b2, o2 + k, none⟩ = some (.int .u16 (xs.getD k 0 : Nat)) := hr2 k hlt
        obtain ⟨x, hx⟩ : ∃ x, xs.getD k 0 = x := ⟨_, rfl⟩
        rw [hx] at d1 d2
        obtain ⟨wq, hwq⟩ : ∃ wq, w.drewN n = wq := ⟨_, rfl⟩
        rw [hwq] at d1 d2 ⊢
        clear hr1 hr2
        go_wp2
        go_quiet (fail)
        go_wp2
        go_roundw
        case rel => exact ⟨k + 1, _, by omega, by go_num, by rw [← hwq]; exact World.drewN_drewN _ _ _⟩
        case measure => simp [RowKit.intOf]; omega
      · obtain rfl : k = n1 := by omega
        go_wp2
        go_ret
        exact ⟨rfl, n, rfl⟩
end Go.Proofs.YtolgapijpejpoaaDoor
