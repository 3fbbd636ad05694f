/- The walk of FnKeyword. -/
import Derived.Test.YtolgapijpejpoaaDoorProg
import Derived.WalkKit
import Derived.WalkSpells
import Derived.Lib.Hide
namespace Go.Proofs.YtolgapijpejpoaaDoor
open Go.RowKit

set_option maxHeartbeats 400000 in
theorem reserve_any (s : ByteArray) (b o : Nat) (ws : List ByteArray) (w : World) (hl : ws.length = 36)
    (hc0 : w.cell? ⟨0, 0, none⟩ = some (.slice (some ⟨b, o, none⟩) 36 36))
    (hcell : ∀ i, i < 36 → w.cell? ⟨b, o + i, none⟩ = some (.string (ws.getD i ByteArray.empty))) :
    Calls Tryd.prog 7 #[.string s] w fun e w' => e = .returned (.bool (ws.any fun x => x.toList == s.toList)) ∧ w = w' := by
  go_enter Tryd.func7, Tryd.ntmps7
  go_wp2
  go_loop [7] (fun i => ∃ k : Nat, k ≤ 36 ∧ i = .int .i64 k ∧ ((ws.take k).any fun x => x.toList == s.toList) = false) (fun i => 36 - (intOf i).toNat)
  case atStart => exact ⟨0, by omega, rfl, rfl⟩
  case round =>
    obtain ⟨k, hk, rfl, hn⟩ := hrel
    have HN := Lib.hid hn
    clear hn
    by_cases hlt : k < 36
    · have hc := hcell k hlt
      clear hcell
      go_wp2
      · have h : (ws[k].toList == s.toList) = true := by assumption
        go_ret
        refine ⟨?_, rfl⟩
        have : (ws.any fun x => x.toList == s.toList) = true := List.any_eq_true.2 ⟨ws[k], List.getElem_mem _, h⟩
        rw [this]; rfl
      · have h : (ws[k].toList == s.toList) = false := by assumption
        go_round
        case rel =>
          refine ⟨k + 1, by omega, by go_num, ?_⟩
          rw [List.take_succ_eq_append_getElem (by omega), List.any_append, HN.out]
          simp [h]
        case measure => simp [intOf]; omega
    · have hk36 : k = 36 := by omega
      go_wp2
      go_ret
      refine ⟨?_, rfl⟩
      have := HN.out
      rw [List.take_of_length_le (by omega)] at this
      rw [this]; rfl

theorem zzKeyword_any (s : ByteArray) (bm : Nat) (n : Int) (w : World)
    (hc : w.cell? ⟨1, 0, none⟩ = some (.map (some bm)))
    (hrun : (Instr.lookup 47 (.map (some bm)) (.string s) false).run Tryd.prog w = .ok (.int .u8 n) w) :
    Calls Tryd.prog 12 #[.string s] w fun e w' => e = .returned (.bool (n != 0)) ∧ w = w' := by
  go_enter Tryd.func12, Tryd.ntmps12
  go_wp2
  go_ret
  exact ⟨rfl, rfl⟩

theorem keyword_any (s : ByteArray) (bm : Nat) (n : Int) (w : World)
    (hc : w.cell? ⟨1, 0, none⟩ = some (.map (some bm)))
    (hrun : (Instr.lookup 47 (.map (some bm)) (.string s) false).run Tryd.prog w = .ok (.int .u8 n) w) :
    Calls Tryd.prog 6 #[.string s] w fun e w' => e = .returned (.bool (n != 0)) ∧ w = w' := by
  go_enter Tryd.func6, Tryd.ntmps6
  go_wp2_with (go_at_call 12; refine (zzKeyword_any s bm n _ hc hrun).mono ?_; rintro e w' ⟨rfl, rfl⟩)
  go_ret
  exact ⟨rfl, rfl⟩

theorem fnKeyword_any (s : ByteArray) (b o : Nat) (ws : List ByteArray) (bm : Nat) (n : Int) (w : World) (hl : ws.length = 36)
    (hc0 : w.cell? ⟨0, 0, none⟩ = some (.slice (some ⟨b, o, none⟩) 36 36))
    (hcell : ∀ i, i < 36 → w.cell? ⟨b, o + i, none⟩ = some (.string (ws.getD i ByteArray.empty)))
    (hc : w.cell? ⟨1, 0, none⟩ = some (.map (some bm)))
    (hrun : (Instr.lookup 47 (.map (some bm)) (.string s) false).run Tryd.prog w = .ok (.int .u8 n) w)
    (hsame : (n != 0) = (ws.any fun x => x.toList == s.toList)) :
    Calls Tryd.prog 3 #[.string s] w fun e w' => e = .returned (.bool true) ∧ w = w' := by
  by_cases hbig : 2147483647 < (s.size : Int)
  · clear hcell hrun hsame
    go_enter Tryd.func3, Tryd.ntmps3
    go_wp2
    go_ret
    exact ⟨rfl, rfl⟩
  · have H := Lib.hid hsame
    have HC := Lib.hid hcell
    have HR := Lib.hid hrun
    clear hsame hcell hrun
    go_enter Tryd.func3, Tryd.ntmps3
    go_wp2_with (first | (go_at_call 6; refine (keyword_any s bm n _ hc HR.out).mono ?_; rintro e w' ⟨rfl, rfl⟩) | (go_at_call 7; refine (reserve_any s b o ws _ hl hc0 HC.out).mono ?_; rintro e w' ⟨rfl, rfl⟩))
    go_ret
    refine ⟨?_, rfl⟩
    rw [H.out]; simp
end Go.Proofs.YtolgapijpejpoaaDoor
