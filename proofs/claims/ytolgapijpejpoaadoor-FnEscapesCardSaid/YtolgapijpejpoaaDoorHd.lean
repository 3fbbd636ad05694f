/- Has the log errors; a function run behind a recover. -/
import Derived.Test.YtolgapijpejpoaaDoorHc
import Derived.Test.YtolgapijpejpoaaDoorMu
import Derived.Defers
import Derived.Recover
namespace Go.Proofs.YtolgapijpejpoaaDoor
open Go.RowKit Go.Lib Go.MuLone

theorem relock (w : World) (M : Nat) (h : w.heap[M]? = some (.cells #[.int .i32 0, .int .u32 0] 128 (0, 0))) : Below w.heap.size w ((w.setCell ⟨M, 0, none⟩ (.int .i32 1)).setCell ⟨M, 0, none⟩ (.int .i32 0)) := by
  refine ⟨rfl, rfl, rfl, by simp [World.setCell], fun k hk => ?_⟩
  by_cases e : k = M
  · subst e
    simp [World.setCell, Array.getElem?_modify, h]
  · rw [Below.heap_setCell _ _ _ _ e, Below.heap_setCell _ _ _ _ e]
theorem hasErr_any (K S M H : Nat) (w : World) (h : LogAt w K S M H) : Calls Tryd.prog 43 #[.pointer (some ⟨M, 0, none⟩), .pointer (some ⟨H, 0, none⟩)] w fun e w' => e = .returned (.bool false) ∧ Below w.heap.size w w' := by
  have m0 := (cells_of_block h.m 0).1
  have mf := (cells_of_block h.m 0).2
  have h0 := (cells_of_block h.h 0).1
  simp only [List.getElem?_toArray, List.getElem?_cons_zero] at m0 h0
  have hMH : M ≠ H := by
    intro e
    have h1 := h.m
    rw [e, h.h] at h1
    simp at h1
  go_enter_defers Tryd.func43, Tryd.ntmps43
  go_wp2_with (go_at_call 41; refine (lock_free Tryd.muLib ⟨M, 0, none⟩ _ m0 mf).mono ?_; rintro e w' ⟨rfl, rfl⟩)
  refine leaves_cons (f := 42) (args := #[.pointer (some ⟨M, 0, none⟩)]) (by simp) (by simp [go_sem]) ?_
  refine (unlock_deferred Tryd.muLib ⟨M, 0, none⟩ .returning _ ?_ ?_).mono ?_
  · exact World.cell?_setCell_same w ⟨M, 0, none⟩ (.int .i32 1) m0
  · simp [mf]
  rintro e u' w'' ⟨rfl, rfl, rfl⟩
  exact ⟨_, results_tmp rfl _ _ _, rfl, relock w M h.m⟩

theorem runs_idle (p : Addr) (w : World) :
    CallsD Tryd.prog 37 #[.pointer (some p)] .returning w fun e u' w' => e = .returned (.tuple #[]) ∧ u' = .returning ∧ w' = w := by
  refine callsD_of_wpS Tryd.func37 rfl fun c₀ cs hu => ?_
  apply wpS_seq
  apply wpS_region
  simp [wpOpsS, go_sem, recoverD, hu, Tryd.ntmps37, Exit.thenS]
  apply wpS_seq
  apply wpS_region
  simp [wpOpsS, go_sem, hu, Tryd.ntmps37, Exit.thenS]
  refine wpS_cond (t := false) (by simp [Act.eval, Array.replicate]) ?_
  simp only [Bool.false_eq_true, if_false]
  refine wpS_of_wp (wp_skip ?_)
  cases c₀
  simp_all [bodyPostS, results, Tryd.results37]
theorem runs_ok (caps : Array Value) (w : World) (Φ : World → Prop) (hc : Calls Tryd.prog 28 caps (w.alloc (.cells #[.bool false] 4)) fun e w' => e = .returned (.tuple #[]) ∧ Φ w')
    (hk : ∀ w', Φ w' → w'.heap[w.heap.size]? = some (.cells #[.bool false] 4 (0, 0))) :
    Calls Tryd.prog 27 #[.func (.func 28) #[] caps] w fun e w' => e = .returned (.bool true) ∧ ∃ w1, Φ w1 ∧ w' = w1.setCell ⟨w.heap.size, 0, none⟩ (.bool true) := by
  have hmf := hmf0
  go_enter_defers Tryd.func27, Tryd.ntmps27
  go_wp2_with fail
  refine hc.mono ?_
  rintro e w1 ⟨rfl, hΦ⟩
  have hb := hk w1 hΦ
  have c0 := (cells_of_block hb 0).1
  have cf := (cells_of_block hb 0).2
  simp only [List.getElem?_toArray, List.getElem?_cons_zero] at c0
  go_wp2
  refine leaves_cons (f := 37) (args := #[.pointer (some ⟨w.heap.size, 0, none⟩)]) (by simp) (by simp [go_sem]) ?_
  refine (runs_idle ⟨w.heap.size, 0, none⟩ _).mono ?_
  rintro e u' w'' ⟨rfl, rfl, rfl⟩
  simp [Leaves, settle, results, Tryd.results27, go_sem, c0, cf]
  exact ⟨w1, hΦ, rfl⟩
end Go.Proofs.YtolgapijpejpoaaDoor
