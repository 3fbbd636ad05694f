/- The reference's chooser. -/
import Derived.Test.YtolgapijpejpoaaDoorSpec
namespace Go.Proofs.YtolgapijpejpoaaDoor
open Go.RowKit Go.Lib

/-- THE CHOOSER: block C, known whole. -/
def ChAt (w : World) (C : Nat) (v : Value) (a : Nat) : Prop := w.heap[C]? = some (.cells #[v, .int .i64 a] 44 (0, 0))
section
variable {w w' : World} {C a : Nat} {v : Value}
theorem ChAt.lt (h : ChAt w C v a) : C < w.heap.size := (Array.getElem?_eq_some_iff.1 h).1
theorem ChAt.cell0 (h : ChAt w C v a) : w.cell? ⟨C, 0, none⟩ = some v := by unfold ChAt at h; simp [World.cell?, h]
theorem ChAt.cell1 (h : ChAt w C v a) : w.cell? ⟨C, 1, none⟩ = some (.int .i64 a) := by unfold ChAt at h; simp [World.cell?, h]
theorem ChAt.free (h : ChAt w C v a) (o : Nat) : w.frozen? ⟨C, o, none⟩ = false := by unfold ChAt at h; simp [World.frozen?, h]
theorem ChAt.of_block (h : ChAt w C v a) (e : w'.heap[C]? = w.heap[C]?) : ChAt w' C v a := by unfold ChAt at *; rw [e]; exact h
theorem ChAt.below {B : Nat} (h : ChAt w C v a) (hb : Below B w w') (hB : C < B) : ChAt w' C v a := h.of_block (hb.block C hB)
theorem ChAt.set1 (h : ChAt w C v a) (b : Nat) : ChAt (w.setCell ⟨C, 1, none⟩ (.int .i64 b)) C v b := by
  unfold ChAt at *
  simp [World.setCell, Array.getElem?_modify, h]
end
/-- The numbers by which it chooses: a slice below block C that reads as ints. -/
def NRow (w : World) (C : Nat) (v : Value) : Prop :=
  (∃ p cap, v = .slice p 0 cap) ∨ ∃ b o n cap, v = .slice (some ⟨b, o, none⟩) n cap ∧ n ≤ 2147483647 ∧ b < C ∧ ∀ k, k < n → ∃ x : Int, -9223372036854775808 ≤ x ∧ x ≤ 9223372036854775807 ∧ w.cell? ⟨b, o + k, none⟩ = some (.int .i64 x)
theorem NRow.beside {w w' : World} {C B : Nat} {v : Value} (h : NRow w C v) (hb : Beside B C w w') (hB : C ≤ B) : NRow w' C v := by
  rcases h with h | ⟨b, o, n, cap, e, hn, hbc, hr⟩
  · exact .inl h
  · refine .inr ⟨b, o, n, cap, e, hn, hbc, fun k hk => ?_⟩
    obtain ⟨x, h0, h1, hx⟩ := hr k hk
    exact ⟨x, h0, h1, (World.cell?_of_block (hb.block b (by omega) (by omega))).trans hx⟩
def OfPost (C : Nat) (v : Value) (a n : Nat) (w : World) (e : Ending) (w' : World) : Prop :=
  ∃ k a', e = .returned (.int .i64 (k : Nat)) ∧ (k < n ∨ k = 0) ∧ a' ≤ a + 1 ∧ ChAt w' C v a' ∧ Beside w.heap.size C w w'
set_option maxHeartbeats 1000000 in
theorem of_any (C : Nat) (v : Value) (a n : Nat) (m : Int) (hm : m = n) (w : World) (h : ChAt w C v a) (hN : NRow w C v) (ha : a ≤ 4611686018427387904) (hn : n ≤ 1000) (hn2 : 2 ≤ n) :
    Calls Tryd.prog 30 #[.pointer (some ⟨C, 0, none⟩), .int .i64 m] w (OfPost C v a n w) := by
  subst hm
  have c0 := h.cell0
  have c1 := h.cell1
  have f1 := h.free 1
  have hn2' : (2 : Int) ≤ (n : Int) := by omega
  have H := Lib.hid h
  clear h
  rcases hN with ⟨p0, cap0, rfl⟩ | ⟨b, o, l, cap, rfl, hl, hbc, hr⟩
  · go_enter Tryd.func30, Tryd.ntmps30
    go_wp2
    go_ret
    exact ⟨0, a, rfl, .inr rfl, by omega, H.out, Beside.refl _ _ _⟩
  · by_cases hl0 : l = 0
    · subst hl0
      go_enter Tryd.func30, Tryd.ntmps30
      go_wp2
      go_ret
      exact ⟨0, a, rfl, .inr rfl, by omega, H.out, Beside.refl _ _ _⟩
    · have g0 : ((l : Int) == 0) = false := by simpa using (by omega : ¬ (l : Int) = 0)
      obtain ⟨q, hq⟩ : ∃ q, a % l = q := ⟨_, rfl⟩
      have hql : q < l := by rw [← hq]; exact Nat.mod_lt _ (by omega)
      obtain ⟨x, hx0, hx1, hx⟩ := hr q hql
      have e1 : ((a : Int).tmod (l : Int)) = (q : Int) := by rw [← hq]; exact (Int.ofNat_tmod a l).symm
      have p1 : (q : Int) < (l : Int) := by omega
      obtain ⟨r, e2⟩ : ∃ r, x.tmod (n : Int) = r := ⟨_, rfl⟩
      have r1 : r < (n : Int) := by rw [← e2]; exact Int.tmod_lt_of_pos _ (by omega)
      have r2 : -(n : Int) < r := by
        rw [← e2]
        have h1 := Int.tmod_lt_of_pos (-x) (b := (n : Int)) (by omega)
        rw [Int.neg_tmod] at h1
        omega
      have gn : ((n : Int) == 0) = false := by simpa using (by omega : ¬ (n : Int) = 0)
      clear hr hq hx0 hx1
      by_cases hneg : r < 0
      · obtain ⟨p, hp⟩ : ∃ p : Nat, r + (n : Int) = (p : Int) := ⟨(r + n).toNat, by omega⟩
        have w1 : IntKind.i64.wrap (r + (n : Int)) = (p : Int) := by rw [hp]; exact IntWalk.i64_in _ (by omega)
        go_enter Tryd.func30, Tryd.ntmps30
        go_wp2
        go_quiet (fail)
        go_wp2
        go_ret
        refine ⟨p, a + 1, by rw [← hp]; rfl, .inl (by omega), Nat.le_refl _, ?_, ?_⟩
        · exact H.out.set1 (a + 1)
        · exact ((Beside.refl w.heap.size C w).drewN _).setCell (p := ⟨C, 1, none⟩) (.inl rfl) _
      · obtain ⟨p, hp⟩ : ∃ p : Nat, r = (p : Int) := ⟨r.toNat, by omega⟩
        subst hp
        have hnn : (0 : Int) ≤ (p : Int) := by omega
        go_enter Tryd.func30, Tryd.ntmps30
        go_wp2
        go_quiet (fail)
        go_wp2
        go_ret
        refine ⟨p, a + 1, rfl, .inl (by omega), Nat.le_refl _, ?_, ?_⟩
        · exact H.out.set1 (a + 1)
        · exact ((Beside.refl w.heap.size C w).drewN _).setCell (p := ⟨C, 1, none⟩) (.inl rfl) _
end Go.Proofs.YtolgapijpejpoaaDoor
