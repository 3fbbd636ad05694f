/- Go's lexer made over a text: its first step. -/
import Derived.Test.YthknielnhmoobaaGreatDoorSpec
namespace Go.Proofs.YthknielnhmoobaaGreatDoor
open Go.RowKit Go.Lib

/-- GO's LEXER: block X, its cells. -/
def GoLex (w : World) (X : Nat) (cs : Array Value) : Prop := w.heap[X]? = some (.cells cs 89 (0, 0)) ∧ cs.size = 85
section
variable {w w' : World} {X : Nat} {cs : Array Value}
theorem GoLex.lt (h : GoLex w X cs) : X < w.heap.size := (Array.getElem?_eq_some_iff.1 h.1).1
theorem GoLex.cell (h : GoLex w X cs) {k : Nat} {v : Value} (hv : cs[k]? = some v) : w.cell? ⟨X, k, none⟩ = some v := by simp [World.cell?, h.1, hv]
theorem GoLex.free (h : GoLex w X cs) (o : Nat) : w.frozen? ⟨X, o, none⟩ = false := by simp [World.frozen?, h.1]
theorem GoLex.of_block (h : GoLex w X cs) (e : w'.heap[X]? = w.heap[X]?) : GoLex w' X cs := ⟨by rw [e]; exact h.1, h.2⟩
theorem GoLex.below {B : Nat} (h : GoLex w X cs) (hb : Below B w w') (hB : X < B) : GoLex w' X cs := h.of_block (hb.block X hB)
theorem GoLex.drewN (h : GoLex w X cs) (n : Nat) : GoLex (w.drewN n) X cs := h
theorem GoLex.set (h : GoLex w X cs) (k : Nat) (v : Value) : GoLex (w.setCell ⟨X, k, none⟩ v) X (cs.setIfInBounds k v) := by
  refine ⟨?_, by simp [h.2]⟩
  have h1 := h.1
  simp [World.setCell, Array.getElem?_modify, h1]
theorem GoLex.alloc (h : GoLex w X cs) (o : Obj) : GoLex (w.alloc o) X cs := h.of_block (Below.heap_alloc _ _ _ h.lt)
theorem GoLex.set_other (h : GoLex w X cs) (a : Addr) (v : Value) (ha : X ≠ a.block) : GoLex (w.setCell a v) X cs := h.of_block (Below.heap_setCell _ _ _ _ ha)
end

def StepPost (X : Nat) (cs : Array Value) (w : World) (e : Ending) (w' : World) : Prop :=
  e = .returned (.tuple #[]) ∧ (∃ cs', GoLex w' X cs' ∧ ∀ k, k ≠ 52 → k ≠ 54 → k ≠ 55 → k ≠ 66 → cs'[k]? = cs[k]?) ∧ Beside w.heap.size X w w'
theorem step3 {X : Nat} {cs : Array Value} {w w1 : World} (H1 : GoLex w1 X cs) (B1 : Below w.heap.size w w1) (a b c : Value) : StepPost X cs w (.returned (.tuple #[])) (((w1.setCell ⟨X, 66, none⟩ a).setCell ⟨X, 54, none⟩ b).setCell ⟨X, 52, none⟩ c) := by
  have h1 := H1.set 66 a
  have h2 := h1.set 54 b
  have h3 := h2.set 52 c
  have b0 : Beside w.heap.size X w w1 := Beside.of_below B1
  have b1 := b0.setCell (p := ⟨X, 66, none⟩) (.inl rfl) a
  have b2 := b1.setCell (p := ⟨X, 54, none⟩) (.inl rfl) b
  have b3 := b2.setCell (p := ⟨X, 52, none⟩) (.inl rfl) c
  refine ⟨rfl, ⟨_, h3, fun k k1 k2 k3 k4 => ?_⟩, b3⟩
  rw [Array.getElem?_setIfInBounds_ne (Ne.symm k1), Array.getElem?_setIfInBounds_ne (Ne.symm k2), Array.getElem?_setIfInBounds_ne (Ne.symm k4)]
theorem step4 {X : Nat} {cs : Array Value} {w w1 : World} (H1 : GoLex w1 X cs) (B1 : Below w.heap.size w w1) (d a b c : Value) : StepPost X cs w (.returned (.tuple #[])) ((((w1.setCell ⟨X, 55, none⟩ d).setCell ⟨X, 66, none⟩ a).setCell ⟨X, 54, none⟩ b).setCell ⟨X, 52, none⟩ c) := by
  have h0 := H1.set 55 d
  have h1 := h0.set 66 a
  have h2 := h1.set 54 b
  have h3 := h2.set 52 c
  have b0 := (Beside.of_below (L := X) B1).setCell (p := ⟨X, 55, none⟩) (.inl rfl) d
  have b1 := b0.setCell (p := ⟨X, 66, none⟩) (.inl rfl) a
  have b2 := b1.setCell (p := ⟨X, 54, none⟩) (.inl rfl) b
  have b3 := b2.setCell (p := ⟨X, 52, none⟩) (.inl rfl) c
  refine ⟨rfl, ⟨_, h3, fun k k1 k2 k3 k4 => ?_⟩, b3⟩
  rw [Array.getElem?_setIfInBounds_ne (Ne.symm k1), Array.getElem?_setIfInBounds_ne (Ne.symm k2), Array.getElem?_setIfInBounds_ne (Ne.symm k4), Array.getElem?_setIfInBounds_ne (Ne.symm k3)]
set_option maxHeartbeats 1000000 in
theorem step_any (X : Nat) (cs : Array Value) (s : ByteArray) (i : Nat) (w : World) (h : GoLex w X cs) (h14 : cs[14]? = some (.string s)) (h52 : cs[52]? = some (.int .i64 (i : Int))) (h55 : cs[55]? = some (.int .i64 0)) (hi : i ≤ s.size) (hs : s.size ≤ 4611686018427387904)
    (hT : Lib.Utf8Tabs 0 1 w) : Calls Tryz.prog 30 #[.pointer (some ⟨X, 0, none⟩)] w (StepPost X cs w) := by
  have c14 := h.cell h14
  have c52 := h.cell h52
  have c55 := h.cell h55
  have hlt := h.lt
  obtain ⟨v54, h54⟩ : ∃ v, cs[54]? = some v := ⟨cs[54]'(by have := h.2; omega), by simp [h.2]⟩
  obtain ⟨v66, h66⟩ : ∃ v, cs[66]? = some v := ⟨cs[66]'(by have := h.2; omega), by simp [h.2]⟩
  obtain ⟨c, n, hcn⟩ : ∃ c n, rn s i = (c, n) := ⟨_, _, rfl⟩
  have hle := rn_le (s := s) (i := i) hi
  have hd := dec_any s i
  rw [hcn] at hle hd
  simp only at hle hd
  have H := Lib.hid h
  have HT := Lib.hid hT
  have H54 := Lib.hid h54
  have H66 := Lib.hid h66
  have HD := Lib.hid hd
  clear h hT h54 h66 hd hcn
  go_enter Tryz.func30, Tryz.ntmps30
  go_wp2
  go_region_with (go_at_call 33; refine (HD.out _ hi (by exact HT.out)).mono ?_; rintro e w1 ⟨rfl, hb⟩)
  all_goals
    have H1 : Hid (GoLex w1 X cs) := H.out.below hb.undrawn (by simpa using hlt)
    have d52 := H1.out.cell h52
    have d55 := H1.out.cell h55
    have d54 := H1.out.cell H54.out
    have d66 := H1.out.cell H66.out
    have fz := H1.out.free
    have B1 : Hid (Below w.heap.size w w1) := by have := hb.undrawn; exact ⟨this.1, this.2, this.3, this.4, this.5⟩
    clear hb c14 c52 c55
    by_cases hn : n = 0
    · subst hn
      go_wp2
      go_end0
      exact step3 H1.out B1.out _ _ _
    · have gn : ((n : Int) == 0) = false := by simpa using (by omega : ¬ (n : Int) = 0)
      by_cases hc : c = 10
      · subst hc
        go_wp2
        go_end0
        exact step4 H1.out B1.out _ _ _ _
      · have gc : ((c : Int) == 10) = false := by simpa using (by omega : ¬ (c : Int) = 10)
        go_wp2
        go_end0
        exact step3 H1.out B1.out _ _ _

end Go.Proofs.YthknielnhmoobaaGreatDoor
