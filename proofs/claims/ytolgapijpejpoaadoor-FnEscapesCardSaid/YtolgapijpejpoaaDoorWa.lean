/- Go's tracker of lines: it scans to a place. -/
import Derived.Test.YtolgapijpejpoaaDoorHc
namespace Go.Proofs.YtolgapijpejpoaaDoor
open Go.RowKit Go.Lib

/-- The tracker within Go's lexer: its text, its place, line, the line's start and end. -/
def TrAt (w : World) (X : Nat) (s : ByteArray) (o ln ls le : Nat) (he : Bool) : Prop :=
  ∃ cs, GoLex w X cs ∧ cs[40]? = some (.string s) ∧ cs[41]? = some (.string ⟨#[]⟩) ∧ cs[42]? = some (.string ⟨#[]⟩) ∧ cs[43]? = some (.int .i32 (o : Int)) ∧ cs[44]? = some (.int .i32 (ln : Int)) ∧ cs[45]? = some (.int .i32 (ls : Int)) ∧
    cs[46]? = some (.int .i32 (le : Int)) ∧ cs[47]? = some (.bool true) ∧ cs[48]? = some (.bool he) ∧ cs[49]? = some (.bool true)
section
variable {w w' : World} {X : Nat} {s : ByteArray} {o ln ls le : Nat} {he : Bool}
theorem TrAt.lt (h : TrAt w X s o ln ls le he) : X < w.heap.size := by obtain ⟨cs, g, _⟩ := h; exact g.lt
theorem TrAt.below {B : Nat} (h : TrAt w X s o ln ls le he) (hb : Below B w w') (hB : X < B) : TrAt w' X s o ln ls le he := by
  obtain ⟨cs, g, h⟩ := h
  exact ⟨cs, g.below hb hB, h⟩
theorem TrAt.drewN (h : TrAt w X s o ln ls le he) (n : Nat) : TrAt (w.drewN n) X s o ln ls le he := h
theorem TrAt.cells (h : TrAt w X s o ln ls le he) : w.cell? ⟨X, 40, none⟩ = some (.string s) ∧ w.cell? ⟨X, 41, none⟩ = some (.string ⟨#[]⟩) ∧ w.cell? ⟨X, 42, none⟩ = some (.string ⟨#[]⟩) ∧ w.cell? ⟨X, 43, none⟩ = some (.int .i32 (o : Int)) ∧ w.cell? ⟨X, 44, none⟩ = some (.int .i32 (ln : Int)) ∧
    w.cell? ⟨X, 45, none⟩ = some (.int .i32 (ls : Int)) ∧ w.cell? ⟨X, 46, none⟩ = some (.int .i32 (le : Int)) ∧ w.cell? ⟨X, 47, none⟩ = some (.bool true) ∧ w.cell? ⟨X, 48, none⟩ = some (.bool he) ∧ w.cell? ⟨X, 49, none⟩ = some (.bool true) := by
  obtain ⟨cs, g, h0, h1, h2, h3, h4, h5, h6, h7, h8, h9⟩ := h
  exact ⟨g.cell h0, g.cell h1, g.cell h2, g.cell h3, g.cell h4, g.cell h5, g.cell h6, g.cell h7, g.cell h8, g.cell h9⟩
theorem TrAt.free (h : TrAt w X s o ln ls le he) : ∀ k, w.frozen? ⟨X, k, none⟩ = false := by obtain ⟨cs, g, _⟩ := h; exact g.free
theorem set_eq {cs : Array Value} {k : Nat} {v : Value} (hz : cs.size = 85) (hk : k < 85) : (cs.setIfInBounds k v)[k]? = some v := by rw [Array.getElem?_setIfInBounds, if_pos rfl, if_pos (by omega)]
theorem set_ne {cs : Array Value} {k j : Nat} {v u : Value} (h : cs[j]? = some u) (hk : k ≠ j) : (cs.setIfInBounds k v)[j]? = some u := by rw [Array.getElem?_setIfInBounds_ne hk]; exact h
theorem TrAt.set43 (h : TrAt w X s o ln ls le he) (x : Nat) : TrAt (w.setCell ⟨X, 43, none⟩ (.int .i32 (x : Int))) X s x ln ls le he := by
  obtain ⟨cs, g, h0, h1, h2, h3, h4, h5, h6, h7, h8, h9⟩ := h
  exact ⟨_, g.set 43 _, set_ne h0 (by omega), set_ne h1 (by omega), set_ne h2 (by omega), set_eq g.2 (by omega), set_ne h4 (by omega), set_ne h5 (by omega), set_ne h6 (by omega), set_ne h7 (by omega), set_ne h8 (by omega), set_ne h9 (by omega)⟩
theorem TrAt.set44 (h : TrAt w X s o ln ls le he) (x : Nat) : TrAt (w.setCell ⟨X, 44, none⟩ (.int .i32 (x : Int))) X s o x ls le he := by
  obtain ⟨cs, g, h0, h1, h2, h3, h4, h5, h6, h7, h8, h9⟩ := h
  exact ⟨_, g.set 44 _, set_ne h0 (by omega), set_ne h1 (by omega), set_ne h2 (by omega), set_ne h3 (by omega), set_eq g.2 (by omega), set_ne h5 (by omega), set_ne h6 (by omega), set_ne h7 (by omega), set_ne h8 (by omega), set_ne h9 (by omega)⟩
theorem TrAt.set45 (h : TrAt w X s o ln ls le he) (x : Nat) : TrAt (w.setCell ⟨X, 45, none⟩ (.int .i32 (x : Int))) X s o ln x le he := by
  obtain ⟨cs, g, h0, h1, h2, h3, h4, h5, h6, h7, h8, h9⟩ := h
  exact ⟨_, g.set 45 _, set_ne h0 (by omega), set_ne h1 (by omega), set_ne h2 (by omega), set_ne h3 (by omega), set_ne h4 (by omega), set_eq g.2 (by omega), set_ne h6 (by omega), set_ne h7 (by omega), set_ne h8 (by omega), set_ne h9 (by omega)⟩
theorem TrAt.set46 (h : TrAt w X s o ln ls le he) (x : Nat) : TrAt (w.setCell ⟨X, 46, none⟩ (.int .i32 (x : Int))) X s o ln ls x he := by
  obtain ⟨cs, g, h0, h1, h2, h3, h4, h5, h6, h7, h8, h9⟩ := h
  exact ⟨_, g.set 46 _, set_ne h0 (by omega), set_ne h1 (by omega), set_ne h2 (by omega), set_ne h3 (by omega), set_ne h4 (by omega), set_ne h5 (by omega), set_eq g.2 (by omega), set_ne h7 (by omega), set_ne h8 (by omega), set_ne h9 (by omega)⟩
theorem TrAt.set47 (h : TrAt w X s o ln ls le he) : TrAt (w.setCell ⟨X, 47, none⟩ (.bool true)) X s o ln ls le he := by
  obtain ⟨cs, g, h0, h1, h2, h3, h4, h5, h6, h7, h8, h9⟩ := h
  exact ⟨_, g.set 47 _, set_ne h0 (by omega), set_ne h1 (by omega), set_ne h2 (by omega), set_ne h3 (by omega), set_ne h4 (by omega), set_ne h5 (by omega), set_ne h6 (by omega), set_eq g.2 (by omega), set_ne h8 (by omega), set_ne h9 (by omega)⟩
theorem TrAt.set48 (h : TrAt w X s o ln ls le he) (b : Bool) : TrAt (w.setCell ⟨X, 48, none⟩ (.bool b)) X s o ln ls le b := by
  obtain ⟨cs, g, h0, h1, h2, h3, h4, h5, h6, h7, h8, h9⟩ := h
  exact ⟨_, g.set 48 _, set_ne h0 (by omega), set_ne h1 (by omega), set_ne h2 (by omega), set_ne h3 (by omega), set_ne h4 (by omega), set_ne h5 (by omega), set_ne h6 (by omega), set_ne h7 (by omega), set_eq g.2 (by omega), set_ne h9 (by omega)⟩
end
end Go.Proofs.YtolgapijpejpoaaDoor
