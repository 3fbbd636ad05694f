/- What the walk of Go's decoder of escapes speaks of where the text is wrong. -/
import Derived.Test.YtolgapijpejpoaaDoorTk
namespace Go.Proofs.YtolgapijpejpoaaDoor
open Go.RowKit Go.Lib
/-- The panic of Go's lexer. -/
def lpChain : List PanicEntry := [{ v := .iface 118 (.agg #[]), recovered := false }]
/-- Nothing has turned but the blocks of T. -/
structure Off (T : Nat → Prop) (w w' : World) : Prop where
  os : w'.os = w.os
  tape : w'.tape = w.tape
  output : w'.output = w.output
  size : w.heap.size ≤ w'.heap.size
  block : ∀ k, k < w.heap.size → ¬ T k → w'.heap[k]? = w.heap[k]?
def OffAny (_ : Nat → Prop) : Prop := True
theorem Off.of {T : Nat → Prop} {w w' : World} (_ : OffAny T) (h : Below w.heap.size w w') : Off T w w' := ⟨h.os, h.tape, h.output, h.size, fun k hk _ => h.block k hk⟩
theorem Off.trans {T : Nat → Prop} {a b c : World} (h : Off T a b) (k : Off T b c) : Off T a c := ⟨k.os.trans h.os, k.tape.trans h.tape, k.output.trans h.output, Nat.le_trans h.size k.size, fun i hi ht => (k.block i (Nat.lt_of_lt_of_le hi h.size) ht).trans (h.block i hi ht)⟩
theorem Off.below {T : Nat → Prop} {B : Nat} {w w' : World} (h : Off T w w') (hB : B ≤ w.heap.size) (ht : ∀ k, k < B → ¬ T k) : Below B w w' := ⟨h.os, h.tape, h.output, h.size, fun k hk => h.block k (by omega) (ht k hk)⟩
/-- The ways out where the text is wrong: nothing has turned but the blocks of B0. -/
structure WQ (B0 : Nat → Prop) (w : World) (Q : Exit → Act → World → Prop) : Prop where
  ret : ∀ f' w' k, f' 8 = .slice none 0 0 → f' 9 = .bool false → f' 10 = .int .i64 k → Off B0 w w' → Q .ret (mk 567 f') w'
  pan : ∀ f' w', Off B0 w w' → Q (.panic lpChain) (mk 567 f') w'
section
variable {B0 : Nat → Prop} {w : World} {Q : Exit → Act → World → Prop}
theorem WQ.thn (h : WQ B0 w Q) {K : Act → World → Prop} : WQ B0 w (Exit.then K Q) := ⟨fun f' w' k h8 h9 h10 hb => to_thenR (h.ret f' w' k h8 h9 h10 hb), fun f' w' hb => h.pan f' w' hb⟩
theorem WQ.blk (h : WQ B0 w Q) {k : Nat} : WQ B0 w (Exit.inBlock k Q) := ⟨fun f' w' k h8 h9 h10 hb => to_blockR (h.ret f' w' k h8 h9 h10 hb), fun f' w' hb => h.pan f' w' hb⟩
theorem WQ.scp (h : WQ B0 w Q) : WQ B0 w (Exit.noGoto Q) := ⟨fun f' w' k h8 h9 h10 hb => to_scopeR (h.ret f' w' k h8 h9 h10 hb), fun f' w' hb => h.pan f' w' hb⟩
end
theorem nodigit {s : ByteArray} {i c n : Nat} (hrn : rn s i = (c, n)) (h : hexv (bt s i) = none) : ¬ (48 ≤ c ∧ c ≤ 57) ∧ ¬ (97 ≤ c ∧ c ≤ 102) ∧ ¬ (65 ≤ c ∧ c ≤ 70) := by
  by_cases hc : c < 128
  · have hb := (rune_byte hrn hc).1
    rw [hb] at h
    unfold hexv at h
    refine ⟨fun k => ?_, fun k => ?_, fun k => ?_⟩
    · rw [if_pos k] at h; cases h
    · rw [if_neg (by omega), if_pos k] at h; cases h
    · rw [if_neg (by omega), if_neg (by omega), if_pos k] at h; cases h
  · omega
theorem escW_case {s : ByteArray} {i : Nat} (h : escF s i = .wrong) (hlt : i < s.size) : ∃ c, rn s i = (c, 1) ∧ ((c = 120 ∧ digitsF s 2 (i + 1) 0 = none) ∨ (c = 117 ∧ pointF s (i + 1) = none)) := by
  obtain ⟨c, n, hrn⟩ : ∃ c n, rn s i = (c, n) := ⟨_, _, rfl⟩
  unfold escF at h
  rw [if_neg (by omega), hrn] at h
  simp only at h
  cases hx : simpleF c with
  | some x => rw [hx] at h; cases h
  | none =>
    rw [hx] at h
    simp only at h
    by_cases h1 : c = 13 ∧ bt s (i + n) = 10
    · rw [if_pos h1] at h; cases h
    rw [if_neg h1] at h
    by_cases h2 : isLn c = true
    · rw [if_pos h2] at h; cases h
    rw [if_neg h2] at h
    by_cases h3 : c = 48 ∧ ¬ (48 ≤ bt s (i + n) ∧ bt s (i + n) ≤ 57)
    · rw [if_pos h3] at h; cases h
    rw [if_neg h3] at h
    by_cases h4 : 48 ≤ c ∧ c ≤ 57
    · rw [if_pos h4] at h; cases h
    rw [if_neg h4] at h
    by_cases h5 : c = 120
    · rw [if_pos h5] at h
      have hn := (rune_byte hrn (by omega)).2
      obtain rfl : n = 1 := by omega
      refine ⟨c, hrn, .inl ⟨h5, ?_⟩⟩
      cases hd : digitsF s 2 (i + 1) 0 with
      | none => rfl
      | some q => rw [hd] at h; cases h
    rw [if_neg h5] at h
    by_cases h6 : c = 117
    · rw [if_pos h6] at h
      have hn := (rune_byte hrn (by omega)).2
      obtain rfl : n = 1 := by omega
      refine ⟨c, hrn, .inr ⟨h6, ?_⟩⟩
      cases hd : pointF s (i + 1) with
      | none => rfl
      | some q => rw [hd] at h; cases h
    rw [if_neg h6] at h
    cases h
theorem nobrace {s : ByteArray} {i c n : Nat} (hrn : rn s i = (c, n)) (h : ¬ bt s i = 125) : c ≠ 125 := by
  intro hc
  exact h ((rune_byte hrn (by omega)).1.trans hc)
end Go.Proofs.YtolgapijpejpoaaDoor
