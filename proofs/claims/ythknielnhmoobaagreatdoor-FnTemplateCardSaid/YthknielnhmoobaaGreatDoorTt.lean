/- What the walk of Go's decoder of escapes speaks of. -/
import Derived.Test.YthknielnhmoobaaGreatDoorFs
namespace Go.Proofs.YthknielnhmoobaaGreatDoor
open Go.RowKit Go.Lib

/-- What holds all along. -/
structure TEnv (X st : Nat) (s : ByteArray) (w : World) (B : Nat) : Prop where
  tabs : Tabs B w
  hB : B ≤ w.heap.size
  hs : s.size ≤ 1099511627776
  hst : st ≤ 2305843009213693951
  json : w.cell? ⟨X, 68, none⟩ = some (.int .u8 2)
  hX : X < w.heap.size
/-- Where Go's decoder stands: at place i, units u decoded. -/
structure At (X st : Nat) (s : ByteArray) (rep : Bool) (w : World) (f : Nat → Value) (wr : World) (v : Value) (u : List Nat) (i : Nat) : Prop where
  h0 : f 0 = .pointer (some ⟨X, 0, none⟩)
  h1 : f 1 = .int .i64 st
  h2 : f 2 = .string s
  h3 : f 3 = .bool rep
  h11 : f 11 = v
  h12 : f 12 = .int .i64 i
  hi : i ≤ s.size
  hn : v ≠ .slice none 0 0
  row : Row wr w.heap.size v u
  below : Below w.heap.size w wr
section
variable {X st : Nat} {s : ByteArray} {rep : Bool} {w : World} {f : Nat → Value} {wr w2 : World} {v : Value} {u : List Nat} {i B : Nat}
theorem At.tabs (h : At X st s rep w f wr v u i) (e : TEnv X st s w B) : Tabs B wr := e.tabs.below h.below e.hB
theorem At.json (h : At X st s rep w f wr v u i) (e : TEnv X st s w B) : wr.cell? ⟨X, 68, none⟩ = some (.int .u8 2) := by
  have := e.json
  rw [← h.below.cell (p := ⟨X, 68, none⟩) e.hX] at this
  exact this
theorem At.size (h : At X st s rep w f wr v u i) : w.heap.size ≤ wr.heap.size := h.below.size
theorem At.world (h : At X st s rep w f wr v u i) (hb : Below wr.heap.size wr w2) : At X st s rep w f w2 v u i :=
  ⟨h.h0, h.h1, h.h2, h.h3, h.h11, h.h12, h.hi, h.hn, h.row.below hb (Nat.le_refl _), h.below.trans (hb.mono h.size)⟩
theorem At.keep {p : Nat → Bool} {g : Nat → Value} (h : At X st s rep w f wr v u i) (k : Keep p f g) (h0 : p 0 = false) (h1 : p 1 = false) (h2 : p 2 = false) (h3 : p 3 = false) (h11 : p 11 = false) (h12 : p 12 = false) : At X st s rep w g wr v u i :=
  ⟨(k 0 h0).trans h.h0, (k 1 h1).trans h.h1, (k 2 h2).trans h.h2, (k 3 h3).trans h.h3, (k 11 h11).trans h.h11, (k 12 h12).trans h.h12, h.hi, h.hn, h.row, h.below⟩
end
/-- The ways on behind an escape. -/
structure EscOut (X st : Nat) (s : ByteArray) (rep : Bool) (w : World) (u a : List Nat) (j : Nat) (Q : Exit → Act → World → Prop) : Prop where
  go : ∀ f' w' v', At X st s rep w f' w' v' (u ++ a) j → Q (.exit 1) (mk 567 f') w'
  mid : ∀ f' w' v' (c' : Nat), At X st s rep w f' w' v' u j → f' 13 = .int .i32 c' → c' ≤ 1114111 → a = unitsOf c' → Q .normal (mk 567 f') w'
theorem EscOut.block {X st : Nat} {s : ByteArray} {rep : Bool} {w : World} {u a : List Nat} {j : Nat} {Q : Exit → Act → World → Prop} (h : EscOut X st s rep w u a j Q) {k : Nat} (hk : Nat.beq 1 k = false) : EscOut X st s rep w u a j (Exit.inBlock k Q) :=
  ⟨fun f' w' v' ha => to_blockY hk (h.go f' w' v' ha), fun f' w' v' c' ha hc hl hu => to_blockN (h.mid f' w' v' c' ha hc hl hu)⟩
theorem w64' {x r : Int} (h : x = r) (h0 : -9223372036854775808 ≤ r) (h1 : r < 9223372036854775808) : IntKind.i64.wrap x = r := by subst h; exact w64 _ h0 h1
theorem w32' {x r : Int} (h : x = r) (h0 : -2147483648 ≤ r) (h1 : r < 2147483648) : IntKind.i32.wrap x = r := by subst h; exact w32 _ h0 h1
theorem wu16' {x r : Int} (h : x = r) (h0 : 0 ≤ r) (h1 : r < 65536) : IntKind.u16.wrap x = r := by subst h; exact wu16 _ h0 h1
theorem or16n {v d : Nat} (hv : v ≤ 134217726) (hd : d < 16) : bits .or .i32 ((v * 16 : Nat) : Int) ((d : Nat) : Int) = ((16 * v + d : Nat) : Int) := by
  rw [show ((v * 16 : Nat) : Int) = (v : Int) * 16 by omega, i32_or16 v d hv hd]
  omega
theorem hexv_cases {c d : Nat} (h : hexv c = some d) : (48 ≤ c ∧ c ≤ 57 ∧ d + 48 = c) ∨ (97 ≤ c ∧ c ≤ 102 ∧ d + 87 = c) ∨ (65 ≤ c ∧ c ≤ 70 ∧ d + 55 = c) := by
  unfold hexv at h
  repeat' split at h
  all_goals first | (cases h; omega) | cases h
section
variable {s : ByteArray} {i c n j : Nat} {a : List Nat}
theorem escR_simple {x : Nat} (h : escF s i = .right a j) (hr : rn s i = (c, n)) (hx : simpleF c = some x) : a = [x] ∧ j = i + n := by
  unfold escF at h
  rw [hr] at h
  simp only [hx] at h
  split at h
  · cases h
  · cases h; exact ⟨rfl, rfl⟩
theorem escR_lt (h : escF s i = .right a j) : i < s.size := by
  unfold escF at h
  split at h
  · cases h
  · omega
theorem escR_rest (h : escF s i = .right a j) (hr : rn s i = (c, n)) (hx : simpleF c = none) :
    (if c = 13 ∧ bt s (i + n) = 10 then ER.right [] (i + n + 1) else if isLn c then .right [] (i + n)
      else if c = 48 ∧ ¬ (48 ≤ bt s (i + n) ∧ bt s (i + n) ≤ 57) then .right [0] (i + n) else if 48 ≤ c ∧ c ≤ 57 then .opn
      else if c = 120 then ofPoint (digitsF s 2 (i + n) 0) else if c = 117 then ofPoint (pointF s (i + n)) else .right (unitsOf c) (i + n)) = .right a j := by
  have hlt := escR_lt h
  unfold escF at h
  rw [hr] at h
  simp only [hx] at h
  rw [if_neg (by omega)] at h
  exact h
theorem ofPoint_right {o : Option (Nat × Nat)} (h : ofPoint o = .right a j) : ∃ p, o = some (p, j) ∧ a = unitsOf p := by
  cases o with
  | none => cases h
  | some x => obtain ⟨p, k⟩ := x; cases h; exact ⟨p, rfl, rfl⟩
end
/-- What a right escape is, by the character behind the backslash; i: the place behind that. -/
structure EscCase (s : ByteArray) (i c : Nat) (a : List Nat) (j : Nat) : Prop where
  simple : ∀ x, simpleF c = some x → a = [x] ∧ j = i
  digit : ¬ (49 ≤ c ∧ c ≤ 57)
  nul : c = 48 → ¬ (48 ≤ bt s i ∧ bt s i ≤ 57) ∧ a = [0] ∧ j = i
  cr : c = 13 → bt s i = 10 → a = [] ∧ j = i + 1
  cr2 : c = 13 → bt s i ≠ 10 → a = [] ∧ j = i
  ln : c = 10 ∨ c = 8232 ∨ c = 8233 → a = [] ∧ j = i
  x : c = 120 → ∃ p, digitsF s 2 i 0 = some (p, j) ∧ a = unitsOf p
  u : c = 117 → ∃ p, pointF s i = some (p, j) ∧ a = unitsOf p
  rest : simpleF c = none → c ≠ 13 → c ≠ 10 → c ≠ 8232 → c ≠ 8233 → c < 48 ∨ 57 < c → c ≠ 120 → c ≠ 117 → a = unitsOf c ∧ j = i
theorem isLn_false {c : Nat} (h : c ≠ 10) (h1 : c ≠ 13) (h2 : c ≠ 8232) (h3 : c ≠ 8233) : isLn c = false := by simp [isLn]; omega
theorem isLn_true {c : Nat} (h : c = 10 ∨ c = 13 ∨ c = 8232 ∨ c = 8233) : isLn c = true := by simp [isLn]; omega
theorem simpleF_no {c : Nat} (h : c ≠ 98) (h1 : c ≠ 102) (h2 : c ≠ 110) (h3 : c ≠ 114) (h4 : c ≠ 116) (h5 : c ≠ 118) : simpleF c = none := by
  unfold simpleF
  rw [if_neg h, if_neg h1, if_neg h2, if_neg h3, if_neg h4, if_neg h5]
theorem right_inj {a b : List Nat} {j k : Nat} (h : ER.right a j = .right b k) : b = a ∧ k = j := by cases h; exact ⟨rfl, rfl⟩
theorem escCase {s : ByteArray} {i i1 c n j : Nat} {a : List Nat} (h : escF s i1 = .right a j) (hr : rn s i1 = (c, n)) (hi : i = i1 + n) : EscCase s i c a j := by
  subst hi
  have R : simpleF c = none → _ := fun hx => escR_rest h hr hx
  refine ⟨fun x hx => escR_simple h hr hx, ?_, ?_, ?_, ?_, ?_, ?_, ?_, ?_⟩
  · intro hc
    have r := R (simpleF_no (by omega) (by omega) (by omega) (by omega) (by omega) (by omega))
    rw [if_neg (by omega), isLn_false (by omega) (by omega) (by omega) (by omega), if_neg (by decide), if_neg (by omega), if_pos (by omega)] at r
    cases r
  · intro hc
    have r := R (simpleF_no (by omega) (by omega) (by omega) (by omega) (by omega) (by omega))
    rw [if_neg (by omega), isLn_false (by omega) (by omega) (by omega) (by omega), if_neg (by decide)] at r
    by_cases hb : 48 ≤ bt s (i1 + n) ∧ bt s (i1 + n) ≤ 57
    · rw [if_neg (fun k => k.2 hb), if_pos (by omega)] at r; cases r
    · rw [if_pos ⟨hc, hb⟩] at r; exact ⟨hb, right_inj r⟩
  · intro hc hb
    have r := R (simpleF_no (by omega) (by omega) (by omega) (by omega) (by omega) (by omega))
    rw [if_pos ⟨hc, hb⟩] at r; exact right_inj r
  · intro hc hb
    have r := R (simpleF_no (by omega) (by omega) (by omega) (by omega) (by omega) (by omega))
    rw [if_neg (fun k => hb k.2), if_pos (isLn_true (by omega))] at r; exact right_inj r
  · intro hc
    have r := R (simpleF_no (by omega) (by omega) (by omega) (by omega) (by omega) (by omega))
    rw [if_neg (by omega), if_pos (isLn_true (by omega))] at r; exact right_inj r
  · intro hc
    have r := R (simpleF_no (by omega) (by omega) (by omega) (by omega) (by omega) (by omega))
    rw [if_neg (by omega), isLn_false (by omega) (by omega) (by omega) (by omega), if_neg (by decide), if_neg (by omega), if_neg (by omega), if_pos hc] at r
    exact ofPoint_right r
  · intro hc
    have r := R (simpleF_no (by omega) (by omega) (by omega) (by omega) (by omega) (by omega))
    rw [if_neg (by omega), isLn_false (by omega) (by omega) (by omega) (by omega), if_neg (by decide), if_neg (by omega), if_neg (by omega), if_neg (by omega), if_pos hc] at r
    exact ofPoint_right r
  · intro hx h13 h10 h28 h29 hd h120 h117
    have r := R hx
    rw [if_neg (fun k => h13 k.1), isLn_false h10 h13 h28 h29, if_neg (by decide), if_neg (by omega), if_neg (by omega), if_neg h120, if_neg h117] at r
    exact right_inj r
noncomputable def B29 : Code := (Tryz.f32.body).getD .skip
end Go.Proofs.YthknielnhmoobaaGreatDoor
