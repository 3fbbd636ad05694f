/- More named steps; the appends to an owned row; a call of the decoder; the ways through the control. -/
import Derived.Test.YthknielnhmoobaaGreatDoorFr
import Derived.WalkMore
namespace Go.Proofs.YthknielnhmoobaaGreatDoor
open Go.RowKit Go.Lib

theorem Row.below {w w' : World} {base B : Nat} {v : Value} {xs : List Nat} (h : Row w base v xs) (hb : Below B w w') (hB : w.heap.size ≤ B) : Row w' base v xs := by
  refine World.ownsRow.kept h (row := none) ⟨hb.os, hb.tape, hb.output, hb.size, fun k hk _ => hb.block k (by omega)⟩ ?_
  cases v.ownBlock <;> simp
theorem and_high (c : Nat) (h0 : 65535 < c) (h1 : c ≤ 1114111) : bits .and .i32 (((c : Int) - 65536) / 1024) 1023 = ((c : Int) - 65536) / 1024 := by
  rw [i32_and1023 _ (by omega) (by omega)]; omega
theorem and_low (c : Nat) (h0 : 65535 < c) (h1 : c ≤ 1114111) : bits .and .i32 ((c : Int) - 65536) 1023 = ((c : Int) - 65536) % 1024 := i32_and1023 _ (by omega) (by omega)
theorem eqT {a b : Int} (h : a = b) : (a == b) = true := by simpa using h
theorem eqF {a b : Int} (h : a ≠ b) : (a == b) = false := by simpa using h
theorem neT {a b : Int} (h : a ≠ b) : (a != b) = true := by simpa using h
theorem neF {a b : Int} (h : a = b) : (a != b) = false := by simpa using h
theorem ltT {a b : Int} (h : a < b) : decide (a < b) = true := by simpa using h
theorem ltF {a b : Int} (h : ¬ a < b) : decide (a < b) = false := by simpa using h
theorem leT {a b : Int} (h : a ≤ b) : decide (a ≤ b) = true := by simpa using h
theorem leF {a b : Int} (h : ¬ a ≤ b) : decide (a ≤ b) = false := by simpa using h
theorem w64 (x : Int) (h0 : -9223372036854775808 ≤ x) (h1 : x < 9223372036854775808) : IntKind.i64.wrap x = x := IntWalk.i64_in _ (by omega)
theorem w32 (x : Int) (h0 : -2147483648 ≤ x) (h1 : x < 2147483648) : IntKind.i32.wrap x = x := IntWalk.i32_in _ (by omega)
theorem wu16 (x : Int) (h0 : 0 ≤ x) (h1 : x < 65536) : IntKind.u16.wrap x = x := IntWalk.u16_in _ (by omega)

/-- What stays as a walk goes on: all slots but those of p. -/
def Keep (p : Nat → Bool) (f g : Nat → Value) : Prop := ∀ k, p k = false → g k = f k
theorem Keep.refl (p : Nat → Bool) (f : Nat → Value) : Keep p f f := fun _ _ => rfl
theorem Keep.upd {p : Nat → Bool} {f g : Nat → Value} (h : Keep p f g) {d : Nat} {v : Value} (hd : p d = true) : Keep p f (upd g d v) := by
  intro k hk
  have e : Nat.beq k d = false := by
    cases e : Nat.beq k d with
    | false => rfl
    | true => rw [Nat.eq_of_beq_eq_true e, hd] at hk; cases hk
  unfold Go.Proofs.YthknielnhmoobaaGreatDoor.upd
  rw [e]
  exact h k hk
theorem Keep.trans {p : Nat → Bool} {f g k : Nat → Value} (h : Keep p f g) (h' : Keep p g k) : Keep p f k := fun j hj => (h' j hj).trans (h j hj)

section
variable {n : Nat} {f : Nat → Value} {w w' : World} {Q : Exit → Act → World → Prop} {ops : Array Oper} {rest : List Oper} {d : Nat} {pos : String} {ty : TypeId} {af : Array Edge} {gd : Option (Nat × Bool)} {v : Value} {x y z : Operand} {a : Act}

theorem fr_end (h : Q .normal (mk n f) w) : wpList Tryz.prog ops Q [] (mk n f) w := h
theorem to_then {K : Act → World → Prop} (h : K a w) : Exit.then K Q .normal a w := h
theorem to_thenX {K : Act → World → Prop} {i : Nat} (h : Q (.exit i) a w) : Exit.then K Q (.exit i) a w := h
theorem to_thenR {K : Act → World → Prop} (h : Q .ret a w) : Exit.then K Q .ret a w := h
theorem to_blockN {i : Nat} (h : Q .normal a w) : Exit.inBlock i Q .normal a w := h
theorem to_blockR {i : Nat} (h : Q .ret a w) : Exit.inBlock i Q .ret a w := h
theorem to_blockX {i : Nat} (h : Q .normal a w) : Exit.inBlock i Q (.exit i) a w := by simp only [Exit.inBlock, if_true]; exact h
theorem to_blockY {i j : Nat} (e : Nat.beq j i = false) (h : Q (.exit j) a w) : Exit.inBlock i Q (.exit j) a w := by
  have hne : ¬ j = i := fun e2 => by subst e2; rw [Nat.beq_refl] at e; cases e
  simp only [Exit.inBlock, if_neg hne]
  exact h
theorem to_scopeN (h : Q .normal a w) : Exit.noGoto Q .normal a w := h
theorem to_scopeR (h : Q .ret a w) : Exit.noGoto Q .ret a w := h
theorem to_scopeX {i : Nat} (h : Q (.exit i) a w) : Exit.noGoto Q (.exit i) a w := h

theorem fr_cut {c : Code} {g : Nat → Value} (f : Nat → Value) (p : Nat → Bool) (k : Keep p f g) (h : ∀ g, Keep p f g → c.wp Tryz.prog Q (mk n g) w) : c.wp Tryz.prog Q (mk n g) w := h g k
theorem fr_not (b : Bool) (T : TypeId) (hx : ev n f x = .bool b) (h : wpList Tryz.prog ops Q rest (mk n (upd f d (.bool (!b)))) w) : wpList Tryz.prog ops Q (⟨some d, .unOp .not T x, ty, pos, af, none⟩ :: rest) (mk n f) w := by
  refine fr_val (none_wanted rfl _) ?_ h
  simp [execOp, hx, go_sem]
theorem fr_shr10 (T : TypeId) (a r : Int) (hT : Tryz.prog.underlying T = some (.int .i32)) (hx : ev n f x = .int .i32 a) (hy : ev n f y = .int .u64 10) (hr : a / 1024 = r) (h0 : 0 ≤ a) (h1 : a < 2147483648)
    (S : TypeId) (hS : Tryz.prog.underlying S = some (.int .u64)) (h : wpList Tryz.prog ops Q rest (mk n (upd f d (.int .i32 r))) w) : wpList Tryz.prog ops Q (⟨some d, .binOp .shr T x y S, ty, pos, af, none⟩ :: rest) (mk n f) w := by
  refine fr_val (none_wanted rfl _) ?_ h
  subst hr
  have hw : IntKind.i32.wrap (a / 1024) = a / 1024 := IntWalk.i32_in _ (by omega)
  simp [execOp, hx, hy, go_sem, hT, hS]
theorem fr_dec (s : ByteArray) (i : Nat) (B : Nat) (c m : Nat) (hrn : rn s i = (c, m)) (hx : ev n f x = .string (s.extract i s.size)) (hi : i ≤ s.size) (hT : Tabs B w) (ats : Array TypeId)
    (h : ∀ w', Below w.heap.size w w' → wpList Tryz.prog ops Q rest (mk n (upd f d (.tuple #[.int .i32 c, .int .i64 m]))) w') :
    wpList Tryz.prog ops Q (⟨some d, .call { callee := .value (.func 33), args := #[x], argTypes := ats }, ty, pos, af, none⟩ :: rest) (mk n f) w := by
  have hd := dec_any s i w hi hT.tabs
  rw [hrn] at hd
  exact fr_call 33 #[.string (s.extract i s.size)] ats #[x] _ (by simp [hx]) hd (fun args w => by
    have h1 : ¬ Tryz.f33.name = "runtime.NumGoroutine" := by decide
    have h2 : ¬ Tryz.f33.body = none := by intro h; cases h
    simp [callFunc, go_sem, h1, h2]) h
theorem fr_append1 {W : World} (base : Nat) (u : List Nat) (c : Nat) (hx : ev n f x = v) (hy : ev n f y = .slice (some ⟨w.heap.size, 0, none⟩) 1 1) (row : Row w base v u) (hn : v ≠ .slice none 0 0) (hb : Below base W w) (hB : base ≤ w.heap.size) (hu : u.length ≤ 4398046511104)
    (h : ∀ v' w9, Row w9 base v' (u ++ [c]) → v' ≠ .slice none 0 0 → Below base W w9 → wpList Tryz.prog ops Q rest (mk n (upd f d v')) w9) :
    wpList Tryz.prog ops Q (⟨some d, .call { callee := .builtin .append, args := #[x, y], argTypes := #[22, 22] }, ty, pos, af, none⟩ :: rest) (mk n f) (w.alloc (.cells #[.int .u16 (c : Int)] 35)) := by
  obtain ⟨i0, hi0, hz0, hz1, hz2⟩ := info_parts infoU
  refine wpList_append_own _ rfl _ _ 22 rfl base 35 i0 (.int .u16 0) 1 2 Tryz.underlying22 hi0 hz0 hz1 hz2 rfl (by decide) v _ _ (by rw [mk_eval]; exact hx) (World.ownsRow.alloc row _) ⟨w.heap.size, 0, none⟩ 1 1 [.int .u16 (c : Int)] (by rw [mk_eval]; exact hy) rfl ?_ ?_ ?_ ?_ ?_ ?_
  · exact cell_one_new _ _ _
  · intro u hu; simp at hu; subst hu; rfl
  · unfold maxLen; omega
  · omega
  · simp; omega
  · intro v' w9 hown hgrow hnil
    rw [mk_put]
    refine h v' w9 ?_ (fun e => hn (hnil.1 e).1) ((hb.alloc hB _).grown hgrow (by simp; omega) row.lt)
    exact Row.of hown (by simp) (by rw [List.map_append]; rfl)
theorem fr_append2 {W : World} (base : Nat) (u : List Nat) (a b : Nat) (hx : ev n f x = v) (hy : ev n f y = .slice (some ⟨w.heap.size, 0, none⟩) 2 2) (row : Row w base v u) (hn : v ≠ .slice none 0 0) (hb : Below base W w) (hB : base ≤ w.heap.size) (hu : u.length ≤ 4398046511104)
    (h : ∀ v' w9, Row w9 base v' (u ++ [a, b]) → v' ≠ .slice none 0 0 → Below base W w9 → wpList Tryz.prog ops Q rest (mk n (upd f d v')) w9) :
    wpList Tryz.prog ops Q (⟨some d, .call { callee := .builtin .append, args := #[x, y], argTypes := #[22, 22] }, ty, pos, af, none⟩ :: rest) (mk n f) (w.alloc (.cells #[.int .u16 (a : Int), .int .u16 (b : Int)] 35)) := by
  obtain ⟨i0, hi0, hz0, hz1, hz2⟩ := info_parts infoU
  refine wpList_append_own _ rfl _ _ 22 rfl base 35 i0 (.int .u16 0) 1 2 Tryz.underlying22 hi0 hz0 hz1 hz2 rfl (by decide) v _ _ (by rw [mk_eval]; exact hx) (World.ownsRow.alloc row _) ⟨w.heap.size, 0, none⟩ 2 2 [.int .u16 (a : Int), .int .u16 (b : Int)] (by rw [mk_eval]; exact hy) rfl ?_ ?_ ?_ ?_ ?_ ?_
  · exact cell_two_new _ _ _ _
  · intro u hu; simp at hu; rcases hu with rfl | rfl <;> rfl
  · unfold maxLen; omega
  · omega
  · simp; omega
  · intro v' w9 hown hgrow hnil
    rw [mk_put]
    refine h v' w9 ?_ (fun e => hn (hnil.1 e).1) ((hb.alloc hB _).grown hgrow (by simp; omega) row.lt)
    exact Row.of hown (by simp) (by rw [List.map_append]; rfl)
theorem fr_slice_text (T : TypeId) (s : ByteArray) (i j : Nat) (hT : Tryz.prog.underlying T = some .string) (hx : ev n f x = .string s) (hy : ev n f y = .int .i64 (i : Int)) (hz : ev n f z = .int .i64 (j : Int)) (hij : i ≤ j) (hj : j ≤ s.size) (hs : s.size ≤ maxLen)
    {k t : Nat} {g : Bool} (hd : (ops[k]?).bind (·.dst) = some t) (ht : ev n f (.tmp t) = .bool g) (hn : Nat.ble (t + 1) n = true)
    (h : wpList Tryz.prog ops Q rest (mk n (upd f d (.string (s.extract i j)))) w) : wpList Tryz.prog ops Q (⟨some d, .slice T x (some y) (some z) none, ty, pos, af, some (k, g)⟩ :: rest) (mk n f) w := by
  refine fr_val (want_mk hd ht hn) ?_ h
  unfold maxLen at hs
  have h1 : (j : Int) ≤ (s.size : Int) := by omega
  have h2 : (i : Int) ≤ (j : Int) := by omega
  simp [execOp, hx, hy, hz, go_sem, hT, h1, h2]
theorem fr_neq_text (T : TypeId) (a : ByteArray) (hT : Tryz.prog.underlying T = some .string) (hx : ev n f x = .string a) (hy : ev n f y = .string a)
    {k t : Nat} {g : Bool} (hd : (ops[k]?).bind (·.dst) = some t) (ht : ev n f (.tmp t) = .bool g) (hn : Nat.ble (t + 1) n = true)
    (h : wpList Tryz.prog ops Q rest (mk n (upd f d (.bool false))) w) : wpList Tryz.prog ops Q (⟨some d, .binOp .neq T x y T, ty, pos, af, some (k, g)⟩ :: rest) (mk n f) w := by
  refine fr_val (want_mk hd ht hn) ?_ h
  simp [execOp, hx, hy, go_sem, hT]
end

/-- The number in a slot. -/
def num (v : Value) : Nat := (RowKit.intOf v).toNat
theorem num_int (k : IntKind) (m : Nat) : num (.int k (m : Int)) = m := by unfold num RowKit.intOf; simp
/-- A loop whose measure is a slot that grows towards N. -/
theorem fr_loop {n : Nat} {f : Nat → Value} {w : World} {Q : Exit → Act → World → Prop} {c : Code} (k N : Nat) (hk : Nat.ble (k + 1) n = true) (I : (Nat → Value) → World → Prop) (h0 : I f w)
    (round : ∀ f w, I f w → c.wp Tryz.prog (Exit.then (fun a' w' => ∃ f', a' = mk n f' ∧ I f' w' ∧ N - num (f' k) < N - num (f k)) Q) (mk n f) w) : (Code.loop c).wp Tryz.prog Q (mk n f) w := by
  have hev : ∀ f : Nat → Value, (mk n f).tmps.getD k undef = f k := by
    intro f
    rw [mk_getD]
    simp only [ev, hk, cond_true]
  refine wp_loop (fun a w => ∃ f, a = mk n f ∧ I f w) (fun a _ => N - num (a.tmps.getD k undef)) ⟨f, rfl, h0⟩ ?_
  rintro _ w ⟨f, rfl, hI⟩
  refine wp_mono (round f w hI) ?_
  intro e a w' hq
  cases e
  case normal =>
    obtain ⟨f', rfl, hI', hlt⟩ := hq
    refine ⟨⟨f', rfl, hI'⟩, ?_⟩
    show N - num ((mk n f').tmps.getD k undef) < N - num ((mk n f).tmps.getD k undef)
    rw [hev, hev]
    exact hlt
  all_goals exact hq
/-- A part of a function's code, by its place. -/
def sub : Code → List Nat → Code
  | c, [] => c
  | .seq a _, 0 :: p => sub a p
  | .seq _ b, _ :: p => sub b p
  | .cond _ a _, 0 :: p => sub a p
  | .cond _ _ b, _ :: p => sub b p
  | .block _ c, _ :: p => sub c p
  | .loop c, _ :: p => sub c p
  | .scope c, _ :: p => sub c p
  | c, _ => c
end Go.Proofs.YthknielnhmoobaaGreatDoor
