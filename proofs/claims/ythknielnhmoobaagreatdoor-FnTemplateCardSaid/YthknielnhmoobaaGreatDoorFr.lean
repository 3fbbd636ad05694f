/- A walk by named steps over frames that are functions: for a function of some hundred slots. Each step is one lemma; the frame is a chain of 'upd' over a function. -/
import Derived.Test.YthknielnhmoobaaGreatDoorSpec
namespace Go.Proofs.YthknielnhmoobaaGreatDoor
open Go.RowKit Go.Lib

/-- A frame's slot written. -/
def upd (f : Nat → Value) (d : Nat) (v : Value) : Nat → Value := fun k => bif Nat.beq k d then v else f k
/-- The frame of n slots that a function tells. -/
@[irreducible] noncomputable def mk (n : Nat) (f : Nat → Value) : Act := { tmps := Array.ofFn (n := n) (fun i => f i), defers := [] }
def ev (n : Nat) (f : Nat → Value) : Operand → Value
  | .tmp k => bif Nat.ble (k + 1) n then f k else undef
  | .const v => v
  | .global g => .pointer (some ⟨g, 0, none⟩)
  | .func g => .func (.func g) #[] #[]
theorem mk_getD (n : Nat) (f : Nat → Value) (k : Nat) : (mk n f).tmps.getD k undef = ev n f (.tmp k) := by
  unfold mk ev
  by_cases h : k < n
  · have e : Nat.ble (k + 1) n = true := by rw [Nat.ble_eq]; omega
    simp only [e, cond_true]
    simp [Array.getD, h]
  · have e : Nat.ble (k + 1) n = false := by
      cases e : Nat.ble (k + 1) n with
      | false => rfl
      | true => rw [Nat.ble_eq] at e; omega
    simp only [e, cond_false]
    simp [Array.getD, h]
theorem mk_eval (n : Nat) (f : Nat → Value) : (mk n f).eval = ev n f := by
  funext x
  cases x with
  | tmp k => exact mk_getD n f k
  | _ => rfl
theorem mk_put (n : Nat) (f : Nat → Value) (d : Nat) (v : Value) : (mk n f).put (some d) v = mk n (upd f d v) := by
  unfold mk Act.put
  simp only [Act.mk.injEq, and_true]
  apply Array.ext
  · simp
  · intro i h1 h2
    simp only [Array.size_setIfInBounds, Array.size_ofFn] at h1
    by_cases e : d = i
    · subst e
      have e2 : Nat.beq d d = true := Nat.beq_refl d
      simp [upd, e2]
    · have e2 : Nat.beq i d = false := by
        cases e2 : Nat.beq i d with
        | false => rfl
        | true => exact absurd (Nat.eq_of_beq_eq_true e2).symm e
      rw [Array.getElem_setIfInBounds_ne (by simpa using h1) e]
      simp [upd, e2]
theorem upd_self {f : Nat → Value} {d : Nat} {v : Value} (h : f d = v) : upd f d v = f := by
  funext k
  unfold upd
  cases e : Nat.beq k d with
  | false => rfl
  | true => rw [Nat.eq_of_beq_eq_true e, h]; rfl
/-- A function's first frame. -/
theorem mk_enter (n : Nat) (args : Array Value) (h : args.size ≤ n) : ({ tmps := args ++ Array.replicate (n - args.size) undef, defers := [] } : Act) = mk n (fun k => args.getD k undef) := by
  unfold mk
  simp only [Act.mk.injEq, and_true]
  apply Array.ext
  · simp; omega
  · intro i h1 h2
    simp only [Array.size_append, Array.size_replicate] at h1
    simp only [Array.getElem_ofFn, Array.getElem_append]
    by_cases e : i < args.size
    · simp [Array.getD, e]
    · simp [Array.getD, e]

section
variable {n : Nat} {f : Nat → Value} {w w' : World} {Q : Exit → Act → World → Prop} {ops : Array Oper} {rest : List Oper} {d : Nat} {pos : String} {ty : TypeId} {af : Array Edge} {gd : Option (Nat × Bool)} {v : Value}

theorem fr_val {op : Op} (hw : Region.wanted ⟨some d, op, ty, pos, af, gd⟩ (yielded ops (mk n f).tmps) = true) (hrun : (execOp (ev n f) ⟨some d, op, ty, pos, af, gd⟩).run Tryz.prog w = .ok (.value v) w')
    (h : wpList Tryz.prog ops Q rest (mk n (upd f d v)) w') : wpList Tryz.prog ops Q (⟨some d, op, ty, pos, af, gd⟩ :: rest) (mk n f) w := by
  refine wpList_step fun K hK => ?_
  rw [if_pos hw]
  unfold Oper.wp
  rw [mk_eval, hrun]
  show K ((mk n f).put (some d) v) w'
  rw [mk_put]
  exact hK _ _ h

theorem none_wanted {o : Oper} (h : o.guard = none) (y : Nat → Option Bool) : Region.wanted o y = true := by unfold Region.wanted; rw [h]
variable {x y z : Operand}
/-- move, assign -/
theorem fr_move (v : Value) (hx : ev n f x = v) (h : wpList Tryz.prog ops Q rest (mk n (upd f d v)) w) : wpList Tryz.prog ops Q (⟨some d, .move x, ty, pos, af, none⟩ :: rest) (mk n f) w :=
  fr_val (none_wanted rfl _) (by subst hx; rfl) h
theorem fr_assign (v : Value) (hx : ev n f x = v) (h : wpList Tryz.prog ops Q rest (mk n (upd f d v)) w) : wpList Tryz.prog ops Q (⟨some d, .assign x, ty, pos, af, none⟩ :: rest) (mk n f) w :=
  fr_val (none_wanted rfl _) (by subst hx; rfl) h
theorem fr_extract (j : Nat) (vs : Array Value) (v : Value) (hx : ev n f x = .tuple vs) (hv : vs[j]? = some v) (h : wpList Tryz.prog ops Q rest (mk n (upd f d v)) w) :
    wpList Tryz.prog ops Q (⟨some d, .extract x j, ty, pos, af, none⟩ :: rest) (mk n f) w := by
  refine fr_val (none_wanted rfl _) ?_ h
  simp [execOp, hx, go_sem, hv]
theorem fr_len (s : ByteArray) (hx : ev n f x = .string s) (hs : s.size ≤ maxLen) (h : wpList Tryz.prog ops Q rest (mk n (upd f d (.int .i64 s.size))) w) :
    wpList Tryz.prog ops Q (⟨some d, .call { callee := .builtin .len, args := #[x], argTypes := #[9] }, ty, pos, af, none⟩ :: rest) (mk n f) w := by
  refine fr_val (none_wanted rfl _) ?_ h
  unfold maxLen at hs
  have hw : IntKind.i64.wrap (s.size : Int) = s.size := IntWalk.i64_in _ (by omega)
  simp [execOp, resolve, hx, go_sem]
/-- comparisons of numbers -/
theorem fr_eq (k : IntKind) (T : TypeId) (a b : Int) (r : Bool) (hT : Tryz.prog.underlying T = some (.int k)) (hx : ev n f x = .int k a) (hy : ev n f y = .int k b) (hr : (a == b) = r)
    (h : wpList Tryz.prog ops Q rest (mk n (upd f d (.bool r))) w) : wpList Tryz.prog ops Q (⟨some d, .binOp .eql T x y T, ty, pos, af, none⟩ :: rest) (mk n f) w := by
  refine fr_val (none_wanted rfl _) ?_ h
  subst hr
  simp [execOp, hx, hy, go_sem, hT]
theorem fr_neq (k : IntKind) (T : TypeId) (a b : Int) (r : Bool) (hT : Tryz.prog.underlying T = some (.int k)) (hx : ev n f x = .int k a) (hy : ev n f y = .int k b) (hr : (a != b) = r)
    (h : wpList Tryz.prog ops Q rest (mk n (upd f d (.bool r))) w) : wpList Tryz.prog ops Q (⟨some d, .binOp .neq T x y T, ty, pos, af, none⟩ :: rest) (mk n f) w := by
  refine fr_val (none_wanted rfl _) ?_ h
  subst hr
  simp [execOp, hx, hy, go_sem, hT]
theorem fr_lss (k : IntKind) (T : TypeId) (a b : Int) (r : Bool) (hT : Tryz.prog.underlying T = some (.int k)) (hx : ev n f x = .int k a) (hy : ev n f y = .int k b) (hr : decide (a < b) = r)
    (h : wpList Tryz.prog ops Q rest (mk n (upd f d (.bool r))) w) : wpList Tryz.prog ops Q (⟨some d, .binOp .lss T x y T, ty, pos, af, none⟩ :: rest) (mk n f) w := by
  refine fr_val (none_wanted rfl _) ?_ h
  subst hr
  simp [execOp, hx, hy, go_sem, hT]
theorem fr_gtr (k : IntKind) (T : TypeId) (a b : Int) (r : Bool) (hT : Tryz.prog.underlying T = some (.int k)) (hx : ev n f x = .int k a) (hy : ev n f y = .int k b) (hr : decide (b < a) = r)
    (h : wpList Tryz.prog ops Q rest (mk n (upd f d (.bool r))) w) : wpList Tryz.prog ops Q (⟨some d, .binOp .gtr T x y T, ty, pos, af, none⟩ :: rest) (mk n f) w := by
  refine fr_val (none_wanted rfl _) ?_ h
  subst hr
  simp [execOp, hx, hy, go_sem, hT]
theorem fr_leq (k : IntKind) (T : TypeId) (a b : Int) (r : Bool) (hT : Tryz.prog.underlying T = some (.int k)) (hx : ev n f x = .int k a) (hy : ev n f y = .int k b) (hr : decide (a ≤ b) = r)
    (h : wpList Tryz.prog ops Q rest (mk n (upd f d (.bool r))) w) : wpList Tryz.prog ops Q (⟨some d, .binOp .leq T x y T, ty, pos, af, none⟩ :: rest) (mk n f) w := by
  refine fr_val (none_wanted rfl _) ?_ h
  subst hr
  simp [execOp, hx, hy, go_sem, hT]
theorem fr_geq (k : IntKind) (T : TypeId) (a b : Int) (r : Bool) (hT : Tryz.prog.underlying T = some (.int k)) (hx : ev n f x = .int k a) (hy : ev n f y = .int k b) (hr : decide (b ≤ a) = r)
    (h : wpList Tryz.prog ops Q rest (mk n (upd f d (.bool r))) w) : wpList Tryz.prog ops Q (⟨some d, .binOp .geq T x y T, ty, pos, af, none⟩ :: rest) (mk n f) w := by
  refine fr_val (none_wanted rfl _) ?_ h
  subst hr
  simp [execOp, hx, hy, go_sem, hT]
theorem fr_add (k : IntKind) (T : TypeId) (a b r : Int) (hT : Tryz.prog.underlying T = some (.int k)) (hx : ev n f x = .int k a) (hy : ev n f y = .int k b) (hr : k.wrap (a + b) = r)
    (h : wpList Tryz.prog ops Q rest (mk n (upd f d (.int k r))) w) : wpList Tryz.prog ops Q (⟨some d, .binOp .add T x y T, ty, pos, af, none⟩ :: rest) (mk n f) w := by
  refine fr_val (none_wanted rfl _) ?_ h
  subst hr
  simp [execOp, hx, hy, go_sem, hT]
theorem fr_sub (k : IntKind) (T : TypeId) (a b r : Int) (hT : Tryz.prog.underlying T = some (.int k)) (hx : ev n f x = .int k a) (hy : ev n f y = .int k b) (hr : k.wrap (a - b) = r)
    (h : wpList Tryz.prog ops Q rest (mk n (upd f d (.int k r))) w) : wpList Tryz.prog ops Q (⟨some d, .binOp .sub T x y T, ty, pos, af, none⟩ :: rest) (mk n f) w := by
  refine fr_val (none_wanted rfl _) ?_ h
  subst hr
  simp [execOp, hx, hy, go_sem, hT]
theorem fr_mul (k : IntKind) (T : TypeId) (a b r : Int) (hT : Tryz.prog.underlying T = some (.int k)) (hx : ev n f x = .int k a) (hy : ev n f y = .int k b) (hr : k.wrap (a * b) = r)
    (h : wpList Tryz.prog ops Q rest (mk n (upd f d (.int k r))) w) : wpList Tryz.prog ops Q (⟨some d, .binOp .mul T x y T, ty, pos, af, none⟩ :: rest) (mk n f) w := by
  refine fr_val (none_wanted rfl _) ?_ h
  subst hr
  simp [execOp, hx, hy, go_sem, hT]
theorem fr_or (k : IntKind) (T : TypeId) (a b r : Int) (hT : Tryz.prog.underlying T = some (.int k)) (hx : ev n f x = .int k a) (hy : ev n f y = .int k b) (hr : bits .or k a b = r)
    (h : wpList Tryz.prog ops Q rest (mk n (upd f d (.int k r))) w) : wpList Tryz.prog ops Q (⟨some d, .binOp .or T x y T, ty, pos, af, none⟩ :: rest) (mk n f) w := by
  refine fr_val (none_wanted rfl _) ?_ h
  subst hr
  simp [execOp, hx, hy, go_sem, hT]
theorem fr_and (k : IntKind) (T : TypeId) (a b r : Int) (hT : Tryz.prog.underlying T = some (.int k)) (hx : ev n f x = .int k a) (hy : ev n f y = .int k b) (hr : bits .and k a b = r)
    (h : wpList Tryz.prog ops Q rest (mk n (upd f d (.int k r))) w) : wpList Tryz.prog ops Q (⟨some d, .binOp .and T x y T, ty, pos, af, none⟩ :: rest) (mk n f) w := by
  refine fr_val (none_wanted rfl _) ?_ h
  subst hr
  simp [execOp, hx, hy, go_sem, hT]

theorem fr_slice_from (T : TypeId) (s : ByteArray) (i : Nat) (hT : Tryz.prog.underlying T = some .string) (hx : ev n f x = .string s) (hy : ev n f y = .int .i64 (i : Int)) (hi : i ≤ s.size) (hs : s.size ≤ maxLen)
    (h : wpList Tryz.prog ops Q rest (mk n (upd f d (.string (s.extract i s.size)))) w) : wpList Tryz.prog ops Q (⟨some d, .slice T x (some y) none none, ty, pos, af, none⟩ :: rest) (mk n f) w := by
  refine fr_val (none_wanted rfl _) ?_ h
  unfold maxLen at hs
  have h1 : (i : Int) ≤ (s.size : Int) := by omega
  simp [execOp, hx, hy, go_sem, hT, h1]
theorem fr_nilCheck (a : Addr) (hx : ev n f x = .pointer (some a)) (h : wpList Tryz.prog ops Q rest (mk n (upd f d (.pointer (some a)))) w) : wpList Tryz.prog ops Q (⟨some d, .nilCheck x, ty, pos, af, none⟩ :: rest) (mk n f) w := by
  refine fr_val (none_wanted rfl _) ?_ h
  simp [execOp, hx, go_sem]
theorem fr_load_json (b o : Nat) (m : Int) (hx : ev n f x = .pointer (some ⟨b, o, none⟩)) (hc : w.cell? ⟨b, o, none⟩ = some (.int .u8 m))
    (h : wpList Tryz.prog ops Q rest (mk n (upd f d (.int .u8 m))) w) : wpList Tryz.prog ops Q (⟨some d, .load 79 x, ty, pos, af, none⟩ :: rest) (mk n f) w := by
  refine fr_val (none_wanted rfl _) ?_ h
  simp [execOp, hx, go_sem, hc]
theorem fr_json (X : Nat) (hx : ev n f x = .pointer (some ⟨X, 0, none⟩)) (h : wpList Tryz.prog ops Q rest (mk n (upd f d (.pointer (some ⟨X, 68, none⟩)))) w) :
    wpList Tryz.prog ops Q (⟨some d, .fieldAddr 89 x 31, ty, pos, af, none⟩ :: rest) (mk n f) w := by
  refine fr_val (none_wanted rfl _) ?_ h
  simp [execOp, hx, go_sem]
theorem fr_conv (S T : TypeId) (k l : IntKind) (a r : Int) (hS : Tryz.prog.underlying S = some (.int k)) (hT : Tryz.prog.underlying T = some (.int l)) (hx : ev n f x = .int k a) (hr : l.wrap a = r)
    (h : wpList Tryz.prog ops Q rest (mk n (upd f d (.int l r))) w) : wpList Tryz.prog ops Q (⟨some d, .convert S T x, ty, pos, af, none⟩ :: rest) (mk n f) w := by
  refine fr_val (none_wanted rfl _) ?_ h
  subst hr
  simp [execOp, hx, go_sem, hS, hT]
theorem fr_build0 (h : wpList Tryz.prog ops Q rest (mk n (upd f d (.slice (some ⟨w.heap.size, 0, none⟩) 0 0))) (w.alloc (.cells #[] 35))) :
    wpList Tryz.prog ops Q (⟨some d, .buildSlice 22 0 #[], ty, pos, af, none⟩ :: rest) (mk n f) w := by
  refine fr_val (none_wanted rfl _) ?_ h
  simp [execOp, go_sem]
theorem fr_build1 (a : Int) (hx : ev n f x = .int .u16 a) (h : wpList Tryz.prog ops Q rest (mk n (upd f d (.slice (some ⟨w.heap.size, 0, none⟩) 1 1))) (w.alloc (.cells #[.int .u16 a] 35))) :
    wpList Tryz.prog ops Q (⟨some d, .buildSlice 22 1 #[(0, x)], ty, pos, af, none⟩ :: rest) (mk n f) w := by
  refine fr_val (none_wanted rfl _) ?_ h
  simp [execOp, hx, go_sem]
theorem fr_build2 (a b : Int) (hx : ev n f x = .int .u16 a) (hy : ev n f y = .int .u16 b) (h : wpList Tryz.prog ops Q rest (mk n (upd f d (.slice (some ⟨w.heap.size, 0, none⟩) 2 2))) (w.alloc (.cells #[.int .u16 a, .int .u16 b] 35))) :
    wpList Tryz.prog ops Q (⟨some d, .buildSlice 22 2 #[(0, x), (1, y)], ty, pos, af, none⟩ :: rest) (mk n f) w := by
  refine fr_val (none_wanted rfl _) ?_ h
  simp [execOp, hx, hy, go_sem]
/-- guarded operations -/
theorem yielded_mk {j t : Nat} {b : Bool} (hd : (ops[j]?).bind (·.dst) = some t) (ht : ev n f (.tmp t) = .bool b) (hn : Nat.ble (t + 1) n = true) : yielded ops (mk n f).tmps j = some b := by
  unfold yielded
  rw [hd]
  have hlt : t < n := by rw [Nat.ble_eq] at hn; omega
  have e : (mk n f).tmps[t]? = some (f t) := by unfold mk; simp [hlt]
  have e2 : f t = .bool b := by have h3 := ht; unfold ev at h3; simp only [hn, cond_true] at h3; exact h3
  simp [e, e2]
theorem fr_skip {op : Op} (j t : Nat) (g b : Bool) (hd : (ops[j]?).bind (·.dst) = some t) (ht : ev n f (.tmp t) = .bool b) (hn : Nat.ble (t + 1) n = true) (hg : (some b == some g) = false)
    (h : wpList Tryz.prog ops Q rest (mk n (upd f d undef)) w) : wpList Tryz.prog ops Q (⟨some d, op, ty, pos, af, some (j, g)⟩ :: rest) (mk n f) w := by
  refine wpList_skip ?_ (by rw [mk_put]; exact h)
  unfold Region.wanted
  simp only
  rw [yielded_mk hd ht hn]
  exact hg
theorem want_mk {op : Op} {j t : Nat} {g : Bool} (hd : (ops[j]?).bind (·.dst) = some t) (ht : ev n f (.tmp t) = .bool g) (hn : Nat.ble (t + 1) n = true) : Region.wanted ⟨some d, op, ty, pos, af, some (j, g)⟩ (yielded ops (mk n f).tmps) = true := by
  unfold Region.wanted
  simp only
  rw [yielded_mk hd ht hn]
  simp
theorem fr_move_g (v : Value) {j t : Nat} {g : Bool} (hd : (ops[j]?).bind (·.dst) = some t) (ht : ev n f (.tmp t) = .bool g) (hn : Nat.ble (t + 1) n = true) (hx : ev n f x = v) (h : wpList Tryz.prog ops Q rest (mk n (upd f d v)) w) :
    wpList Tryz.prog ops Q (⟨some d, .move x, ty, pos, af, some (j, g)⟩ :: rest) (mk n f) w :=
  fr_val (want_mk hd ht hn) (by subst hx; rfl) h
theorem fr_index_g (s : ByteArray) (i : Int) (k : Nat) {j t : Nat} {g : Bool} (hd : (ops[j]?).bind (·.dst) = some t) (ht : ev n f (.tmp t) = .bool g) (hn : Nat.ble (t + 1) n = true) (hx : ev n f x = .string s) (hy : ev n f y = .int .i64 i) (hi : i = k) (hk : k < s.size) (hs : s.size ≤ maxLen)
    (h : wpList Tryz.prog ops Q rest (mk n (upd f d (.int .u8 (bt s k)))) w) : wpList Tryz.prog ops Q (⟨some d, .index 9 x y, ty, pos, af, some (j, g)⟩ :: rest) (mk n f) w := by
  refine fr_val (want_mk hd ht hn) ?_ h
  subst hi
  unfold maxLen at hs
  have h1 : (k : Int) < (s.size : Int) := by omega
  have hb : bt s k = (s[k]'hk).toNat := by unfold bt; rw [if_pos hk, Utf8W.get!_of_lt _ _ hk]
  rw [hb]
  simp [execOp, hx, hy, go_sem, h1, hk]
theorem fr_eq_g (k : IntKind) (T : TypeId) (a b : Int) (r : Bool) {j t : Nat} {g : Bool} (hd : (ops[j]?).bind (·.dst) = some t) (ht : ev n f (.tmp t) = .bool g) (hn : Nat.ble (t + 1) n = true) (hT : Tryz.prog.underlying T = some (.int k)) (hx : ev n f x = .int k a) (hy : ev n f y = .int k b) (hr : (a == b) = r)
    (h : wpList Tryz.prog ops Q rest (mk n (upd f d (.bool r))) w) : wpList Tryz.prog ops Q (⟨some d, .binOp .eql T x y T, ty, pos, af, some (j, g)⟩ :: rest) (mk n f) w := by
  refine fr_val (want_mk hd ht hn) ?_ h
  subst hr
  simp [execOp, hx, hy, go_sem, hT]
theorem fr_pick (c : Bool) (v : Value) (hx : ev n f x = .bool c) (hv : (bif c then ev n f y else ev n f z) = v) (h : wpList Tryz.prog ops Q rest (mk n (upd f d v)) w) :
    wpList Tryz.prog ops Q (⟨some d, .pick x y z, ty, pos, af, none⟩ :: rest) (mk n f) w := by
  refine fr_val (none_wanted rfl _) ?_ h
  subst hv
  cases c <;> simp [execOp, hx, go_sem]
/-- a call whose contract returns -/
theorem fr_call (F : Nat) (args : Array Value) (ats : Array TypeId) (xs : Array Operand) (v : Value) {Φ : World → Prop} (ha : xs.map (ev n f) = args)
    (hc : Calls Tryz.prog F args w fun e w' => e = .returned v ∧ Φ w') (hbody : ∀ args w, (callFunc F args).run Tryz.prog w = .ok (.enter F args) w)
    (h : ∀ w', Φ w' → wpList Tryz.prog ops Q rest (mk n (upd f d v)) w') : wpList Tryz.prog ops Q (⟨some d, .call { callee := .value (.func F), args := xs, argTypes := ats }, ty, pos, af, none⟩ :: rest) (mk n f) w := by
  refine wpList_step fun K hK => ?_
  rw [if_pos (none_wanted rfl _)]
  unfold Oper.wp
  rw [mk_eval]
  have hr : (execOp (ev n f) ⟨some d, .call { callee := .value (.func F), args := xs, argTypes := ats }, ty, pos, af, none⟩).run Tryz.prog w = .ok (.enter F args) w := by
    have hev : ev n f (.func F) = .func (.func F) #[] #[] := rfl
    simp [execOp, resolve, hev, ha, go_sem, hbody]
  rw [hr]
  refine hc.mono ?_
  rintro e w' ⟨rfl, hΦ⟩
  show K ((mk n f).put (some d) v) w'
  rw [mk_put]
  exact hK _ _ (h w' hΦ)
/-- control -/
theorem fr_then {K : Act → World → Prop} {a : Act} (h : K a w) : Exit.then K Q .normal a w := h
theorem fr_true {c : Operand} {p q : Code} (hc : ev n f c = .bool true) (h : p.wp Tryz.prog Q (mk n f) w) : (Code.cond c p q).wp Tryz.prog Q (mk n f) w := wp_cond_true (by rw [mk_eval]; exact hc) h
theorem fr_false {c : Operand} {p q : Code} (hc : ev n f c = .bool false) (h : q.wp Tryz.prog Q (mk n f) w) : (Code.cond c p q).wp Tryz.prog Q (mk n f) w := wp_cond_false (by rw [mk_eval]; exact hc) h
theorem fr_seq {p q : Code} (h : p.wp Tryz.prog (Exit.then (q.wp Tryz.prog Q) Q) (mk n f) w) : (Code.seq p q).wp Tryz.prog Q (mk n f) w := wp_seq h
theorem fr_region {id : Nat} {l : List Oper} (h : wpList Tryz.prog l.toArray Q l (mk n f) w) : (Code.region id l.toArray false).wp Tryz.prog Q (mk n f) w := wp_region_lit h
theorem fr_ret3 {fn : Func} {R : Ending → World → Prop} {i j k : Nat} (v0 v1 v2 : Value) (hr : fn.results = #[.tmp i, .tmp j, .tmp k]) (h0 : ev n f (.tmp i) = v0) (h1 : ev n f (.tmp j) = v1) (h2 : ev n f (.tmp k) = v2)
    (h : R (.returned (.tuple #[v0, v1, v2])) w) : bodyPost Tryz.prog fn R .ret (mk n f) w := by
  refine bodyPost_ret (v := .tuple #[v0, v1, v2]) ?_ (by unfold mk; rfl) h
  rw [results_tmp3 hr, mk_getD, mk_getD, mk_getD, h0, h1, h2]
end
end Go.Proofs.YthknielnhmoobaaGreatDoor
