/- Steps of the wrong ways: the range of an error, the call that reports it, the panic. -/
import Derived.Test.YtolgapijpejpoaaDoorVw
namespace Go.Proofs.YtolgapijpejpoaaDoor
open Go.RowKit Go.Lib
/-- What is asked of (*Lexer).addRangeError, in any world that has grown out of w: it returns, and nothing below B0 turns. -/
def AreOk (X : Nat) (B0 : Nat → Prop) (w : World) (s : ByteArray) : Prop :=
  ∀ (w1 : World) (a : Nat) (b : Int) (m : ByteArray), Below w.heap.size w w1 → a ≤ s.size → Calls Tryd.prog 38 #[.pointer (some ⟨X, 0, none⟩), .agg #[.int .i32 (a : Int), .int .i32 b], .string m] w1 fun e w' => ∃ v, e = .returned v ∧ Off B0 w1 w'
section
variable {n : Nat} {f : Nat → Value} {w w' : World} {Q : Exit → Act → World → Prop} {ops : Array Oper} {rest : List Oper} {d : Nat} {pos : String} {ty : TypeId} {af : Array Edge} {v : Value} {x y z : Operand}
theorem fr_build_loc (a : Int) (hx : ev n f x = .int .i32 a) (h : wpList Tryd.prog ops Q rest (mk n (upd f d (.agg #[.int .i32 a]))) w) : wpList Tryd.prog ops Q (⟨some d, .build 95 #[(0, x)], ty, pos, af, none⟩ :: rest) (mk n f) w := by
  refine fr_val (none_wanted rfl _) ?_ h
  simp [execOp, hx, go_sem]
theorem fr_build_rng (a b : Int) (hx : ev n f x = .agg #[.int .i32 a]) (hy : ev n f y = .int .i32 b) (h : wpList Tryd.prog ops Q rest (mk n (upd f d (.agg #[.int .i32 a, .int .i32 b]))) w) : wpList Tryd.prog ops Q (⟨some d, .build 103 #[(0, x), (1, y)], ty, pos, af, none⟩ :: rest) (mk n f) w := by
  refine fr_val (none_wanted rfl _) ?_ h
  simp [execOp, hx, hy, go_sem]
theorem fr_build_lp (xs : Array (Nat × Operand)) (hxs : xs = #[]) (h : wpList Tryd.prog ops Q rest (mk n (upd f d (.agg #[]))) w) : wpList Tryd.prog ops Q (⟨some d, .build 118 xs, ty, pos, af, none⟩ :: rest) (mk n f) w := by
  refine fr_val (none_wanted rfl _) ?_ h
  subst hxs
  simp [execOp, go_sem]
theorem fr_iface_lp (hx : ev n f x = .agg #[]) (h : wpList Tryd.prog ops Q rest (mk n (upd f d (.iface 118 (.agg #[])))) w) : wpList Tryd.prog ops Q (⟨some d, .makeInterface 118 x, ty, pos, af, none⟩ :: rest) (mk n f) w := by
  refine fr_val (none_wanted rfl _) ?_ h
  simp [execOp, hx, go_sem]
theorem fr_panic_lp (hx : ev n f x = .iface 118 (.agg #[])) (h : Q (.panic lpChain) (mk n f) w) : wpList Tryd.prog ops Q (⟨none, .panic x, ty, pos, af, none⟩ :: rest) (mk n f) w := by
  refine wpList_step fun K hK => ?_
  rw [if_pos (none_wanted rfl _)]
  unfold Oper.wp
  rw [mk_eval]
  have e : (execOp (ev n f) ⟨none, .panic x, ty, pos, af, none⟩).run Tryd.prog w = .halt (.panic (.iface 118 (.agg #[]))) w := by simp [execOp, hx, go_sem]
  rw [e]
  exact h
theorem fr_are {X : Nat} {B0 : Nat → Prop} {w0 : World} {s : ByteArray} (a : Nat) (b : Int) (m : ByteArray) (hA : AreOk X B0 w0 s) (hb : Below w0.heap.size w0 w) (ha : a ≤ s.size) (hx : ev n f x = .pointer (some ⟨X, 0, none⟩)) (hy : ev n f y = .agg #[.int .i32 (a : Int), .int .i32 b]) (hz : ev n f z = .string m) (ats : Array TypeId)
    (h : ∀ v w', Off B0 w w' → wpList Tryd.prog ops Q rest (mk n (upd f d v)) w') :
    wpList Tryd.prog ops Q (⟨some d, .call { callee := .value (.func 38), args := #[x, y, z], argTypes := ats }, ty, pos, af, none⟩ :: rest) (mk n f) w := by
  refine wpList_step fun K hK => ?_
  rw [if_pos (none_wanted rfl _)]
  unfold Oper.wp
  rw [mk_eval]
  have h1 : ¬ Tryd.f38.name = "runtime.NumGoroutine" := by decide
  have h2 : ¬ Tryd.f38.body = none := by intro h; cases h
  have hbody : ∀ args w, (callFunc 38 args).run Tryd.prog w = .ok (.enter 38 args) w := fun args w => by simp [callFunc, go_sem, h1, h2]
  have hr : (execOp (ev n f) ⟨some d, .call { callee := .value (.func 38), args := #[x, y, z], argTypes := ats }, ty, pos, af, none⟩).run Tryd.prog w = .ok (.enter 38 #[.pointer (some ⟨X, 0, none⟩), .agg #[.int .i32 (a : Int), .int .i32 b], .string m]) w := by
    have hev : ev n f (.func 38) = .func (.func 38) #[] #[] := rfl
    simp [execOp, resolve, hev, hx, hy, hz, go_sem, hbody]
  rw [hr]
  refine (hA w a b m hb ha).mono ?_
  rintro e w' ⟨v, rfl, hb'⟩
  show K ((mk n f).put (some d) v) w'
  rw [mk_put]
  exact hK _ _ (h v w' hb')
end
end Go.Proofs.YtolgapijpejpoaaDoor
