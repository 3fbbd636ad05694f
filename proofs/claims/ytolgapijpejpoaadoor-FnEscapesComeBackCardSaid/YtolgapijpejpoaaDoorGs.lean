/- More named steps: guards, calls of the chooser, strings. -/
import Derived.Test.YtolgapijpejpoaaDoorTt
import Derived.Test.YtolgapijpejpoaaDoorCh
import Derived.Test.YtolgapijpejpoaaDoorHx
namespace Go.Proofs.YtolgapijpejpoaaDoor
open Go.RowKit Go.Lib

/-- The chooser and its numbers in a world; it has chosen at most lim times. -/
structure OneAt (w0 w : World) (C : Nat) (vN : Value) (lim : Nat) : Prop where
  ch : ∃ a, a ≤ lim ∧ ChAt w C vN a
  nums : NRow w C vN
  tz : w.cell? ⟨6, 15, none⟩ = some (.int .u8 4)
  low : 6 < C
  base : w0.heap.size ≤ w.heap.size
  hC : C < w0.heap.size
  beside : Beside w0.heap.size C w0 w
theorem OneAt.mono {w0 w : World} {C lim lim' : Nat} {vN : Value} (h : OneAt w0 w C vN lim) (hl : lim ≤ lim') : OneAt w0 w C vN lim' := by
  obtain ⟨a, ha, hc⟩ := h.ch
  exact ⟨⟨a, by omega, hc⟩, h.nums, h.tz, h.low, h.base, h.hC, h.beside⟩
theorem OneAt.step {w0 w w' : World} {C lim lim' a : Nat} {vN : Value} (h : OneAt w0 w C vN lim) (ha : a ≤ lim') (hc : ChAt w' C vN a) (hb : Beside w.heap.size C w w') : OneAt w0 w' C vN lim' := by
  have hz := h.base
  have hC := h.hC
  have hl := h.low
  refine ⟨⟨a, ha, hc⟩, h.nums.beside hb (by omega), (World.cell?_of_block (hb.block 6 (by omega) (by omega))).trans h.tz, h.low, Nat.le_trans h.base hb.size, h.hC, h.beside.trans (hb.mono h.base)⟩
theorem OneAt.below {w0 w w' : World} {C lim : Nat} {vN : Value} (h : OneAt w0 w C vN lim) (hb : Below w.heap.size w w') : OneAt w0 w' C vN lim := by
  obtain ⟨a, ha, hc⟩ := h.ch
  exact h.step ha (hc.below hb (Nat.lt_of_lt_of_le h.hC h.base)) (.of_below hb)
section
variable {n : Nat} {f : Nat → Value} {w w' : World} {Q : Exit → Act → World → Prop} {ops : Array Oper} {rest : List Oper} {d : Nat} {pos : String} {ty : TypeId} {af : Array Edge} {gd : Option (Nat × Bool)} {v : Value} {x y z : Operand} {a : Act}
theorem fr_open {op : Op} (j t : Nat) (g : Bool) (hd : (ops[j]?).bind (·.dst) = some t) (ht : ev n f (.tmp t) = .bool g) (hn : Nat.ble (t + 1) n = true)
    (h : wpList Tryd.prog ops Q (⟨some d, op, ty, pos, af, none⟩ :: rest) (mk n f) w) : wpList Tryd.prog ops Q (⟨some d, op, ty, pos, af, some (j, g)⟩ :: rest) (mk n f) w := by
  have hw := want_mk (op := op) (d := d) (ty := ty) (pos := pos) (af := af) hd ht hn
  unfold wpList at h ⊢
  rw [if_pos (none_wanted rfl _)] at h
  rw [if_pos hw]
  exact h
theorem fr_skipU {op : Op} (j t : Nat) (g : Bool) (hd : (ops[j]?).bind (·.dst) = some t) (ht : ev n f (.tmp t) = undef) (hn : Nat.ble (t + 1) n = true)
    (h : wpList Tryd.prog ops Q rest (mk n (upd f d undef)) w) : wpList Tryd.prog ops Q (⟨some d, op, ty, pos, af, some (j, g)⟩ :: rest) (mk n f) w := by
  refine wpList_skip ?_ (by rw [mk_put]; exact h)
  unfold Region.wanted
  simp only
  have hy : yielded ops (mk n f).tmps j = none := by
    unfold yielded
    rw [hd]
    have hlt : t < n := by rw [Nat.ble_eq] at hn; omega
    have e : (mk n f).tmps[t]? = some (f t) := by unfold mk; simp [hlt]
    have e2 : f t = undef := by have h3 := ht; unfold ev at h3; simp only [hn, cond_true] at h3; exact h3
    simp [e, e2, undef]
  rw [hy]
  cases g <;> rfl
theorem fr_callE (F : Nat) (args : Array Value) (ats : Array TypeId) (xs : Array Operand) {Φ : Value → World → Prop} (ha : xs.map (ev n f) = args)
    (hc : Calls Tryd.prog F args w fun e w' => ∃ v, e = .returned v ∧ Φ v w') (hbody : ∀ args w, (callFunc F args).run Tryd.prog w = .ok (.enter F args) w)
    (h : ∀ v w', Φ v w' → wpList Tryd.prog ops Q rest (mk n (upd f d v)) w') : wpList Tryd.prog ops Q (⟨some d, .call { callee := .value (.func F), args := xs, argTypes := ats }, ty, pos, af, none⟩ :: rest) (mk n f) w := by
  refine wpList_step fun K hK => ?_
  rw [if_pos (none_wanted rfl _)]
  unfold Oper.wp
  rw [mk_eval]
  have hr : (execOp (ev n f) ⟨some d, .call { callee := .value (.func F), args := xs, argTypes := ats }, ty, pos, af, none⟩).run Tryd.prog w = .ok (.enter F args) w := by
    have hev : ev n f (.func F) = .func (.func F) #[] #[] := rfl
    simp [execOp, resolve, hev, ha, go_sem, hbody]
  rw [hr]
  refine hc.mono ?_
  rintro e w' ⟨v, rfl, hΦ⟩
  show K ((mk n f).put (some d) v) w'
  rw [mk_put]
  exact hK _ _ (h v w' hΦ)
theorem fr_of {w0 : World} {C lim : Nat} {vN : Value} (N : Nat) (hx : ev n f x = .pointer (some ⟨C, 0, none⟩)) (hy : ev n f y = .int .i64 (N : Int)) (hO : OneAt w0 w C vN lim) (hl : lim ≤ 2305843009213693952) (hN : N ≤ 1000) (hN2 : 2 ≤ N) (ats : Array TypeId)
    (h : ∀ k w', k < N → OneAt w0 w' C vN (lim + 1) → Beside w.heap.size C w w' → wpList Tryd.prog ops Q rest (mk n (upd f d (.int .i64 (k : Nat)))) w') :
    wpList Tryd.prog ops Q (⟨some d, .call { callee := .value (.func 30), args := #[x, y], argTypes := ats }, ty, pos, af, none⟩ :: rest) (mk n f) w := by
  obtain ⟨a, ha, hch⟩ := hO.ch
  refine fr_callE 30 #[.pointer (some ⟨C, 0, none⟩), .int .i64 (N : Int)] ats #[x, y] (Φ := fun v w' => ∃ k a', v = .int .i64 (k : Nat) ∧ k < N ∧ a' ≤ a + 1 ∧ ChAt w' C vN a' ∧ Beside w.heap.size C w w') (by simp [hx, hy]) ?_ (fun args w => by
    have h1 : ¬ Tryd.f30.name = "runtime.NumGoroutine" := by decide
    have h2 : ¬ Tryd.f30.body = none := by intro h; cases h
    simp [callFunc, go_sem, h1, h2]) ?_
  · refine (of_any C vN a N _ rfl w hch hO.nums (by omega) hN hN2).mono ?_
    rintro e w' ⟨k, a', rfl, hk, ha', hc', hb⟩
    exact ⟨_, rfl, k, a', rfl, by omega, ha', hc', hb⟩
  · rintro v w' ⟨k, a', rfl, hk, ha', hc', hb⟩
    exact h k w' hk (hO.step (by omega) hc' hb) hb
theorem fr_isLine (c : Nat) (hx : ev n f x = .int .i32 (c : Int)) (ats : Array TypeId) (h : wpList Tryd.prog ops Q rest (mk n (upd f d (.bool (isLn c)))) w) :
    wpList Tryd.prog ops Q (⟨some d, .call { callee := .value (.func 22), args := #[x], argTypes := ats }, ty, pos, af, none⟩ :: rest) (mk n f) w :=
  fr_call 22 #[.int .i32 (c : Int)] ats #[x] _ (by simp [hx]) (isLine_any c w) (fun args w => by
    have h1 : ¬ Tryd.f22.name = "runtime.NumGoroutine" := by decide
    have h2 : ¬ Tryd.f22.body = none := by intro h; cases h
    simp [callFunc, go_sem, h1, h2]) (by rintro w' rfl; exact h)
theorem fr_index (s : ByteArray) (i : Int) (k : Nat) (hx : ev n f x = .string s) (hy : ev n f y = .int .i64 i) (hi : i = k) (hk : k < s.size) (hs : s.size ≤ maxLen)
    (h : wpList Tryd.prog ops Q rest (mk n (upd f d (.int .u8 (bt s k)))) w) : wpList Tryd.prog ops Q (⟨some d, .index 9 x y, ty, pos, af, none⟩ :: rest) (mk n f) w := by
  refine fr_val (none_wanted rfl _) ?_ h
  subst hi
  unfold maxLen at hs
  have h1 : (k : Int) < (s.size : Int) := by omega
  have hb : bt s k = (s[k]'hk).toNat := by unfold bt; rw [if_pos hk, Utf8W.get!_of_lt _ _ hk]
  rw [hb]
  simp [execOp, hx, hy, go_sem, h1, hk]
theorem fr_lenU (m cap : Nat) (p : Option Addr) (hx : ev n f x = .slice p m cap) (h : wpList Tryd.prog ops Q rest (mk n (upd f d (.int .i64 (m : Nat)))) w) (hm : m ≤ maxLen) :
    wpList Tryd.prog ops Q (⟨some d, .call { callee := .builtin .len, args := #[x], argTypes := #[23] }, ty, pos, af, none⟩ :: rest) (mk n f) w := by
  refine fr_val (none_wanted rfl _) ?_ h
  unfold maxLen at hm
  have hw : IntKind.i64.wrap (m : Int) = m := IntWalk.i64_in _ (by omega)
  simp [execOp, resolve, hx, go_sem]
theorem fr_idxU (b o m cap k : Nat) (hx : ev n f x = .slice (some ⟨b, o, none⟩) m cap) (hy : ev n f y = .int .i64 (k : Int)) (hk : k < m) (hm : m ≤ maxLen)
    (h : wpList Tryd.prog ops Q rest (mk n (upd f d (.pointer (some ⟨b, o + k, none⟩)))) w) : wpList Tryd.prog ops Q (⟨some d, .indexAddr 23 x y, ty, pos, af, none⟩ :: rest) (mk n f) w := by
  refine fr_val (none_wanted rfl _) ?_ h
  have h1 : (k : Int) < (m : Int) := by omega
  simp [execOp, hx, hy, go_sem, h1]
theorem fr_loadU (a : Addr) (c : Nat) (hx : ev n f x = .pointer (some a)) (hc : w.cell? a = some (.int .u16 (c : Int))) (h : wpList Tryd.prog ops Q rest (mk n (upd f d (.int .u16 (c : Int)))) w) :
    wpList Tryd.prog ops Q (⟨some d, .load 41 x, ty, pos, af, none⟩ :: rest) (mk n f) w := by
  refine fr_val (none_wanted rfl _) ?_ h
  simp [execOp, hx, go_sem, hc]
theorem fr_shl10 (T S : TypeId) (a r : Int) (hT : Tryd.prog.underlying T = some (.int .i32)) (hS : Tryd.prog.underlying S = some (.int .u64)) (hx : ev n f x = .int .i32 a) (hy : ev n f y = .int .u64 10) (hr : IntKind.i32.wrap (a * 1024) = r)
    (h : wpList Tryd.prog ops Q rest (mk n (upd f d (.int .i32 r))) w) : wpList Tryd.prog ops Q (⟨some d, .binOp .shl T x y S, ty, pos, af, none⟩ :: rest) (mk n f) w := by
  refine fr_val (none_wanted rfl _) ?_ h
  subst hr
  simp [execOp, hx, hy, go_sem, hT, hS]
theorem fr_build4S (s0 s1 s2 s3 : ByteArray) (xs : Array (Nat × Operand)) (hxs : xs = #[(0, .const (.string s0)), (1, .const (.string s1)), (2, .const (.string s2)), (3, .const (.string s3))])
    (h : wpList Tryd.prog ops Q rest (mk n (upd f d (.slice (some ⟨w.heap.size, 0, none⟩) 4 4))) (w.alloc (.cells #[.string s0, .string s1, .string s2, .string s3] 9))) :
    wpList Tryd.prog ops Q (⟨some d, .buildSlice 32 4 xs, ty, pos, af, none⟩ :: rest) (mk n f) w := by
  refine fr_val (none_wanted rfl _) ?_ h
  subst hxs
  have e : ∀ s, ev n f (.const (.string s)) = .string s := fun _ => rfl
  simp [execOp, e, go_sem]
theorem fr_idxS (b m cap k : Nat) (hx : ev n f x = .slice (some ⟨b, 0, none⟩) m cap) (hy : ev n f y = .int .i64 (k : Int)) (hk : k < m) (hm : m ≤ maxLen)
    (h : wpList Tryd.prog ops Q rest (mk n (upd f d (.pointer (some ⟨b, k, none⟩)))) w) : wpList Tryd.prog ops Q (⟨some d, .indexAddr 32 x y, ty, pos, af, none⟩ :: rest) (mk n f) w := by
  refine fr_val (none_wanted rfl _) ?_ h
  have h1 : (k : Int) < (m : Int) := by omega
  simp [execOp, hx, hy, go_sem, h1]
theorem fr_loadS (a : Addr) (s : ByteArray) (hx : ev n f x = .pointer (some a)) (hc : w.cell? a = some (.string s)) (h : wpList Tryd.prog ops Q rest (mk n (upd f d (.string s))) w) :
    wpList Tryd.prog ops Q (⟨some d, .load 9 x, ty, pos, af, none⟩ :: rest) (mk n f) w := by
  refine fr_val (none_wanted rfl _) ?_ h
  simp [execOp, hx, go_sem, hc]
theorem fr_hexw {w0 : World} {C lim : Nat} {vN : Value} (p m k : Nat) (b : Bool) (hx : ev n f x = .int .i64 (p : Int)) (hy : ev n f y = .int .i64 (k : Int)) (hz : ev n f z = .bool b) (hO : OneAt w0 w C vN lim) (hm : 1 ≤ m) (hm8 : m ≤ 8) (hp : p < 16 ^ m) (hp2 : p < 4294967296) (hk : k ≤ m) (ats : Array TypeId)
    (h : ∀ t w', HexT t p → 1 ≤ t.size → k ≤ t.size → t.size ≤ m → OneAt w0 w' C vN lim → wpList Tryd.prog ops Q rest (mk n (upd f d (.string t))) w') :
    wpList Tryd.prog ops Q (⟨some d, .call { callee := .value (.func 48), args := #[x, y, z], argTypes := ats }, ty, pos, af, none⟩ :: rest) (mk n f) w := by
  refine fr_callE 48 #[.int .i64 (p : Int), .int .i64 (k : Int), .bool b] ats #[x, y, z] (Φ := fun v w' => ∃ t, v = .string t ∧ HexT t p ∧ 1 ≤ t.size ∧ k ≤ t.size ∧ t.size ≤ m ∧ Below w.heap.size w w') (by simp [hx, hy, hz]) ?_ (fun args w => by
    have h1 : ¬ Tryd.f48.name = "runtime.NumGoroutine" := by decide
    have h2 : ¬ Tryd.f48.body = none := by intro h; cases h
    simp [callFunc, go_sem, h1, h2]) ?_
  · refine (hexw_any p m k b hm hm8 hp hp2 hk w hO.tz).mono ?_
    rintro e w' ⟨t, rfl, h1, h2, h3, h4, h5⟩
    exact ⟨_, rfl, t, rfl, h1, h2, h3, h4, h5⟩
  · rintro v w' ⟨t, rfl, h1, h2, h3, h4, h5⟩
    exact h t w' h1 h2 h3 h4 (hO.below h5)
theorem fr_rune (p : Nat) (hx : ev n f x = .int .i32 (p : Int)) (h : wpList Tryd.prog ops Q rest (mk n (upd f d (.string (Utf8.encode (p : Int))))) w) : wpList Tryd.prog ops Q (⟨some d, .convert 21 9 x, ty, pos, af, none⟩ :: rest) (mk n f) w := by
  refine fr_val (none_wanted rfl _) ?_ h
  simp [execOp, hx, go_sem]
theorem fr_addS (s t : ByteArray) (hx : ev n f x = .string s) (hy : ev n f y = .string t) (hs : s.size + t.size ≤ 9223372036854775807) (h : wpList Tryd.prog ops Q rest (mk n (upd f d (.string (s ++ t)))) w) :
    wpList Tryd.prog ops Q (⟨some d, .binOp .add 9 x y 9, ty, pos, af, none⟩ :: rest) (mk n f) w := by
  refine fr_val (none_wanted rfl _) ?_ h
  simp [execOp, hx, hy, go_sem, hs]
end
end Go.Proofs.YtolgapijpejpoaaDoor
