/- The reference's lexer at any text: where a number ends. -/
import Derived.Test.YthknielnhmoobaaGreatDoorZd
namespace Go.Proofs.YthknielnhmoobaaGreatDoor
open Go.RowKit Go.Lib

@[go_sem] theorem run_store_float (P : Program) (w : World) (a : Addr) (m : Mode) (k : FloatKind) (b : Nat) : (store a (.float k b) m).run P w = stored P w a (.float k b) m := run_store P w a _ m rfl
/-- A token's value. -/
def tokV (k a b : Int) (t : ByteArray) (u : Value) (f : Nat) (x y : Bool) : Value := .agg #[.int .i64 k, .int .i64 a, .int .i64 b, .string t, u, .float .f64 f, .bool x, .bool y]
def tokC (k a b : Int) (t : ByteArray) (u : Value) (f : Nat) (x y : Bool) : Array Value := #[.int .i64 k, .int .i64 a, .int .i64 b, .string t, u, .float .f64 f, .bool x, .bool y]
/-- A token and a verdict come back. -/
def Tok2 (e : Ending) (v : Int) : Prop := ∃ k a b t p n c f x y, e = .returned (.tuple #[tokV k a b t (.slice p n c) f x y, .int .i64 v])
def EndR (w : World) (L : Nat) (s : ByteArray) (nl : Bool) (out opn : Value) (i : Nat) (v : Int) (w' : World) : Prop :=
  (v = 1 → LxAt w' L s i nl out opn) ∧ Beside w.heap.size L w w'
/-- A token lies in block B. -/
def TokAt (w : World) (B : Nat) (k a b : Int) (t : ByteArray) (u : Value) (f : Nat) (x y : Bool) : Prop := w.heap[B]? = some (.cells (tokC k a b t u f x y) 34 (0, 0))
section
variable {w w' : World} {B : Nat} {k a b : Int} {t : ByteArray} {u : Value} {f : Nat} {x y : Bool}
theorem TokAt.below {C : Nat} (h : TokAt w B k a b t u f x y) (hb : Below C w w') (hB : B < C) : TokAt w' B k a b t u f x y := (hb.block B hB).trans h
theorem TokAt.cells (h : TokAt w B k a b t u f x y) : w.cell? ⟨B, 0, none⟩ = some (.int .i64 k) ∧ w.cell? ⟨B, 1, none⟩ = some (.int .i64 a) ∧ w.cell? ⟨B, 2, none⟩ = some (.int .i64 b) ∧ w.cell? ⟨B, 3, none⟩ = some (.string t) ∧ w.cell? ⟨B, 4, none⟩ = some u
    ∧ w.cell? ⟨B, 5, none⟩ = some (.float .f64 f) ∧ w.cell? ⟨B, 6, none⟩ = some (.bool x) ∧ w.cell? ⟨B, 7, none⟩ = some (.bool y) := by
  unfold TokAt tokC at h
  refine ⟨?_, ?_, ?_, ?_, ?_, ?_, ?_, ?_⟩ <;> simp [World.cell?, h]
theorem TokAt.free (h : TokAt w B k a b t u f x y) (o : Nat) : w.frozen? ⟨B, o, none⟩ = false := by unfold TokAt at h; simp [World.frozen?, h]
end
theorem infoTok : (Tryz.prog.info? 34).map (fun i => (i.zero, i.size, i.bytes)) = some (some (tokV 0 0 0 ⟨#[]⟩ (.slice none 0 0) 0 false false), 8, 80) := by kernel_rfl
theorem set_cells {w : World} {B : Nat} {cs : Array Value} {ty : TypeId} {fr : Nat × Nat} (h : w.heap[B]? = some (.cells cs ty fr)) (i : Nat) (v : Value) : (w.setCell ⟨B, i, none⟩ v).heap[B]? = some (.cells (cs.setIfInBounds i v) ty fr) := by
  simp [World.setCell, Array.getElem?_modify, h]
/-- Eight cells of block B are set. -/
def tok8 (w : World) (B : Nat) (v0 v1 v2 v3 v4 v5 v6 v7 : Value) : World :=
  (((((((w.setCell ⟨B, 0, none⟩ v0).setCell ⟨B, 1, none⟩ v1).setCell ⟨B, 2, none⟩ v2).setCell ⟨B, 3, none⟩ v3).setCell ⟨B, 4, none⟩ v4).setCell ⟨B, 5, none⟩ v5).setCell ⟨B, 6, none⟩ v6).setCell ⟨B, 7, none⟩ v7
section
variable {w w' w0 : World} {B C L : Nat} {k a b k' a' b' : Int} {t t' : ByteArray} {u u' : Value} {f f' : Nat} {x y x' y' : Bool} {v0 v1 v2 v3 v4 v5 v6 v7 : Value}
theorem TokAt.set (h : TokAt w B k a b t u f x y) : TokAt (tok8 w B (.int .i64 k') (.int .i64 a') (.int .i64 b') (.string t') u' (.float .f64 f') (.bool x') (.bool y')) B k' a' b' t' u' f' x' y' := by
  unfold TokAt tokC at h
  have h0 : (w.setCell ⟨B, 0, none⟩ (.int .i64 k')).heap[B]? = some (.cells #[.int .i64 k', .int .i64 a, .int .i64 b, .string t, u, .float .f64 f, .bool x, .bool y] 34 (0, 0)) := set_cells h 0 (.int .i64 k')
  have h1 : ((w.setCell ⟨B, 0, none⟩ (.int .i64 k')).setCell ⟨B, 1, none⟩ (.int .i64 a')).heap[B]? = some (.cells #[.int .i64 k', .int .i64 a', .int .i64 b, .string t, u, .float .f64 f, .bool x, .bool y] 34 (0, 0)) := set_cells h0 1 (.int .i64 a')
  have h2 : (((w.setCell ⟨B, 0, none⟩ (.int .i64 k')).setCell ⟨B, 1, none⟩ (.int .i64 a')).setCell ⟨B, 2, none⟩ (.int .i64 b')).heap[B]? = some (.cells #[.int .i64 k', .int .i64 a', .int .i64 b', .string t, u, .float .f64 f, .bool x, .bool y] 34 (0, 0)) := set_cells h1 2 (.int .i64 b')
  have h3 : ((((w.setCell ⟨B, 0, none⟩ (.int .i64 k')).setCell ⟨B, 1, none⟩ (.int .i64 a')).setCell ⟨B, 2, none⟩ (.int .i64 b')).setCell ⟨B, 3, none⟩ (.string t')).heap[B]? = some (.cells #[.int .i64 k', .int .i64 a', .int .i64 b', .string t', u, .float .f64 f, .bool x, .bool y] 34 (0, 0)) := set_cells h2 3 (.string t')
  have h4 : (((((w.setCell ⟨B, 0, none⟩ (.int .i64 k')).setCell ⟨B, 1, none⟩ (.int .i64 a')).setCell ⟨B, 2, none⟩ (.int .i64 b')).setCell ⟨B, 3, none⟩ (.string t')).setCell ⟨B, 4, none⟩ (u')).heap[B]? = some (.cells #[.int .i64 k', .int .i64 a', .int .i64 b', .string t', u', .float .f64 f, .bool x, .bool y] 34 (0, 0)) := set_cells h3 4 (u')
  have h5 : ((((((w.setCell ⟨B, 0, none⟩ (.int .i64 k')).setCell ⟨B, 1, none⟩ (.int .i64 a')).setCell ⟨B, 2, none⟩ (.int .i64 b')).setCell ⟨B, 3, none⟩ (.string t')).setCell ⟨B, 4, none⟩ (u')).setCell ⟨B, 5, none⟩ (.float .f64 f')).heap[B]? = some (.cells #[.int .i64 k', .int .i64 a', .int .i64 b', .string t', u', .float .f64 f', .bool x, .bool y] 34 (0, 0)) := set_cells h4 5 (.float .f64 f')
  have h6 : (((((((w.setCell ⟨B, 0, none⟩ (.int .i64 k')).setCell ⟨B, 1, none⟩ (.int .i64 a')).setCell ⟨B, 2, none⟩ (.int .i64 b')).setCell ⟨B, 3, none⟩ (.string t')).setCell ⟨B, 4, none⟩ (u')).setCell ⟨B, 5, none⟩ (.float .f64 f')).setCell ⟨B, 6, none⟩ (.bool x')).heap[B]? = some (.cells #[.int .i64 k', .int .i64 a', .int .i64 b', .string t', u', .float .f64 f', .bool x', .bool y] 34 (0, 0)) := set_cells h5 6 (.bool x')
  have h7 : ((((((((w.setCell ⟨B, 0, none⟩ (.int .i64 k')).setCell ⟨B, 1, none⟩ (.int .i64 a')).setCell ⟨B, 2, none⟩ (.int .i64 b')).setCell ⟨B, 3, none⟩ (.string t')).setCell ⟨B, 4, none⟩ (u')).setCell ⟨B, 5, none⟩ (.float .f64 f')).setCell ⟨B, 6, none⟩ (.bool x')).setCell ⟨B, 7, none⟩ (.bool y')).heap[B]? = some (.cells #[.int .i64 k', .int .i64 a', .int .i64 b', .string t', u', .float .f64 f', .bool x', .bool y'] 34 (0, 0)) := set_cells h6 7 (.bool y')
  exact h7
theorem Beside.tok8 (h : Beside C L w0 w) (hB : C ≤ B) : Beside C L w0 (tok8 w B v0 v1 v2 v3 v4 v5 v6 v7) := by
  unfold Go.Proofs.YthknielnhmoobaaGreatDoor.tok8
  exact (((((((h.setCell (.inr hB) _).setCell (.inr hB) _).setCell (.inr hB) _).setCell (.inr hB) _).setCell (.inr hB) _).setCell (.inr hB) _).setCell (.inr hB) _).setCell (.inr hB) _
theorem LxAt.tok8 {s : ByteArray} {i : Nat} {nl : Bool} {out opn : Value} (h : LxAt w L s i nl out opn) (hB : L ≠ B) : LxAt (tok8 w B v0 v1 v2 v3 v4 v5 v6 v7) L s i nl out opn := by
  unfold Go.Proofs.YthknielnhmoobaaGreatDoor.tok8
  exact (((((((h.set_other _ _ hB).set_other _ _ hB).set_other _ _ hB).set_other _ _ hB).set_other _ _ hB).set_other _ _ hB).set_other _ _ hB).set_other _ _ hB
theorem tok_ret {fn : Func} {p q : Tmp} (h : fn.results = #[.cell p 34, .tmp q]) {ac : Act} {R : Ending → World → Prop} {v : Int} (hp : ac.tmps.getD p undef = .pointer (some ⟨B, 0, none⟩)) (hq : ac.tmps.getD q undef = .int .i64 v) (hd : ac.defers = [])
    (hT : TokAt w B k a b t u f x y) (hR : R (.returned (.tuple #[tokV k a b t u f x y, .int .i64 v])) w) : bodyPost Tryz.prog fn R .ret ac w := by
  refine bodyPost_ret (v := .tuple #[tokV k a b t u f x y, .int .i64 v]) ?_ hd hR
  have hl : (loadVar 34 ⟨B, 0, none⟩).run Tryz.prog w = .ok (tokV k a b t u f x y) w := run_loadVar_row (P := Tryz.prog) w B 34 34 _ (0, 0) _ hT Tryz.underlying34 rfl (by kernel_rfl)
  have ha : (asAddr (.pointer (some ⟨B, 0, none⟩))).run Tryz.prog w = .ok ⟨B, 0, none⟩ w := by simp [asAddr]
  rw [results_cell_tmp h, hp, hq, ha]
  simp only [Result.andThen, hl]
end
set_option maxRecDepth 100000 in
set_option maxHeartbeats 2000000 in
theorem ended_any (L : Nat) (s : ByteArray) (i : Nat) (nl : Bool) (out opn : Value) (w : World) (k : Int) (f : Nat) (y : Bool) (h : LxAt w L s i nl out opn) (hi : i ≤ s.size) (hT : Tabs L w) :
    Calls Tryz.prog 53 #[.pointer (some ⟨L, 0, none⟩), tokV k 0 0 ⟨#[]⟩ (.slice none 0 0) f false y] w fun e w' => ∃ v, Tok2 e v ∧ EndR w L s nl out opn i v w' := by
  have HT := Lib.hid hT
  have H := Lib.hid h
  have hL := h.lt
  clear hT h
  unfold tokV
  go_enter Tryz.func53, Tryz.ntmps53
  go_wp2_with fail
  obtain ⟨W, hW⟩ : ∃ W, (w.alloc (.cells (tokC k 0 0 ⟨#[]⟩ (.slice none 0 0) f false y) 34)).alloc (.cells (tokC 0 0 0 ⟨#[]⟩ (.slice none 0 0) 0 false false) 34) = W := ⟨_, rfl⟩
  have z1 : W.heap.size = w.heap.size + 2 := by rw [← hW]; simp
  have b1 : Below w.heap.size w W := by rw [← hW]; exact ((Below.refl _ _).alloc (Nat.le_refl _) _).alloc (by simp) _
  have hA : TokAt W w.heap.size k 0 0 ⟨#[]⟩ (.slice none 0 0) f false y := by rw [← hW]; exact (Below.heap_alloc _ _ _ (by simp)).trans (heap_alloc_new _ _)
  have hB : TokAt W (w.heap.size + 1) 0 0 0 ⟨#[]⟩ (.slice none 0 0) 0 false false := by
    rw [← hW, show w.heap.size + 1 = (w.alloc (.cells (tokC k 0 0 ⟨#[]⟩ (.slice none 0 0) f false y) 34)).heap.size by simp]
    exact heap_alloc_new _ _
  unfold tokC at hW
  rw [hW]
  refine (here_weak (H.out.below b1 hL) hi (HT.out.below b1 (by omega))).mono ?_
  rintro e w1 ⟨c, n, rfl, hc, hn, hn0, hx1, hb1⟩
  have A1 := TokAt.below hA hb1 (by omega)
  have B1 := TokAt.below hB hb1 (by omega)
  obtain ⟨a0, a1, a2, a3, a4, a5, a6, a7⟩ := A1.cells
  obtain ⟨d0, d1, d2, d3, d4, d5, d6, d7⟩ := B1.cells
  have df := B1.free
  have A2 := Lib.hid B1
  have HX := Lib.hid hx1
  have b2 : Below w.heap.size w w1 := b1.trans (hb1.mono (by omega))
  have HB := Lib.hid b2
  have HN := Lib.hid hn0
  clear b1 hA hB hx1 hb1 A1 B1 b2 hn0
  go_wp2_with (first | (go_at_call 21; refine (isBegin_any _ _).mono ?_; rintro e w2 ⟨⟨r2, rfl⟩, rfl⟩; cases r2) | (go_at_call 23; refine (isDigit_weak _ _).mono ?_; rintro e w2 ⟨⟨r2, rfl⟩, rfl⟩; cases r2) | (go_at_call 18; refine (isBlank_any _ _).mono ?_; rintro e w2 ⟨⟨r2, rfl⟩, rfl⟩; cases r2) | (go_at_call 19; refine (isLine_weak _).mono ?_; rintro e w2 ⟨⟨r2, rfl⟩, rfl⟩; cases r2))
  all_goals first
    | (exfalso; omega)
    | (refine tok_ret (by rfl) (by rfl) (by rfl) (by rfl) (TokAt.set A2.out) ?_; exact ⟨_, ⟨_, _, _, _, _, _, _, _, _, _, rfl⟩, fun _ => HX.out.tok8 (by omega), Beside.tok8 (.of_below HB.out) (by omega)⟩)
    | (refine tok_ret (by rfl) (by rfl) (by rfl) (by rfl) (TokAt.set A2.out) ?_; exact ⟨_, ⟨_, _, _, _, _, _, _, _, _, _, rfl⟩, fun h => absurd h (by decide), Beside.tok8 (.of_below HB.out) (by omega)⟩)
end Go.Proofs.YthknielnhmoobaaGreatDoor
