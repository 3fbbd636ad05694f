/- A function run behind a recover, where it panics with Go's LexerPanic; the wrong ways of ZZEscapes' closure. Go's ZZEscapes, where the text is wrong. -/
import Derived.Test.YtolgapijpejpoaaDoorWi
import Derived.Test.YtolgapijpejpoaaDoorVh
import Derived.Test.YtolgapijpejpoaaDoorHe
import Derived.Deep.RegionHeld3
namespace Go.Proofs.YtolgapijpejpoaaDoor
open Go.RowKit Go.Lib
theorem lp_assert (w : World) : (Instr.typeAssert (.iface 118 (.agg #[])) 20 118 true).run Tryd.prog w = .ok (.tuple #[.agg #[], .bool true]) w := by kernel_rfl
set_option maxRecDepth 100000 in
set_option maxHeartbeats 1000000 in
theorem runs_panicking (p : Addr) (b : Bool) (w : World) (hc : w.cell? p = some (.bool b)) (hz : w.frozen? p = false) (hp : p.block < w.heap.size) :
    CallsD Tryd.prog 37 #[.pointer (some p)] (.panicking lpChain) w fun e u' w' => e = .returned (.tuple #[]) ∧ u' = .panicking [{ v := .iface 118 (.agg #[]), recovered := true }] ∧ w' = (w.alloc (.cells #[] 118)).setCell p (.bool false) := by
  have hc1 : (w.alloc (.cells #[] 118)).cell? p = some (.bool b) := (World.cell?_of_block (Below.heap_alloc _ _ _ hp)).trans hc
  have hz1 : (w.alloc (.cells #[] 118)).frozen? p = false := (World.frozen?_of_block (Below.heap_alloc _ _ _ hp)).trans hz
  have hta := lp_assert
  unfold lpChain
  refine callsD_of_wpS Tryd.func37 rfl fun c₀ cs hu => ?_
  apply wpS_seq
  apply wpS_region
  simp [wpOpsS, go_sem, recoverD, hu, Tryd.ntmps37, Exit.thenS]
  apply wpS_seq
  apply wpS_region
  simp [wpOpsS, go_sem, hu, Tryd.ntmps37, Exit.thenS]
  refine wpS_cond (t := true) (by simp [Act.eval, Array.replicate]) ?_
  simp only [if_true]
  obtain ⟨Q, hQ⟩ : ∃ Q : Exit → Act → World → Prop, (fun e a' w' => bodyPostS Tryd.prog Tryd.f37 c₀ cs (fun e u' w' => e = Ending.returned (Value.tuple #[]) ∧ u' = FrameMode.panicking [{ v := Value.iface 118 (Value.agg #[]), recovered := true }] ∧ w' = (w.alloc (Obj.cells #[] 118)).setCell p (Value.bool false)) e a' ({ fn := c₀.fn, tmps := c₀.tmps, todo := c₀.todo, defers := c₀.defers, mode := FrameMode.panicking [{ v := Value.iface 118 (Value.agg #[]), recovered := true }], kind := c₀.kind, roundOf := c₀.roundOf } :: cs) w') = Q := ⟨_, rfl⟩
  refine wpS_of_wp (?_ : Code.wp _ _ _ { tmps := #[.pointer (some p), .iface 118 (.agg #[]), undef, undef, .iface 118 (.agg #[]), .iface 118 (.agg #[]), .bool true, undef, undef, undef, undef, undef, undef, undef, undef], defers := [] } w)
  rw [hQ]
  go_wp2
  rw [← hQ]
  simp [bodyPostS, results, Tryd.results37, go_sem]
def OnlyR (R : Nat) : Nat → Prop := fun k => k = R
theorem runs_caught (caps : Array Value) (w : World) (Φ : World → Prop) (hc : Calls Tryd.prog 28 caps (w.alloc (.cells #[.bool false] 4)) fun e w' => (e = .returned (.tuple #[]) ∨ e = .panicked lpChain) ∧ Φ w')
    (hk : ∀ w', Φ w' → w'.heap[w.heap.size]? = some (.cells #[.bool false] 4 (0, 0))) :
    Calls Tryd.prog 27 #[.func (.func 28) #[] caps] w fun e w' => ∃ b, e = .returned (.bool b) ∧ ∃ w1, Φ w1 ∧ Off (OnlyR w.heap.size) w1 w' := by
  have hmf := hmf0
  go_enter_defers Tryd.func27, Tryd.ntmps27
  go_wp2_with fail
  refine hc.mono ?_
  rintro e w1 ⟨h1 | h1, hΦ⟩
  · subst h1
    have hb := hk w1 hΦ
    have c0 := (cells_of_block hb 0).1
    have cf := (cells_of_block hb 0).2
    simp only [List.getElem?_toArray, List.getElem?_cons_zero] at c0
    go_wp2
    refine leaves_cons (f := 37) (args := #[.pointer (some ⟨w.heap.size, 0, none⟩)]) (by simp) (by simp [go_sem]) ?_
    refine (runs_idle ⟨w.heap.size, 0, none⟩ _).mono ?_
    rintro e u' w'' ⟨rfl, rfl, rfl⟩
    simp [Leaves, settle, results, Tryd.results27, go_sem, c0, cf]
    exact ⟨w1, hΦ, ⟨rfl, rfl, rfl, by simp [World.setCell], fun k hk ht => Below.heap_setCell _ _ _ _ ht⟩⟩
  · subst h1
    have hb := hk w1 hΦ
    have c0 := (cells_of_block hb 0).1
    have cf := (cells_of_block hb 0).2
    have hlt := (Array.getElem?_eq_some_iff.1 hb).1
    simp only [List.getElem?_toArray, List.getElem?_cons_zero] at c0
    refine leaves_cons (f := 37) (args := #[.pointer (some ⟨w.heap.size, 0, none⟩)]) (by simp) (by simp [go_sem]) ?_
    refine (runs_panicking ⟨w.heap.size, 0, none⟩ false _ c0 cf hlt).mono ?_
    rintro e u' w'' ⟨rfl, rfl, rfl⟩
    have c1 : (w1.alloc (.cells #[] 118)).cell? ⟨w.heap.size, 0, none⟩ = some (.bool false) := (World.cell?_of_block (Below.heap_alloc _ _ _ hlt)).trans c0
    simp [Leaves, settle, results, Tryd.results27, go_sem, c1]
    exact ⟨w1, hΦ, ⟨rfl, rfl, rfl, by simp [World.setCell], fun k hk ht => (Below.heap_setCell _ _ _ _ (show k ≠ w.heap.size from ht)).trans (Below.heap_alloc _ _ _ hk)⟩⟩
/-- The blocks that a wrong text's way turns: the log's, the lexer's, the three results. -/
def Tzz (X S M H N : Nat) : Nat → Prop := fun k => Tlog X S M H k ∨ k = N + 1 ∨ k = N + 2 ∨ k = N + 3
def CloseW (X S M H N : Nat) (w w' : World) : Prop := w'.heap[N + 1]? = some (.cells #[.slice none 0 0] 23 (0, 0)) ∧ w'.heap[N + 2]? = some (.cells #[.bool false] 4 (0, 0)) ∧ (∃ k : Int, w'.heap[N + 3]? = some (.cells #[.int .i64 k] 3 (0, 0))) ∧ Off (Tzz X S M H N) w w'
theorem Off.wide {T T' : Nat → Prop} {w w' : World} (h : Off T w w') (ht : ∀ k, T k → T' k) : Off T' w w' := ⟨h.os, h.tape, h.output, h.size, fun k hk hn => h.block k hk fun e => hn (ht k e)⟩
set_option maxRecDepth 100000 in
set_option maxHeartbeats 1000000 in
theorem close_wrong {X S M H N a5 : Nat} {s : ByteArray} {w : World} {B : Nat} (e : TEnv X 0 s w B) (ht : tteF s (s.size + 1) 0 [] = .wrong) (hA : AreOk X (Tlog X S M H) w s) (hs6 : s.size ≤ 1048576) (F : FourAt w N s)
    (c5 : w.cell? ⟨a5, 0, none⟩ = some (.pointer (some ⟨X, 0, none⟩))) (n0 : N + 3 < S) (n1 : S < M) (n2 : M < H) (n3 : H < X) :
    Calls Tryd.prog 28 #[.pointer (some ⟨a5, 0, none⟩), .pointer (some ⟨N, 0, none⟩), .pointer (some ⟨N + 1, 0, none⟩), .pointer (some ⟨N + 1 + 1, 0, none⟩), .pointer (some ⟨N + 1 + 1 + 1, 0, none⟩)] w fun e w' => (e = .returned (.tuple #[]) ∨ e = .panicked lpChain) ∧ CloseW X S M H N w w' := by
  have ht' := tte_wrong (B0 := Tlog X S M H) e trivial ht hA hs6
  have HH := Lib.hid ht'
  have c1 : w.cell? ⟨N, 0, none⟩ = some (.string s) := (cells_of_block F.a 0).1
  have hlt := (Array.getElem?_eq_some_iff.1 F.d).1
  have HF := Lib.hid F
  clear ht' e ht hA F
  go_enter Tryd.func28, Tryd.ntmps28
  go_wp2_with fail
  refine HH.out.mono ?_
  rintro e w1 ⟨h1 | h1, hoff⟩
  · obtain ⟨k, rfl⟩ := h1
    have b2 := (hoff.block (N + 1) (by omega) (by unfold Tlog; omega)).trans HF.out.b
    have b3 : w1.heap[N + 1 + 1]? = some (.cells #[.bool false] 4 (0, 0)) := (hoff.block (N + 1 + 1) (by omega) (by unfold Tlog; omega)).trans HF.out.c
    have b4 : w1.heap[N + 1 + 1 + 1]? = some (.cells #[.int .i64 0] 3 (0, 0)) := (hoff.block (N + 1 + 1 + 1) (by omega) (by unfold Tlog; omega)).trans HF.out.d
    have d2 := (cells_of_block b2 0).1
    have d3 := (cells_of_block b3 0).1
    have d4 := (cells_of_block b4 0).1
    have g2 := (cells_of_block b2 0).2
    have g3 := (cells_of_block b3 0).2
    have g4 := (cells_of_block b4 0).2
    simp only [List.getElem?_toArray, List.getElem?_cons_zero] at d2 d3 d4
    have HB := Lib.hid b2
    have HC := Lib.hid b3
    have HD := Lib.hid b4
    have HO := Lib.hid hoff
    clear b2 b3 b4 hoff
    go_wp2
    go_end0
    refine ⟨.inl rfl, ?_, ?_, ⟨k, ?_⟩, ?_⟩
    · rw [Below.heap_setCell _ _ _ _ (by show N + 1 ≠ N + 1 + 1 + 1; omega), Below.heap_setCell _ _ _ _ (by show N + 1 ≠ N + 1 + 1; omega)]
      exact blk_set HB.out 0 _
    · rw [Below.heap_setCell _ _ _ _ (by show N + 2 ≠ N + 1 + 1 + 1; omega)]
      exact blk_set ((Below.heap_setCell _ _ _ _ (by show N + 1 + 1 ≠ N + 1; omega)).trans HC.out) 0 _
    · exact blk_set ((Below.heap_setCell _ _ _ _ (by show N + 1 + 1 + 1 ≠ N + 1 + 1; omega)).trans ((Below.heap_setCell _ _ _ _ (by show N + 1 + 1 + 1 ≠ N + 1; omega)).trans HD.out)) 0 _
    · refine (HO.out.wide fun k h => .inl h).trans ⟨rfl, rfl, rfl, by simp [World.setCell], fun k hk hn => ?_⟩
      have q1 : k ≠ N + 1 := fun e => hn (.inr (.inl e))
      have q2 : k ≠ N + 2 := fun e => hn (.inr (.inr (.inl e)))
      have q3 : k ≠ N + 3 := fun e => hn (.inr (.inr (.inr e)))
      rw [Below.heap_setCell _ _ _ _ (by show k ≠ N + 1 + 1 + 1; omega), Below.heap_setCell _ _ _ _ (by show k ≠ N + 1 + 1; omega), Below.heap_setCell _ _ _ _ (by show k ≠ N + 1; omega)]
  · subst h1
    refine ⟨rfl, .inr rfl, (hoff.block (N + 1) (by omega) (by unfold Tlog; omega)).trans HF.out.b, (hoff.block (N + 2) (by omega) (by unfold Tlog; omega)).trans HF.out.c, ⟨0, (hoff.block (N + 3) (by omega) (by unfold Tlog; omega)).trans HF.out.d⟩, hoff.wide fun k h => .inl h⟩
end Go.Proofs.YtolgapijpejpoaaDoor
namespace Go.Proofs.YtolgapijpejpoaaDoor
open Go.RowKit Go.Lib Go.MuLone
@[reducible] def EStW (N : Nat) (k : Int) (w' : World) : Prop := w'.cell? ⟨N + 1, 0, none⟩ = some (.slice none 0 0) ∧ w'.cell? ⟨N + 1 + 1, 0, none⟩ = some (.bool false) ∧ w'.cell? ⟨N + 1 + 1 + 1, 0, none⟩ = some (.int .i64 k)
theorem estw1 {N : Nat} {k : Int} {w' : World} (h : EStW N k w') : EStW N k (w'.setCell ⟨N + 1, 0, none⟩ (.slice none 0 0)) :=
  ⟨World.cell?_setCell_same _ _ _ h.1, (World.cell?_setCell_other _ _ _ _ (by simp)).trans h.2.1, (World.cell?_setCell_other _ _ _ _ (by simp)).trans h.2.2⟩
theorem estw2 {N : Nat} {k : Int} {w' : World} (h : EStW N k w') : EStW N k (w'.setCell ⟨N + 1 + 1, 0, none⟩ (.bool false)) :=
  ⟨(World.cell?_setCell_other _ _ _ _ (by simp)).trans h.1, World.cell?_setCell_same _ _ _ h.2.1, (World.cell?_setCell_other _ _ _ _ (by simp)).trans h.2.2⟩
theorem estw3 {N : Nat} {k : Int} {w' : World} (h : EStW N k w') : EStW N k (w'.setCell ⟨N + 1 + 1 + 1, 0, none⟩ (.int .i64 k)) :=
  ⟨(World.cell?_setCell_other _ _ _ _ (by simp)).trans h.1, (World.cell?_setCell_other _ _ _ _ (by simp)).trans h.2.1, World.cell?_setCell_same _ _ _ h.2.2⟩
theorem zzw_fin {w w9 : World} {N : Nat} (hw : w.heap.size = N) (hb : Below N w w9) (x1 x2 x3 : Value) :
    Below N w (((w9.drew.setCell ⟨N + 1, 0, none⟩ x1).setCell ⟨N + 1 + 1, 0, none⟩ x2).setCell ⟨N + 1 + 1 + 1, 0, none⟩ x3) := by
  have b1 := (Below.drew hb).setCell (p := ⟨N + 1, 0, none⟩) (by show N ≤ N + 1; omega) x1
  have b2 := b1.setCell (p := ⟨N + 1 + 1, 0, none⟩) (by show N ≤ N + 1 + 1; omega) x2
  exact b2.setCell (p := ⟨N + 1 + 1 + 1, 0, none⟩) (by show N ≤ N + 1 + 1 + 1; omega) x3
set_option maxRecDepth 100000 in
set_option maxHeartbeats 8000000 in
theorem zzEsc_wrong (s : ByteArray) (w : World) (B : Nat) (hT : Tabs B w) (hB : B ≤ w.heap.size) (hs6 : s.size ≤ 1048576) (ht : tteF s (s.size + 1) 0 [] = .wrong) :
    Calls Tryd.prog 17 #[.string s] w fun e w' => ∃ k : Int, e = .returned (.tuple #[.slice none 0 0, .bool false, .int .i64 k]) ∧ Below w.heap.size w w' := by
  have hs : s.size ≤ 1099511627776 := by omega
  have HT := Lib.hid hT
  have HF := Lib.hid ht
  have hmf := hmf0
  clear hT ht
  go_enter Tryd.func17, Tryd.ntmps17
  go_wp2_with fail
  obtain ⟨F4, B4, z4⟩ := four_world w s
  obtain ⟨W4, hW4⟩ : ∃ W4, (((w.alloc (.cells #[.string s] 9)).alloc (.cells #[.slice none 0 0] 23)).alloc (.cells #[.bool false] 4)).alloc (.cells #[.int .i64 0] 3) = W4 := ⟨_, rfl⟩
  rw [hW4] at F4 B4 z4 ⊢
  have HF4 := Lib.hid F4
  have HB4 := Lib.hid B4
  have T4 : Hid (Tabs B W4) := HT.out.below B4 hB
  clear hW4 F4 B4
  refine (zzLexer_any s W4 B T4.out (by omega) (by omega)).mono ?_
  rintro e w5 ⟨X, K, S, M, H, cs, rfl, G5, C5, L5, o0, o1, o2, o3, o4, B5⟩
  have HG5 := Lib.hid G5
  have HC5 := Lib.hid C5
  have HL5 := Lib.hid L5
  have HB5 := Lib.hid B5
  have z5 := B5.size
  have x5 := G5.lt
  clear G5 C5 L5 B5
  unfold logV
  go_wp2_with fail
  obtain ⟨w6, hw6⟩ : ∃ w6, w5.alloc (.cells #[.pointer (some ⟨X, 0, none⟩)] 61) = w6 := ⟨_, rfl⟩
  obtain ⟨W7, hW7⟩ : ∃ W7, w6.alloc (.cells (logV K S M H 3) 69) = W7 := ⟨_, rfl⟩
  have z6 : w6.heap.size = w5.heap.size + 1 := by rw [← hw6]; simp
  have z7 : W7.heap.size = w5.heap.size + 2 := by rw [← hW7]; simp [z6]
  have b7 : Below w5.heap.size w5 W7 := by rw [← hW7, ← hw6]; exact ((Below.refl _ _).alloc (Nat.le_refl _) _).alloc (by simp) _
  have P7 : W7.heap[w5.heap.size]? = some (.cells #[.pointer (some ⟨X, 0, none⟩)] 61 (0, 0)) := by rw [← hW7, Below.heap_alloc _ _ _ (by omega), ← hw6]; exact heap_alloc_new _ _
  have Q7 : W7.heap[w5.heap.size + 1]? = some (.cells (logV K S M H 3) 69 (0, 0)) := by rw [← hW7, ← z6]; exact heap_alloc_new _ _
  have k7 : ∀ k, k < W4.heap.size → W7.heap[k]? = W4.heap[k]? := fun k hk => (b7.block k (by omega)).trans (HB5.out.block k hk)
  have F7 : FourAt W7 w.heap.size s := ⟨(k7 _ (by omega)).trans HF4.out.a, (k7 _ (by omega)).trans HF4.out.b, (k7 _ (by omega)).trans HF4.out.c, (k7 _ (by omega)).trans HF4.out.d⟩
  have G7 : GoLex W7 X cs := HG5.out.below b7 x5
  have L7 : LogAt W7 K S M H := HL5.out.below b7 (Nat.le_refl _)
  have B7 : Hid (Below w.heap.size w W7) := HB4.out.trans ((HB5.out.mono (by omega)).trans (b7.mono (by omega)))
  unfold logV at hW7
  rw [hw6, hW7]
  clear hw6 hW7 HG5 HL5 HB5 HF4 HB4 b7 k7
  obtain ⟨W8, hW8⟩ : ∃ W8, W7.alloc (.cells #[.bool false] 4) = W8 := ⟨_, rfl⟩
  have z8 : W8.heap.size = w5.heap.size + 3 := by rw [← hW8]; simp [z7]
  have b8 : Below W7.heap.size W7 W8 := by rw [← hW8]; exact (Below.refl _ _).alloc (Nat.le_refl _) _
  have R8 : W8.heap[W7.heap.size]? = some (.cells #[.bool false] 4 (0, 0)) := by rw [← hW8]; exact heap_alloc_new _ _
  have k8 : ∀ k, k < W7.heap.size → W8.heap[k]? = W7.heap[k]? := fun k hk => b8.block k hk
  have F8 : FourAt W8 w.heap.size s := ⟨(k8 _ (by omega)).trans F7.a, (k8 _ (by omega)).trans F7.b, (k8 _ (by omega)).trans F7.c, (k8 _ (by omega)).trans F7.d⟩
  have G8 : GoLex W8 X cs := G7.below b8 (by omega)
  have B8 : Below w.heap.size w W8 := B7.out.trans (b8.mono (by omega))
  have P8 : W8.heap[w5.heap.size]? = some (.cells #[.pointer (some ⟨X, 0, none⟩)] 61 (0, 0)) := (k8 _ (by omega)).trans P7
  have E8 : TEnv X 0 s W8 B := ⟨HT.out.below B8 hB, by omega, hs, by omega, G8.cell ((HC5.out 68 (by omega) (by omega) (by omega) (by omega)).trans (lexV_68 _ _ _ _ _)), by omega⟩
  have L8 : LogAt W8 K S M H := L7.below b8 (Nat.le_refl _)
  have hA : AreOk X (Tlog X S M H) W8 s := areOk_of (B := B) ⟨cs, G8, HC5.out⟩ hs6 (HT.out.below B8 hB) L8 (by omega) o1 o2 o3 o4 (by omega)
  have hc := close_wrong (N := w.heap.size) (a5 := w5.heap.size) E8 HF.out hA hs6 F8 ((cells_of_block P8 0).1) (by omega) o2 o3 o4
  rw [← hW8] at hc
  refine (runs_caught _ W7 (CloseW X S M H w.heap.size (W7.alloc (.cells #[.bool false] 4))) hc ?_).mono ?_
  · rw [hW8]
    rintro w' ⟨_, _, _, hoff⟩
    exact (hoff.block _ (by omega) (by unfold Tzz Tlog; omega)).trans R8
  rw [hW8]
  rintro e w9 ⟨b, rfl, w1, ⟨u1, u2, ⟨k, u3⟩, hoff⟩, hR⟩
  have y1 := hoff.size
  have v1 := (hR.block (w.heap.size + 1) (by omega) (by unfold OnlyR; omega)).trans u1
  have v2 := (hR.block (w.heap.size + 2) (by omega) (by unfold OnlyR; omega)).trans u2
  have v3 := (hR.block (w.heap.size + 3) (by omega) (by unfold OnlyR; omega)).trans u3
  have B9 : Hid (Below w.heap.size w w9) := B8.trans ((hoff.below (by omega) (fun k hk => by unfold Tzz Tlog; omega)).trans (hR.below (by omega) (fun k hk => by unfold OnlyR; omega)))
  have c1 := (cells_of_block v1 0).1
  have c2 : w9.cell? ⟨w.heap.size + 1 + 1, 0, none⟩ = some (.bool false) := (cells_of_block v2 0).1
  have c3 : w9.cell? ⟨w.heap.size + 1 + 1 + 1, 0, none⟩ = some (.int .i64 k) := (cells_of_block v3 0).1
  have f1 := (cells_of_block v1 0).2
  have f2 : w9.frozen? ⟨w.heap.size + 1 + 1, 0, none⟩ = false := (cells_of_block v2 0).2
  have f3 : w9.frozen? ⟨w.heap.size + 1 + 1 + 1, 0, none⟩ = false := (cells_of_block v3 0).2
  simp only [List.getElem?_toArray, List.getElem?_cons_zero] at c1
  clear hc hoff hR u1 u2 u3 v1 v2 v3 k8 b8 R8 F8 G8 B8 P8 E8 hW8 L7 L8 hA G7 F7 P7 Q7 B7 HT HF HC5 T4
  go_wp2
  refine wp_region_held_drew (S := (fun w' => w'.cell? ⟨w.heap.size + 1, 0, none⟩ = some (.slice none 0 0) ∧ w'.cell? ⟨w.heap.size + 1 + 1, 0, none⟩ = some (.bool false) ∧ w'.cell? ⟨w.heap.size + 1 + 1 + 1, 0, none⟩ = some (.int .i64 k))) (by kernel_rfl) ⟨c1, c2, c3⟩ (fun hHeld => ?_)
  refine wpAnyH_take (i := 0) (oi := _) (v := (.slice none 0 0)) rfl (by kernel_rfl) (by kernel_rfl) (by kernel_rfl) (fun _ _ _ h => h) (Or.inl ⟨by kernel_rfl, ?_⟩) (by assumption) ?_
  · intro w hSw
    try dsimp only at hSw
    go_simp
  try simp only [Act.put, List.setIfInBounds_toArray, List.set_cons_zero, List.set_cons_succ]
  refine wpAnyH_take (i := 1) (oi := _) (v := (.bool false)) rfl (by kernel_rfl) (by kernel_rfl) (by kernel_rfl) (fun _ _ _ h => h) (Or.inl ⟨by kernel_rfl, ?_⟩) (by assumption) ?_
  · intro w hSw
    try dsimp only at hSw
    go_simp
  try simp only [Act.put, List.setIfInBounds_toArray, List.set_cons_zero, List.set_cons_succ]
  refine wpAnyH_take (i := 2) (oi := _) (v := (.bool false)) rfl (by kernel_rfl) (by kernel_rfl) (by kernel_rfl) (fun _ _ _ h => h) (Or.inl ⟨by kernel_rfl, ?_⟩) (by assumption) ?_
  · intro w hSw
    try dsimp only at hSw
    go_simp
  try simp only [Act.put, List.setIfInBounds_toArray, List.set_cons_zero, List.set_cons_succ]
  refine wpAnyH_take (i := 3) (oi := _) (v := undef) rfl (by kernel_rfl) (by kernel_rfl) (by kernel_rfl) (fun _ _ _ h => h) (Or.inr ⟨by kernel_rfl, rfl⟩) (by assumption) ?_
  try simp only [Act.put, List.setIfInBounds_toArray, List.set_cons_zero, List.set_cons_succ]
  refine wpAnyH_take (i := 4) (oi := _) (v := (.bool false)) rfl (by kernel_rfl) (by kernel_rfl) (by kernel_rfl) (fun _ _ _ h => h) (Or.inl ⟨by kernel_rfl, ?_⟩) (by assumption) ?_
  · intro w hSw
    try dsimp only at hSw
    go_simp
  try simp only [Act.put, List.setIfInBounds_toArray, List.set_cons_zero, List.set_cons_succ]
  refine wpAnyH_take (i := 5) (oi := _) (v := (.bool false)) rfl (by kernel_rfl) (by kernel_rfl) (by kernel_rfl) (fun _ _ _ h => h) (Or.inl ⟨by kernel_rfl, ?_⟩) (by assumption) ?_
  · intro w hSw
    try dsimp only at hSw
    go_simp
  try simp only [Act.put, List.setIfInBounds_toArray, List.set_cons_zero, List.set_cons_succ]
  refine wpAnyH_take (i := 6) (oi := _) (v := undef) rfl (by kernel_rfl) (by kernel_rfl) (by kernel_rfl) (fun _ _ _ h => h) (Or.inr ⟨by kernel_rfl, rfl⟩) (by assumption) ?_
  try simp only [Act.put, List.setIfInBounds_toArray, List.set_cons_zero, List.set_cons_succ]
  refine wpAnyH_take (i := 7) (oi := _) (v := undef) rfl (by kernel_rfl) (by kernel_rfl) (by kernel_rfl) (fun _ _ _ h => h) (Or.inr ⟨by kernel_rfl, rfl⟩) (by assumption) ?_
  try simp only [Act.put, List.setIfInBounds_toArray, List.set_cons_zero, List.set_cons_succ]
  refine wpAnyH_take (i := 8) (oi := _) (v := undef) rfl (by kernel_rfl) (by kernel_rfl) (by kernel_rfl) (fun _ _ _ h => h) (Or.inr ⟨by kernel_rfl, rfl⟩) (by assumption) ?_
  try simp only [Act.put, List.setIfInBounds_toArray, List.set_cons_zero, List.set_cons_succ]
  refine wpAnyH_take (i := 9) (oi := _) (v := undef) rfl (by kernel_rfl) (by kernel_rfl) (by kernel_rfl) (fun _ _ _ h => h) (Or.inr ⟨by kernel_rfl, rfl⟩) (by assumption) ?_
  try simp only [Act.put, List.setIfInBounds_toArray, List.set_cons_zero, List.set_cons_succ]
  refine wpAnyH_take (i := 10) (oi := _) (v := (.bool false)) rfl (by kernel_rfl) (by kernel_rfl) (by kernel_rfl) (fun _ _ _ h => h) (Or.inl ⟨by kernel_rfl, ?_⟩) (by assumption) ?_
  · intro w hSw
    try dsimp only at hSw
    go_simp
  try simp only [Act.put, List.setIfInBounds_toArray, List.set_cons_zero, List.set_cons_succ]
  refine wpAnyH_take (i := 11) (oi := _) (v := (.int .i64 k)) rfl (by kernel_rfl) (by kernel_rfl) (by kernel_rfl) (fun _ _ _ h => h) (Or.inl ⟨by kernel_rfl, ?_⟩) (by assumption) ?_
  · intro w hSw
    try dsimp only at hSw
    go_simp
  try simp only [Act.put, List.setIfInBounds_toArray, List.set_cons_zero, List.set_cons_succ]
  refine wpAnyH_ready (rs := [12]) (by kernel_rfl) (by simp) ?_
  refine AllReadyH.cons (o := _) rfl (fun K' hK' => ?_) AllReadyH.nil
  go_simp
  refine hK'.out _ _ (estw1 hHeld) (fun hHeld12 => ?_)
  clear hK' K'
  try simp only [Act.put, List.setIfInBounds_toArray, List.set_cons_zero, List.set_cons_succ]
  refine wpAnyH_ready (rs := [13]) (by kernel_rfl) (by simp) ?_
  refine AllReadyH.cons (o := _) rfl (fun K' hK' => ?_) AllReadyH.nil
  go_simp
  refine hK'.out _ _ (estw2 hHeld12) (fun hHeld13 => ?_)
  clear hK' K'
  try simp only [Act.put, List.setIfInBounds_toArray, List.set_cons_zero, List.set_cons_succ]
  refine wpAnyH_ready (rs := [14]) (by kernel_rfl) (by simp) ?_
  refine AllReadyH.cons (o := _) rfl (fun K' hK' => ?_) AllReadyH.nil
  go_simp
  refine hK'.out _ _ (estw3 hHeld13) (fun hHeld14 => ?_)
  clear hK' K'
  try simp only [Act.put, List.setIfInBounds_toArray, List.set_cons_zero, List.set_cons_succ]
  refine wpAnyH_done (by kernel_rfl) ?_ _
  have hbel := zzw_fin rfl B9.out (.slice none 0 0) (.bool false) (.int .i64 k)
  obtain ⟨e1, e2, e3⟩ := hHeld14
  go_wp2
  refine bodyPost_ret (v := .tuple #[.slice none 0 0, .bool false, .int .i64 k]) ?_ rfl ⟨k, rfl, hbel⟩
  simp [results, Tryd.results17, go_sem, e1, e2, e3]
end Go.Proofs.YtolgapijpejpoaaDoor
