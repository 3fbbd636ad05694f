/- Go's log and lexer made. -/
import Derived.Test.YthknielnhmoobaaGreatDoorHa
import Derived.Laws.EntriesVeiled
namespace Go.Proofs.YthknielnhmoobaaGreatDoor
open Go.RowKit Go.Lib
theorem hmf0 : ∀ (fn : Fn) (first cap : Array Value) (w : World), (Instr.makeFunc fn first cap).run Tryz.prog w = .ok (.func fn first cap) w := fun _ _ _ _ => rfl
theorem cells_of_block {w : World} {b : Nat} {c : Array Value} {t : TypeId} (h : w.heap[b]? = some (.cells c t (0, 0))) (i : Nat) : w.cell? ⟨b, i, none⟩ = c[i]? ∧ w.frozen? ⟨b, i, none⟩ = false := by
  constructor
  · simp [World.cell?, h]
  · simp [World.frozen?, h]
/-- A log's value: its four functions. -/
def logV (K S M H : Nat) (l : Int) : Array Value :=
  #[.func (.func 41) #[] #[.pointer (some ⟨K, 0, none⟩), .pointer (some ⟨M, 0, none⟩), .pointer (some ⟨H, 0, none⟩), .pointer (some ⟨S, 0, none⟩)],
    .func (.func 44) #[] #[.pointer (some ⟨M, 0, none⟩), .pointer (some ⟨H, 0, none⟩)], .func (.func 45) #[] #[.pointer (some ⟨M, 0, none⟩), .pointer (some ⟨S, 0, none⟩)],
    .func (.func 46) #[] #[.pointer (some ⟨M, 0, none⟩), .pointer (some ⟨S, 0, none⟩)], .int .i8 l, .map none]
/-- The log's variables: its kind, its messages, its lock, whether there are errors. -/
structure LogAt (w : World) (K S M H : Nat) : Prop where
  k : w.heap[K]? = some (.cells #[.int .u8 0] 107 (0, 0))
  s : w.heap[S]? = some (.cells #[.slice none 0 0] 124 (0, 0))
  m : w.heap[M]? = some (.cells #[.int .i32 0, .int .u32 0] 130 (0, 0))
  h : w.heap[H]? = some (.cells #[.bool false] 4 (0, 0))
theorem LogAt.of_blocks {w w' : World} {K S M H : Nat} (h : LogAt w K S M H) (e : ∀ k, k = K ∨ k = S ∨ k = M ∨ k = H → w'.heap[k]? = w.heap[k]?) : LogAt w' K S M H :=
  ⟨(e K (.inl rfl)).trans h.k, (e S (.inr (.inl rfl))).trans h.s, (e M (.inr (.inr (.inl rfl)))).trans h.m, (e H (.inr (.inr (.inr rfl)))).trans h.h⟩
theorem LogAt.below {w w' : World} {K S M H B : Nat} (h : LogAt w K S M H) (hb : Below B w w') (hB : w.heap.size ≤ B) : LogAt w' K S M H := by
  have hk := (Array.getElem?_eq_some_iff.1 h.k).1
  have hs := (Array.getElem?_eq_some_iff.1 h.s).1
  have hm := (Array.getElem?_eq_some_iff.1 h.m).1
  have hh := (Array.getElem?_eq_some_iff.1 h.h).1
  exact h.of_blocks fun k e => hb.block k (by omega)
theorem ndl_world (w : World) (c : Array Value) : let W := ((((w.alloc (.cells #[.int .u8 0] 107)).alloc (.cells c 52)).alloc (.cells #[.slice none 0 0] 124)).alloc (.cells #[.int .i32 0, .int .u32 0] 130)).alloc (.cells #[.bool false] 4)
    LogAt W w.heap.size (w.heap.size + 2) (w.heap.size + 3) (w.heap.size + 4) ∧ Below w.heap.size w W ∧ W.heap.size = w.heap.size + 5 := by
  intro W
  obtain ⟨w1, h1⟩ : ∃ w1, w.alloc (.cells #[.int .u8 0] 107) = w1 := ⟨_, rfl⟩
  obtain ⟨w2, h2⟩ : ∃ w2, w1.alloc (.cells c 52) = w2 := ⟨_, rfl⟩
  obtain ⟨w3, h3⟩ : ∃ w3, w2.alloc (.cells #[.slice none 0 0] 124) = w3 := ⟨_, rfl⟩
  obtain ⟨w4, h4⟩ : ∃ w4, w3.alloc (.cells #[.int .i32 0, .int .u32 0] 130) = w4 := ⟨_, rfl⟩
  have hW : W = w4.alloc (.cells #[.bool false] 4) := by show World.alloc (World.alloc (World.alloc (World.alloc (World.alloc w _) _) _) _) _ = _; rw [h1, h2, h3, h4]
  have z1 : w1.heap.size = w.heap.size + 1 := by rw [← h1]; simp
  have z2 : w2.heap.size = w.heap.size + 2 := by rw [← h2]; simp [z1]
  have z3 : w3.heap.size = w.heap.size + 3 := by rw [← h3]; simp [z2]
  have z4 : w4.heap.size = w.heap.size + 4 := by rw [← h4]; simp [z3]
  have n1 : w1.heap[w.heap.size]? = some (.cells #[.int .u8 0] 107 (0, 0)) := by rw [← h1]; exact heap_alloc_new _ _
  have n3 : w3.heap[w.heap.size + 2]? = some (.cells #[.slice none 0 0] 124 (0, 0)) := by rw [← h3, ← z2]; exact heap_alloc_new _ _
  have n4 : w4.heap[w.heap.size + 3]? = some (.cells #[.int .i32 0, .int .u32 0] 130 (0, 0)) := by rw [← h4, ← z3]; exact heap_alloc_new _ _
  have n5 : W.heap[w.heap.size + 4]? = some (.cells #[.bool false] 4 (0, 0)) := by rw [hW, ← z4]; exact heap_alloc_new _ _
  have k1 : ∀ k, k < w1.heap.size → w2.heap[k]? = w1.heap[k]? := fun k hk => by rw [← h2]; exact Below.heap_alloc _ _ _ hk
  have k2 : ∀ k, k < w2.heap.size → w3.heap[k]? = w2.heap[k]? := fun k hk => by rw [← h3]; exact Below.heap_alloc _ _ _ hk
  have k3 : ∀ k, k < w3.heap.size → w4.heap[k]? = w3.heap[k]? := fun k hk => by rw [← h4]; exact Below.heap_alloc _ _ _ hk
  have k4 : ∀ k, k < w4.heap.size → W.heap[k]? = w4.heap[k]? := fun k hk => by rw [hW]; exact Below.heap_alloc _ _ _ hk
  refine ⟨⟨?_, ?_, ?_, n5⟩, ?_, ?_⟩
  · rw [k4 _ (by omega), k3 _ (by omega), k2 _ (by omega), k1 _ (by omega), n1]
  · rw [k4 _ (by omega), k3 _ (by omega), n3]
  · rw [k4 _ (by omega), n4]
  · have b1 : Below w.heap.size w w1 := by rw [← h1]; exact (Below.refl _ _).alloc (Nat.le_refl _) _
    have b2 : Below w.heap.size w w2 := by rw [← h2]; exact b1.alloc (by omega) _
    have b3 : Below w.heap.size w w3 := by rw [← h3]; exact b2.alloc (by omega) _
    have b4 : Below w.heap.size w w4 := by rw [← h4]; exact b3.alloc (by omega) _
    rw [hW]; exact b4.alloc (by omega) _
  · rw [hW]; simp [z4]
def NdlPost (w : World) (e : Ending) (w' : World) : Prop :=
  e = .returned (.agg (logV w.heap.size (w.heap.size + 2) (w.heap.size + 3) (w.heap.size + 4) 3)) ∧ LogAt w' w.heap.size (w.heap.size + 2) (w.heap.size + 3) (w.heap.size + 4) ∧ Below w.heap.size w w' ∧ w'.heap.size = w.heap.size + 5
set_option maxHeartbeats 1000000 in
theorem ndl_any (w : World) : Calls Tryz.prog 28 #[.int .u8 0, .map none] w (NdlPost w) := by
  have hmf := hmf0
  go_enter Tryz.func28, Tryz.ntmps28
  go_wp2
  refine bodyPost_ret (v := .agg (logV w.heap.size (w.heap.size + 2) (w.heap.size + 3) (w.heap.size + 4) 3)) ?_ rfl ?_
  · simp [results, Tryz.results28, go_sem]
    all_goals rfl
  · have h := ndl_world w (logV w.heap.size (w.heap.size + 2) (w.heap.size + 3) (w.heap.size + 4) 3)
    exact ⟨rfl, h⟩

/-- A text's tracker, fresh. -/
def trackV (s : ByteArray) : Array Value := #[.string s, .string ⟨#[]⟩, .string ⟨#[]⟩, .int .i32 0, .int .i32 0, .int .i32 0, .int .i32 0, .bool true, .bool false, .bool true]
set_option maxRecDepth 100000 in
set_option maxHeartbeats 1000000 in
theorem track_any (P : Nat) (s : ByteArray) (w : World) (c3 : w.cell? ⟨P, 3, none⟩ = some (.string s)) (c0 : w.cell? ⟨P, 0, none⟩ = some (.string ⟨#[]⟩)) (c1 : w.cell? ⟨P, 1, none⟩ = some (.string ⟨#[]⟩)) :
    Calls Tryz.prog 29 #[.pointer (some ⟨P, 0, none⟩)] w fun e w' => e = .returned (.agg (trackV s)) ∧ Below w.heap.size w w' := by
  go_enter Tryz.func29, Tryz.ntmps29
  go_wp2
  obtain ⟨W, hW⟩ : ∃ W, w.alloc (.cells #[.string ⟨#[]⟩, .string ⟨#[]⟩, .string ⟨#[]⟩, .int .i32 0, .int .i32 0, .int .i32 0, .int .i32 0, .bool false, .bool false, .bool false] 78) = W := ⟨_, rfl⟩
  have hlt : P < w.heap.size := World.block_lt_of_cell? w _ c3
  have hk : ∀ k, k < w.heap.size → W.heap[k]? = w.heap[k]? := fun k hk => by rw [← hW]; exact Below.heap_alloc _ _ _ hk
  have d3 : W.cell? ⟨P, 3, none⟩ = some (.string s) := (World.cell?_of_block (hk P hlt)).trans c3
  have d0 : W.cell? ⟨P, 0, none⟩ = some (.string ⟨#[]⟩) := (World.cell?_of_block (hk P hlt)).trans c0
  have d1 : W.cell? ⟨P, 1, none⟩ = some (.string ⟨#[]⟩) := (World.cell?_of_block (hk P hlt)).trans c1
  have hb : W.heap[w.heap.size]? = some (.cells #[.string ⟨#[]⟩, .string ⟨#[]⟩, .string ⟨#[]⟩, .int .i32 0, .int .i32 0, .int .i32 0, .int .i32 0, .bool false, .bool false, .bool false] 78 (0, 0)) := by rw [← hW]; exact heap_alloc_new _ _
  have B1 : Hid (Below w.heap.size w W) := by rw [← hW]; exact (Below.refl _ _).alloc (Nat.le_refl _) _
  have e0 := (cells_of_block hb 0).1
  have e1 := (cells_of_block hb 1).1
  have e2 := (cells_of_block hb 2).1
  have e3 := (cells_of_block hb 3).1
  have e4 := (cells_of_block hb 4).1
  have e5 := (cells_of_block hb 5).1
  have e6 := (cells_of_block hb 6).1
  have e7 := (cells_of_block hb 7).1
  have e8 := (cells_of_block hb 8).1
  have e9 := (cells_of_block hb 9).1
  simp only [List.getElem?_toArray, List.getElem?_cons_zero, List.getElem?_cons_succ] at e0 e1 e2 e3 e4 e5 e6 e7 e8 e9
  have hf := fun i => (cells_of_block hb i).2
  rw [hW]
  clear hW hk hb c3 c0 c1
  go_still_tail 8, (by kernel_rfl)
  change wpList _ _ _ _ _ W.drew
  go_wp2
  refine bodyPost_ret (v := .agg (trackV s)) ?_ rfl ⟨rfl, ?_⟩
  · simp [results, Tryz.results29, go_sem, e0, e1, e2, e3, e4, e5, e6, e7, e8, e9, hf]
    all_goals rfl
  · refine Below.drew ?_
    iterate 10 refine Below.setCell ?_ (by exact Nat.le_refl _) _
    exact B1.out
end Go.Proofs.YthknielnhmoobaaGreatDoor
