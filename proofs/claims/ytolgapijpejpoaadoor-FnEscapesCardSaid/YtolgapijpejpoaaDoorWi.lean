/- Go's log: a message goes into it. Go's log: AddError; the lexer's addRangeError. Go's lexer reports an error: addRangeError. -/
import Derived.Test.YtolgapijpejpoaaDoorWe
import Derived.Test.YtolgapijpejpoaaDoorVw
import Derived.Deep.RegionHeld3
import Derived.Test.YtolgapijpejpoaaDoorVs
namespace Go.Proofs.YtolgapijpejpoaaDoor
open Go.RowKit Go.Lib Go.MuLone
/-- The blocks that an error turns: the lexer's, the log's variables. -/
def Tlog (X S M H : Nat) : Nat → Prop := fun k => k = X ∨ k = S ∨ k = M ∨ k = H
theorem Off.of_beside {T : Nat → Prop} {X : Nat} {w w' : World} (h : Beside w.heap.size X w w') (hX : T X) : Off T w w' := ⟨h.os, h.tape, h.output, h.size, fun k hk ht => h.block k hk (fun e => ht (e ▸ hX))⟩
def msgV (A : Nat) (m : ByteArray) : Array Value := #[.slice none 0 0, .string ⟨#[]⟩, .nilIface, .pointer (some ⟨A, 0, none⟩), .string m, .bool false, .int .u8 0, .int .u8 0]
theorem infoMsg : (Tryd.prog.info? 135).map (fun i => (i.zero, i.size, i.bytes)) = some (some (.agg #[.slice none 0 0, .string ⟨#[]⟩, .nilIface, .pointer none, .string ⟨#[]⟩, .bool false, .int .u8 0, .int .u8 0]), 8, 96) := by kernel_rfl
theorem cells_new (V : World) (cs : Array Value) (t : TypeId) : ∀ j u, cs.toList[j]? = some u → (V.alloc (.cells cs t)).cell? ((⟨V.heap.size, 0, none⟩ : Addr).add j) = some u := by
  intro j u hu
  have hadd : (⟨V.heap.size, 0, none⟩ : Addr).add j = ⟨V.heap.size, j, none⟩ := by unfold Addr.add; split <;> simp_all
  rw [hadd, (cells_of_block (heap_alloc_new _ _) j).1]
  simpa using hu
theorem slice_of_owns {w : World} {base : Nat} {e : TypeId} {size n : Nat} {v : Value} {xs : List Value} (h : w.ownsRow base e size v n xs) : ∃ p k c, v = .slice p k c := by
  rcases h.2 with ⟨rfl, _⟩ | ⟨g, cap, cur, rfl, _⟩
  · exact ⟨_, _, _, rfl⟩
  · exact ⟨_, _, _, rfl⟩
set_option maxRecDepth 100000 in
set_option maxHeartbeats 2000000 in
theorem amsg_any (X K S M H A : Nat) (m : ByteArray) (w : World) (h : LogAt w K S M H) (h1 : K < S) (h2 : S < M) (h3 : M < H) :
    Calls Tryd.prog 40 #[.agg (msgV A m), .pointer (some ⟨K, 0, none⟩), .pointer (some ⟨M, 0, none⟩), .pointer (some ⟨H, 0, none⟩), .pointer (some ⟨S, 0, none⟩)] w fun e w' => e = .returned (.tuple #[]) ∧ Off (Tlog X S M H) w w' := by
  have hH := (Array.getElem?_eq_some_iff.1 h.h).1
  obtain ⟨W, hW⟩ : ∃ W, w.alloc (.cells (msgV A m) 135) = W := ⟨_, rfl⟩
  have z1 : W.heap.size = w.heap.size + 1 := by rw [← hW]; simp
  have b1 : Below w.heap.size w W := by rw [← hW]; exact (Below.refl _ _).alloc (Nat.le_refl _) _
  have L1 := h.below b1 (Nat.le_refl _)
  have hA : W.heap[w.heap.size]? = some (.cells (msgV A m) 135 (0, 0)) := by rw [← hW]; exact heap_alloc_new _ _
  unfold msgV at hW hA
  have k0 := (cells_of_block L1.k 0).1
  have m0 := (cells_of_block L1.m 0).1
  have mf := (cells_of_block L1.m 0).2
  have s0 := (cells_of_block L1.s 0).1
  have sf := (cells_of_block L1.s 0).2
  have e0 := (cells_of_block L1.h 0).1
  have ef := (cells_of_block L1.h 0).2
  have d0 := (cells_of_block hA 0).1
  have d1 := (cells_of_block hA 1).1
  have d2 := (cells_of_block hA 2).1
  have d3 := (cells_of_block hA 3).1
  have d4 := (cells_of_block hA 4).1
  have d5 := (cells_of_block hA 5).1
  have d6 := (cells_of_block hA 6).1
  have d7 := (cells_of_block hA 7).1
  have df := fun i => (cells_of_block hA i).2
  simp only [List.getElem?_toArray, List.getElem?_cons_zero, List.getElem?_cons_succ] at k0 m0 s0 e0 d0 d1 d2 d3 d4 d5 d6 d7
  have B1 := Lib.hid b1
  have HL := Lib.hid L1
  unfold msgV
  clear h hA b1 L1
  obtain ⟨i0, hi0, hz0, hz1, hz2⟩ := info_parts infoMsg
  have n1 : ¬ M = H := by omega
  have n2 : ¬ M = S := by omega
  have n3 : ¬ H = S := by omega
  have n4 : ¬ M = w.heap.size := by omega
  have n5 : ¬ H = w.heap.size := by omega
  have n6 : ¬ S = w.heap.size := by omega
  go_enter_defers Tryd.func40, Tryd.ntmps40
  have q00 : ∀ cs, (((W.setCell ⟨M, 0, none⟩ (.int .i32 1)).setCell ⟨H, 0, none⟩ (.bool true)).alloc (.cells cs 135)).cell? ⟨S, 0, none⟩ = some (.slice none 0 0) := fun cs => by
    rw [World.cell?_of_block (Below.heap_alloc _ _ _ (by simp [World.setCell]; omega)), World.cell?_of_block (Below.heap_setCell _ _ _ _ (by show S ≠ H; omega)), World.cell?_of_block (Below.heap_setCell _ _ _ _ (by show S ≠ M; omega))]
    exact s0
  have q01 : ∀ cs, (((W.setCell ⟨M, 0, none⟩ (.int .i32 1)).setCell ⟨H, 0, none⟩ (.bool true)).alloc (.cells cs 135)).frozen? ⟨S, 0, none⟩ = false := fun cs => by
    rw [World.frozen?_of_block (Below.heap_alloc _ _ _ (by simp [World.setCell]; omega)), World.frozen?_of_block (Below.heap_setCell _ _ _ _ (by show S ≠ H; omega)), World.frozen?_of_block (Below.heap_setCell _ _ _ _ (by show S ≠ M; omega))]
    exact sf
  have q02 : ∀ cs, (((W.setCell ⟨M, 0, none⟩ (.int .i32 1)).setCell ⟨H, 0, none⟩ (.bool true)).alloc (.cells cs 135)).cell? ⟨M, 0, none⟩ = some (.int .i32 1) := fun cs => by
    rw [World.cell?_of_block (Below.heap_alloc _ _ _ (by simp [World.setCell]; omega)), World.cell?_of_block (Below.heap_setCell _ _ _ _ (by show M ≠ H; omega))]
    exact World.cell?_setCell_same W ⟨M, 0, none⟩ (.int .i32 1) m0
  have q03 : ∀ cs, (((W.setCell ⟨M, 0, none⟩ (.int .i32 1)).setCell ⟨H, 0, none⟩ (.bool true)).alloc (.cells cs 135)).frozen? ⟨M, 0, none⟩ = false := fun cs => by
    rw [World.frozen?_of_block (Below.heap_alloc _ _ _ (by simp [World.setCell]; omega)), World.frozen?_of_block (Below.heap_setCell _ _ _ _ (by show M ≠ H; omega))]
    simp [mf]
  have z2 : ((W.setCell ⟨M, 0, none⟩ (.int .i32 1)).setCell ⟨H, 0, none⟩ (.bool true)).heap.size = w.heap.size + 1 := by rw [← z1]; simp [World.setCell]
  go_wp2_with (first | (go_at_call 41; refine (lock_free Tryd.muLib ⟨M, 0, none⟩ _ m0 mf).mono ?_; rintro e w' ⟨rfl, rfl⟩) | (at_builtin; refine wpList_append_own _ rfl _ _ 123 rfl w.heap.size 135 i0 (.agg #[.slice none 0 0, .string ⟨#[]⟩, .nilIface, .pointer none, .string ⟨#[]⟩, .bool false, .int .u8 0, .int .u8 0]) 8 96 Tryd.underlying123 hi0 hz0 hz1 hz2 rfl (by decide) (.slice none 0 0) 0 [] rfl (World.ownsRow_nil _ _ _ _) ⟨w.heap.size + 1, 0, none⟩ 1 1 [.slice none 0 0, .string ⟨#[]⟩, .nilIface, .pointer (some ⟨A, 0, none⟩), .string m, .bool false, .int .u8 0, .int .u8 0] rfl rfl ?_ ?_ ?_ ?_ ?_ ?_; go_must (rw [← z2]; exact cells_new _ _ _); (intro u hu; simp at hu; rcases hu with rfl | rfl | rfl | rfl | rfl | rfl | rfl | rfl <;> rfl); (unfold maxLen; omega); omega; (simp [World.setCell]; omega); intro v' w2 hown hgrow _; obtain ⟨p, n, c, rfl⟩ := slice_of_owns hown; have q0 := (World.cell?_of_block (a := ⟨S, 0, none⟩) (hgrow.block S (by simp [World.setCell]; omega) (by simp [Value.ownBlock]))).trans (q00 _); have qf := (World.frozen?_of_block (a := ⟨S, 0, none⟩) (hgrow.block S (by simp [World.setCell]; omega) (by simp [Value.ownBlock]))).trans (q01 _); have qm := (World.cell?_of_block (a := ⟨M, 0, none⟩) (hgrow.block M (by simp [World.setCell]; omega) (by simp [Value.ownBlock]))).trans (q02 _); have qn := (World.frozen?_of_block (a := ⟨M, 0, none⟩) (hgrow.block M (by simp [World.setCell]; omega) (by simp [Value.ownBlock]))).trans (q03 _)))
  refine leaves_cons (f := 42) (args := #[.pointer (some ⟨M, 0, none⟩)]) (by simp) (by simp [go_sem]) ?_
  refine (unlock_deferred Tryd.muLib ⟨M, 0, none⟩ .returning _ ?_ ?_).mono ?_
  · rw [World.cell?_of_block (Below.heap_setCell _ _ _ _ (by show M ≠ S; omega))]; exact qm
  · rw [World.frozen?_of_block (Below.heap_setCell _ _ _ _ (by show M ≠ S; omega))]; exact qn
  rintro e u' w'' ⟨rfl, rfl, rfl⟩
  refine ⟨_, results_none rfl _ _ _, rfl, ?_⟩
  have g1 : Below 0 w ((W.setCell ⟨M, 0, none⟩ (.int .i32 1)).setCell ⟨H, 0, none⟩ (.bool true)) := ((B1.out.mono (by omega)).setCell (p := ⟨M, 0, none⟩) (Nat.zero_le _) _).setCell (p := ⟨H, 0, none⟩) (Nat.zero_le _) _
  have g2 := (g1.alloc (by omega) (.cells #[.slice none 0 0, .string ⟨#[]⟩, .nilIface, .pointer (some ⟨A, 0, none⟩), .string m, .bool false, .int .u8 0, .int .u8 0] 135)).grown hgrow (by simp [World.setCell]) (fun k hk => by simp [Value.ownBlock] at hk)
  have g3 := (g2.setCell (p := ⟨S, 0, none⟩) (Nat.zero_le _) (.slice p n c)).setCell (p := ⟨M, 0, none⟩) (Nat.zero_le _) (.int .i32 0)
  refine ⟨g3.os, g3.tape, g3.output, g3.size, fun k hk ht => ?_⟩
  have e1 : k ≠ S := fun e => ht (.inr (.inl e))
  have e2 : k ≠ M := fun e => ht (.inr (.inr (.inl e)))
  have e3 : k ≠ H := fun e => ht (.inr (.inr (.inr e)))
  rw [Below.heap_setCell _ _ _ _ e2, Below.heap_setCell _ _ _ _ e1, hgrow.block k (by simp [World.setCell]; omega) (by simp [Value.ownBlock]), Below.heap_alloc _ _ _ (by simp [World.setCell]; omega), Below.heap_setCell _ _ _ _ e3, Below.heap_setCell _ _ _ _ e2]
  exact B1.out.block k hk
end Go.Proofs.YtolgapijpejpoaaDoor
namespace Go.Proofs.YtolgapijpejpoaaDoor
open Go.RowKit Go.Lib
set_option maxRecDepth 100000 in
set_option maxHeartbeats 2000000 in
theorem adderr_any (X : Nat) (s : ByteArray) (a : Nat) (b : Int) (m : ByteArray) (w : World) (B K S M H : Nat) (h : TrAt w X s 0 0 0 0 false) (hs : s.size ≤ 1048576) (ha : a ≤ s.size) (hT : Tabs B w) (hB : B ≤ X) (hL : LogAt w K S M H)
    (h1 : K < S) (h2 : S < M) (h3 : M < H) (h4 : H < X) (h5 : B ≤ K) :
    Calls Tryd.prog 47 #[.agg (logV K S M H 3), .pointer (some ⟨X, 40, none⟩), .agg #[.int .i32 (a : Int), .int .i32 b], .string m] w fun e w' => e = .returned (.tuple #[]) ∧ Off (Tlog X S M H) w w' := by
  have hX := h.lt
  unfold logV
  go_enter Tryd.func47, Tryd.ntmps47
  go_wp2_with fail
  obtain ⟨W1, hW1⟩ : ∃ W1, w.alloc (.cells (logV K S M H 3) 69) = W1 := ⟨_, rfl⟩
  have z1 : W1.heap.size = w.heap.size + 1 := by rw [← hW1]; simp
  have b1 : Below w.heap.size w W1 := by rw [← hW1]; exact (Below.refl _ _).alloc (Nat.le_refl _) _
  have hA1 : W1.heap[w.heap.size]? = some (.cells (logV K S M H 3) 69 (0, 0)) := by rw [← hW1]; exact heap_alloc_new _ _
  unfold logV at hW1 hA1
  rw [hW1]
  obtain ⟨W2, hW2⟩ : ∃ W2, W1.alloc (.cells #[.int .i32 (a : Int), .int .i32 b] 103) = W2 := ⟨_, rfl⟩
  rw [hW2]
  have z2 : W2.heap.size = w.heap.size + 2 := by rw [← hW2]; simp [z1]
  have b2 : Below w.heap.size w W2 := by rw [← hW2]; exact b1.alloc (by omega) _
  have hA2 : W2.heap[w.heap.size + 1]? = some (.cells #[.int .i32 (a : Int), .int .i32 b] 103 (0, 0)) := by rw [← hW2, ← z1]; exact heap_alloc_new _ _
  have hA := (show W2.heap[w.heap.size]? = W1.heap[w.heap.size]? by rw [← hW2, Below.heap_alloc _ _ _ (by omega)]).trans hA1
  have c0 := (cells_of_block hA 0).1
  have c1 := (cells_of_block hA2 0).1
  have c2 := (cells_of_block hA2 1).1
  simp only [List.getElem?_toArray, List.getElem?_cons_zero, List.getElem?_cons_succ] at c0 c1 c2
  have T2 : TrAt W2.drew X s 0 0 0 0 false := (h.below b2 hX).drewN 1
  have L2 := hL.below b2 (Nat.le_refl _)
  have HT : Tabs B W2.drew := hT.below (Below.drew b2) (by omega)
  have hK := (Array.getElem?_eq_some_iff.1 hL.h).1
  have B2 := Lib.hid b2
  clear hW1 hW2 b1 b2 hA1 hA2 hA
  go_region_held3 (fun w' => w'.cell? ⟨w.heap.size, 0, none⟩ = some (.func (.func 40) #[] #[.pointer (some ⟨K, 0, none⟩), .pointer (some ⟨M, 0, none⟩), .pointer (some ⟨H, 0, none⟩), .pointer (some ⟨S, 0, none⟩)]) ∧ w'.cell? ⟨w.heap.size + 1, 0, none⟩ = some (.int .i32 (a : Int)) ∧ w'.cell? ⟨w.heap.size + 1, 1, none⟩ = some (.int .i32 b))
    (first | with_reducible exact ⟨e0, e1, e2⟩ | with_reducible exact ⟨d0, d1, d2⟩ | exact ⟨c0, c1, c2⟩)
    (first | (go_at_call 52; refine (msgd_any X s a b m _ B T2 hs ha HT hB).mono ?_; rintro e w3 ⟨A, rfl, hb3⟩; have B3 := Lib.hid hb3; have d0 := (World.cell?_of_block (a := ⟨w.heap.size, 0, none⟩) (hb3.block w.heap.size (by show w.heap.size < W2.heap.size; omega) (by omega))).trans c0; have d1 := (World.cell?_of_block (a := ⟨w.heap.size + 1, 0, none⟩) (hb3.block (w.heap.size + 1) (by show w.heap.size + 1 < W2.heap.size; omega) (by omega))).trans c1; have d2 := (World.cell?_of_block (a := ⟨w.heap.size + 1, 1, none⟩) (hb3.block (w.heap.size + 1) (by show w.heap.size + 1 < W2.heap.size; omega) (by omega))).trans c2; have L3 : LogAt w3 K S M H := L2.of_blocks fun k e => hb3.block k (by show k < W2.heap.size; omega) (by omega); have z3 : W2.heap.size ≤ w3.heap.size := hb3.size; clear hb3) | (go_at_call 40; refine (amsg_any X K S M H A m _ L3 h1 h2 h3).mono ?_; rintro e w4 ⟨rfl, hb4⟩; have B4 := Lib.hid hb4; have e0 := (World.cell?_of_block (a := ⟨w.heap.size, 0, none⟩) (hb4.block w.heap.size (by omega) (by unfold Tlog; omega))).trans d0; have e1 := (World.cell?_of_block (a := ⟨w.heap.size + 1, 0, none⟩) (hb4.block (w.heap.size + 1) (by omega) (by unfold Tlog; omega))).trans d1; have e2 := (World.cell?_of_block (a := ⟨w.heap.size + 1, 1, none⟩) (hb4.block (w.heap.size + 1) (by omega) (by unfold Tlog; omega))).trans d2; clear hb4))
  go_end0
  have g1 : Off (Tlog X S M H) w W2.drew := Off.of trivial B2.out.drew
  have g2 : Off (Tlog X S M H) W2.drew w3 := Off.of_beside B3.out (.inl rfl)
  exact ⟨rfl, (g1.trans g2).trans B4.out⟩
end Go.Proofs.YtolgapijpejpoaaDoor
namespace Go.Proofs.YtolgapijpejpoaaDoor
open Go.RowKit Go.Lib
/-- Go's lexer as zzLexer leaves it. -/
def LexAt (w : World) (X K S M H : Nat) (s : ByteArray) : Prop := ∃ cs, GoLex w X cs ∧ ∀ k, k ≠ 52 → k ≠ 54 → k ≠ 55 → k ≠ 66 → cs[k]? = (lexV K S M H s)[k]?
theorem lexV_cells (K S M H : Nat) (s : ByteArray) : ((lexV K S M H s).toList.drop 40).take 10 = [.string s, .string ⟨#[]⟩, .string ⟨#[]⟩, .int .i32 0, .int .i32 0, .int .i32 0, .int .i32 0, .bool true, .bool false, .bool true] := by kernel_rfl
theorem lexV_log (K S M H : Nat) (s : ByteArray) : ((lexV K S M H s).toList.drop 5).take 6 = (logV K S M H 3).toList := by kernel_rfl
theorem lexV_84 (K S M H : Nat) (s : ByteArray) : (lexV K S M H s)[84]? = some (.bool false) := by kernel_rfl
theorem at_of_drop {cs : Array Value} {a n : Nat} {l : List Value} (h : (cs.toList.drop a).take n = l) (k : Nat) (hk : k < n) : cs[a + k]? = l[k]? := by
  subst h
  rw [List.getElem?_take_of_lt hk, List.getElem?_drop, Array.getElem?_toList]
set_option maxRecDepth 100000 in
set_option maxHeartbeats 2000000 in
theorem are_any (X : Nat) (s : ByteArray) (a : Nat) (b : Int) (m : ByteArray) (w : World) (B K S M H : Nat) (h : LexAt w X K S M H s) (hs : s.size ≤ 1048576) (ha : a ≤ s.size) (hT : Tabs B w) (hL : LogAt w K S M H)
    (h1 : K < S) (h2 : S < M) (h3 : M < H) (h4 : H < X) (h5 : B ≤ K) :
    Calls Tryd.prog 38 #[.pointer (some ⟨X, 0, none⟩), .agg #[.int .i32 (a : Int), .int .i32 b], .string m] w fun e w' => e = .returned (.tuple #[]) ∧ Off (Tlog X S M H) w w' := by
  obtain ⟨cs, hG, hcs⟩ := h
  have hX := hG.lt
  obtain ⟨W, hW⟩ : ∃ W, w.alloc (.cells #[.int .i32 (a : Int), .int .i32 b] 103) = W := ⟨_, rfl⟩
  have z1 : W.heap.size = w.heap.size + 1 := by rw [← hW]; simp
  have b1 : Below w.heap.size w W := by rw [← hW]; exact (Below.refl _ _).alloc (Nat.le_refl _) _
  have hA : W.heap[w.heap.size]? = some (.cells #[.int .i32 (a : Int), .int .i32 b] 103 (0, 0)) := by rw [← hW]; exact heap_alloc_new _ _
  have d0 := (cells_of_block hA 0).1
  have d1 := (cells_of_block hA 1).1
  simp only [List.getElem?_toArray, List.getElem?_cons_zero, List.getElem?_cons_succ] at d0 d1
  have G1 := hG.below b1 hX
  have L1 := hL.below b1 (Nat.le_refl _)
  have T1 := hT.below b1 (by omega)
  have c67 := G1.cell ((hcs 67 (by omega) (by omega) (by omega) (by omega)).trans (lexV_67 K S M H s))
  have c84 := G1.cell ((hcs 84 (by omega) (by omega) (by omega) (by omega)).trans (lexV_84 K S M H s))
  have cf := G1.free
  have B1 := Lib.hid b1
  have HG := Lib.hid G1
  have g1 : ((a : Int) == -1) = false := by simp
  clear hG hL hT
  go_enter Tryd.func38, Tryd.ntmps38
  go_wp2_with fail
  go_quiet (fail)
  go_wp2_with fail
  obtain ⟨W3, hW3⟩ : ∃ W3, (W.drewN nq).setCell ⟨X, 67, none⟩ (.int .i32 (a : Int)) = W3 := ⟨_, rfl⟩
  rw [hW3]
  have G3 : GoLex W3 X (cs.setIfInBounds 67 (.int .i32 (a : Int))) := by rw [← hW3]; exact (HG.out.drewN nq).set 67 _
  have hcell : ∀ k v, k ≠ 67 → k ≠ 52 → k ≠ 54 → k ≠ 55 → k ≠ 66 → (lexV K S M H s)[k]? = some v → (cs.setIfInBounds 67 (.int .i32 (a : Int)))[k]? = some v := fun k v e0 e1 e2 e3 e4 e => set_ne ((hcs k e1 e2 e3 e4).trans e) (by omega)
  have TT : TrAt W3 X s 0 0 0 0 false := by
    have hl := fun k hk => at_of_drop (lexV_cells K S M H s) k hk
    exact ⟨_, G3, hcell 40 _ (by omega) (by omega) (by omega) (by omega) (by omega) (hl 0 (by omega)), hcell 41 _ (by omega) (by omega) (by omega) (by omega) (by omega) (hl 1 (by omega)), hcell 42 _ (by omega) (by omega) (by omega) (by omega) (by omega) (hl 2 (by omega)), hcell 43 _ (by omega) (by omega) (by omega) (by omega) (by omega) (hl 3 (by omega)), hcell 44 _ (by omega) (by omega) (by omega) (by omega) (by omega) (hl 4 (by omega)),
      hcell 45 _ (by omega) (by omega) (by omega) (by omega) (by omega) (hl 5 (by omega)), hcell 46 _ (by omega) (by omega) (by omega) (by omega) (by omega) (hl 6 (by omega)), hcell 47 _ (by omega) (by omega) (by omega) (by omega) (by omega) (hl 7 (by omega)), hcell 48 _ (by omega) (by omega) (by omega) (by omega) (by omega) (hl 8 (by omega)), hcell 49 _ (by omega) (by omega) (by omega) (by omega) (by omega) (hl 9 (by omega))⟩
  have hl := fun k hk => at_of_drop (lexV_log K S M H s) k hk
  have l0 := G3.cell (hcell 5 _ (by omega) (by omega) (by omega) (by omega) (by omega) (hl 0 (by omega)))
  have l1 := G3.cell (hcell 6 _ (by omega) (by omega) (by omega) (by omega) (by omega) (hl 1 (by omega)))
  have l2 := G3.cell (hcell 7 _ (by omega) (by omega) (by omega) (by omega) (by omega) (hl 2 (by omega)))
  have l3 := G3.cell (hcell 8 _ (by omega) (by omega) (by omega) (by omega) (by omega) (hl 3 (by omega)))
  have l4 := G3.cell (hcell 9 _ (by omega) (by omega) (by omega) (by omega) (by omega) (hl 4 (by omega)))
  have l5 := G3.cell (hcell 10 _ (by omega) (by omega) (by omega) (by omega) (by omega) (hl 5 (by omega)))
  have hother : ∀ k, k ≠ X → W3.heap[k]? = W.heap[k]? := fun k hk => by rw [← hW3]; exact Below.heap_setCell (W.drewN nq) _ _ _ hk
  have e0 := (World.cell?_of_block (a := ⟨w.heap.size, 0, none⟩) (hother w.heap.size (by omega))).trans d0
  have e1 := (World.cell?_of_block (a := ⟨w.heap.size, 1, none⟩) (hother w.heap.size (by omega))).trans d1
  have L3 : LogAt W3 K S M H := L1.of_blocks fun k e => hother k (by omega)
  have B3 : Beside w.heap.size X w W3 := by rw [← hW3]; exact ((Beside.of_below B1.out).drewN nq).setCell (p := ⟨X, 67, none⟩) (.inl rfl) _
  have T3 : Tabs B W3 := by rw [← hW3]; exact (T1.beside (((Beside.refl W.heap.size X W).drewN nq).setCell (p := ⟨X, 67, none⟩) (.inl rfl) _) (by omega) (by omega))
  have HC := Lib.hid (adderr_any X s a b m W3.drew B K S M H (TT.drewN 1) hs ha (T3.below (Below.drew (Below.refl B W3)) (Nat.le_refl _)) (by omega) ⟨L3.k, L3.s, L3.m, L3.h⟩ h1 h2 h3 h4 h5)
  have HB := Lib.hid B3
  clear TT B3 T3 L3 hother hcell hl G3 hW3 c67 c84 cf d0 d1 L1 T1 G1 hA b1
  go_still_tail 9, (by kernel_rfl)
  change wpList _ _ _ _ _ W3.drew
  go_wp2_with fail
  refine HC.out.mono ?_
  rintro e w4 ⟨rfl, hb4⟩
  go_wp2
  go_end0
  exact ⟨rfl, ((Off.of_beside HB.out (.inl rfl)).trans (Off.of trivial (Below.drew (Below.refl _ _)))).trans hb4⟩
theorem LexAt.below {w w' : World} {X K S M H B : Nat} {s : ByteArray} (h : LexAt w X K S M H s) (hb : Below B w w') (hB : X < B) : LexAt w' X K S M H s := by
  obtain ⟨cs, g, hc⟩ := h
  exact ⟨cs, g.below hb hB, hc⟩
theorem areOk_of {X : Nat} {s : ByteArray} {w : World} {B K S M H : Nat} (h : LexAt w X K S M H s) (hs : s.size ≤ 1048576) (hT : Tabs B w) (hL : LogAt w K S M H) (hB : B ≤ w.heap.size)
    (h1 : K < S) (h2 : S < M) (h3 : M < H) (h4 : H < X) (h5 : B ≤ K) : AreOk X (Tlog X S M H) w s := by
  intro w1 a b m hb ha
  have hX : X < w.heap.size := by obtain ⟨cs, g, _⟩ := h; exact g.lt
  exact (are_any X s a b m w1 B K S M H (h.below hb hX) hs ha (hT.below hb hB) (hL.below hb (Nat.le_refl _)) h1 h2 h3 h4 h5).mono fun e w' h => ⟨_, h.1, h.2⟩
end Go.Proofs.YtolgapijpejpoaaDoor
