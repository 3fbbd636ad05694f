/- Go's lexer made over a text. -/
import Derived.Test.YthknielnhmoobaaGreatDoorHb
import Derived.Deep.RegionHeld3
namespace Go.Proofs.YthknielnhmoobaaGreatDoor
open Go.RowKit Go.Lib
/-- A text's source. -/
def srcV (s : ByteArray) : Array Value := #[.string ⟨#[]⟩, .string ⟨#[]⟩, .string ⟨#[]⟩, .string s, .string ⟨#[]⟩, .string ⟨#[]⟩, .string ⟨#[]⟩, .string ⟨#[]⟩, .int .u8 0, .int .u32 0]
/-- Both lie in memory, cell by cell. -/
structure TwoAt (w : World) (P Q K S M H : Nat) (s : ByteArray) : Prop where
  l : w.heap[P]? = some (.cells (logV K S M H 3) 52 (0, 0))
  s : w.heap[Q]? = some (.cells (srcV s) 70 (0, 0))
section
variable {w w' : World} {P Q K S M H : Nat} {s : ByteArray}
theorem TwoAt.below (h : TwoAt w P Q K S M H s) (hb : Below w.heap.size w w') : TwoAt w' P Q K S M H s :=
  ⟨(hb.block P (Array.getElem?_eq_some_iff.1 h.l).1).trans h.l, (hb.block Q (Array.getElem?_eq_some_iff.1 h.s).1).trans h.s⟩
theorem TwoAt.lc (h : TwoAt w P Q K S M H s) : w.cell? ⟨P, 0, none⟩ = some (.func (.func 41) #[] #[.pointer (some ⟨K, 0, none⟩), .pointer (some ⟨M, 0, none⟩), .pointer (some ⟨H, 0, none⟩), .pointer (some ⟨S, 0, none⟩)]) ∧
    w.cell? ⟨P, 1, none⟩ = some (.func (.func 44) #[] #[.pointer (some ⟨M, 0, none⟩), .pointer (some ⟨H, 0, none⟩)]) ∧ w.cell? ⟨P, 2, none⟩ = some (.func (.func 45) #[] #[.pointer (some ⟨M, 0, none⟩), .pointer (some ⟨S, 0, none⟩)]) ∧
    w.cell? ⟨P, 3, none⟩ = some (.func (.func 46) #[] #[.pointer (some ⟨M, 0, none⟩), .pointer (some ⟨S, 0, none⟩)]) ∧ w.cell? ⟨P, 4, none⟩ = some (.int .i8 3) ∧ w.cell? ⟨P, 5, none⟩ = some (.map none) :=
  ⟨(cells_of_block h.l 0).1, (cells_of_block h.l 1).1, (cells_of_block h.l 2).1, (cells_of_block h.l 3).1, (cells_of_block h.l 4).1, (cells_of_block h.l 5).1⟩
theorem TwoAt.sc (h : TwoAt w P Q K S M H s) : w.cell? ⟨Q, 0, none⟩ = some (.string ⟨#[]⟩) ∧ w.cell? ⟨Q, 1, none⟩ = some (.string ⟨#[]⟩) ∧ w.cell? ⟨Q, 2, none⟩ = some (.string ⟨#[]⟩) ∧ w.cell? ⟨Q, 3, none⟩ = some (.string s) ∧
    w.cell? ⟨Q, 4, none⟩ = some (.string ⟨#[]⟩) ∧ w.cell? ⟨Q, 5, none⟩ = some (.string ⟨#[]⟩) ∧ w.cell? ⟨Q, 6, none⟩ = some (.string ⟨#[]⟩) ∧ w.cell? ⟨Q, 7, none⟩ = some (.string ⟨#[]⟩) ∧ w.cell? ⟨Q, 8, none⟩ = some (.int .u8 0) ∧ w.cell? ⟨Q, 9, none⟩ = some (.int .u32 0) :=
  ⟨(cells_of_block h.s 0).1, (cells_of_block h.s 1).1, (cells_of_block h.s 2).1, (cells_of_block h.s 3).1, (cells_of_block h.s 4).1, (cells_of_block h.s 5).1, (cells_of_block h.s 6).1, (cells_of_block h.s 7).1, (cells_of_block h.s 8).1, (cells_of_block h.s 9).1⟩
end
theorem TwoAt.all {w' : World} {K S M H : Nat} {s : ByteArray} (h : TwoAt w' (K + 5) (K + 5 + 1) K S M H s) : TwoAt w' (K + 5) (K + 5 + 1) K S M H s ∧ w'.cell? ⟨K + 5, 0, none⟩ = some (.func (.func 41) #[] #[.pointer (some ⟨K, 0, none⟩), .pointer (some ⟨M, 0, none⟩), .pointer (some ⟨H, 0, none⟩), .pointer (some ⟨S, 0, none⟩)]) ∧
    w'.cell? ⟨K + 5, 1, none⟩ = some (.func (.func 44) #[] #[.pointer (some ⟨M, 0, none⟩), .pointer (some ⟨H, 0, none⟩)]) ∧ w'.cell? ⟨K + 5, 2, none⟩ = some (.func (.func 45) #[] #[.pointer (some ⟨M, 0, none⟩), .pointer (some ⟨S, 0, none⟩)]) ∧
    w'.cell? ⟨K + 5, 3, none⟩ = some (.func (.func 46) #[] #[.pointer (some ⟨M, 0, none⟩), .pointer (some ⟨S, 0, none⟩)]) ∧ w'.cell? ⟨K + 5, 4, none⟩ = some (.int .i8 3) ∧ w'.cell? ⟨K + 5, 5, none⟩ = some (.map none) ∧
    w'.cell? ⟨K + 5 + 1, 0, none⟩ = some (.string ⟨#[]⟩) ∧ w'.cell? ⟨K + 5 + 1, 1, none⟩ = some (.string ⟨#[]⟩) ∧ w'.cell? ⟨K + 5 + 1, 2, none⟩ = some (.string ⟨#[]⟩) ∧ w'.cell? ⟨K + 5 + 1, 3, none⟩ = some (.string s) ∧
    w'.cell? ⟨K + 5 + 1, 4, none⟩ = some (.string ⟨#[]⟩) ∧ w'.cell? ⟨K + 5 + 1, 5, none⟩ = some (.string ⟨#[]⟩) ∧ w'.cell? ⟨K + 5 + 1, 6, none⟩ = some (.string ⟨#[]⟩) ∧ w'.cell? ⟨K + 5 + 1, 7, none⟩ = some (.string ⟨#[]⟩) ∧ w'.cell? ⟨K + 5 + 1, 8, none⟩ = some (.int .u8 0) ∧ w'.cell? ⟨K + 5 + 1, 9, none⟩ = some (.int .u32 0) := by
  obtain ⟨a0, a1, a2, a3, a4, a5⟩ := h.lc
  obtain ⟨b0, b1, b2, b3, b4, b5, b6, b7, b8, b9⟩ := h.sc
  exact ⟨h, a0, a1, a2, a3, a4, a5, b0, b1, b2, b3, b4, b5, b6, b7, b8, b9⟩
theorem TwoAt.drew {w : World} {P Q K S M H : Nat} {s : ByteArray} (h : TwoAt w P Q K S M H s) : TwoAt w.drew P Q K S M H s := ⟨h.l, h.s⟩
theorem TwoAt.alloc {w : World} {P Q K S M H : Nat} {s : ByteArray} (h : TwoAt w P Q K S M H s) (o : Obj) : TwoAt (w.alloc o) P Q K S M H s := h.below ((Below.refl _ _).alloc (Nat.le_refl _) _)
/-- What Go's lexer is made of. -/
def lexParts (K S M H : Nat) (s : ByteArray) : Array (Nat × Value) :=
  #[(4, .agg #[.func (.func 41) #[] #[.pointer (some ⟨K, 0, none⟩), .pointer (some ⟨M, 0, none⟩), .pointer (some ⟨H, 0, none⟩), .pointer (some ⟨S, 0, none⟩)],
    .func (.func 44) #[] #[.pointer (some ⟨M, 0, none⟩), .pointer (some ⟨H, 0, none⟩)], .func (.func 45) #[] #[.pointer (some ⟨M, 0, none⟩), .pointer (some ⟨S, 0, none⟩)],
    .func (.func 46) #[] #[.pointer (some ⟨M, 0, none⟩), .pointer (some ⟨S, 0, none⟩)], .int .i8 3, .map none]),
    (5, .agg #[.string ⟨#[]⟩, .string ⟨#[]⟩, .string ⟨#[]⟩, .string s, .string ⟨#[]⟩, .string ⟨#[]⟩, .string ⟨#[]⟩, .string ⟨#[]⟩, .int .u8 0, .int .u32 0]), (15, .agg (trackV s)), (30, .agg #[.int .i32 (-1)]), (26, .agg #[.int .i32 (-1)]), (31, .int .u8 2)]
noncomputable def lexV (K S M H : Nat) (s : ByteArray) : Array Value := (Tryz.prog.built 89 (lexParts K S M H s).toList).getD #[]
theorem lexV_built (K S M H : Nat) (s : ByteArray) : Tryz.prog.built 89 (lexParts K S M H s).toList = some (lexV K S M H s) := by kernel_rfl
theorem lexV_size (K S M H : Nat) (s : ByteArray) : (lexV K S M H s).size = 85 := by kernel_rfl
theorem lexV_14 (K S M H : Nat) (s : ByteArray) : (lexV K S M H s)[14]? = some (.string s) := by kernel_rfl
theorem lexV_52 (K S M H : Nat) (s : ByteArray) : (lexV K S M H s)[52]? = some (.int .i64 0) := by kernel_rfl
theorem lexV_55 (K S M H : Nat) (s : ByteArray) : (lexV K S M H s)[55]? = some (.int .i64 0) := by kernel_rfl
theorem lexV_68 (K S M H : Nat) (s : ByteArray) : (lexV K S M H s)[68]? = some (.int .u8 2) := by kernel_rfl
theorem lexV_67 (K S M H : Nat) (s : ByteArray) : (lexV K S M H s)[67]? = some (.int .i32 (-1)) := by kernel_rfl
theorem lex_build (K S M H : Nat) (s : ByteArray) (w : World) : (Instr.build 89 #[(4, .agg #[.func (.func 41) #[] #[.pointer (some ⟨K, 0, none⟩), .pointer (some ⟨M, 0, none⟩), .pointer (some ⟨H, 0, none⟩), .pointer (some ⟨S, 0, none⟩)],
    .func (.func 44) #[] #[.pointer (some ⟨M, 0, none⟩), .pointer (some ⟨H, 0, none⟩)], .func (.func 45) #[] #[.pointer (some ⟨M, 0, none⟩), .pointer (some ⟨S, 0, none⟩)],
    .func (.func 46) #[] #[.pointer (some ⟨M, 0, none⟩), .pointer (some ⟨S, 0, none⟩)], .int .i8 3, .map none]),
    (5, .agg #[.string ⟨#[]⟩, .string ⟨#[]⟩, .string ⟨#[]⟩, .string s, .string ⟨#[]⟩, .string ⟨#[]⟩, .string ⟨#[]⟩, .string ⟨#[]⟩, .int .u8 0, .int .u32 0]), (15, .agg (trackV s)), (30, .agg #[.int .i32 (-1)]), (26, .agg #[.int .i32 (-1)]), (31, .int .u8 2)]).run Tryz.prog w = .ok (.agg (lexV K S M H s)) w :=
  run_build w 89 (lexParts K S M H s) _ (lexV_built K S M H s)
theorem src_build (s : ByteArray) (w : World) : (Instr.build 70 #[(2, .string s)]).run Tryz.prog w = .ok (.agg #[.string ⟨#[]⟩, .string ⟨#[]⟩, .string ⟨#[]⟩, .string s, .string ⟨#[]⟩, .string ⟨#[]⟩, .string ⟨#[]⟩, .string ⟨#[]⟩, .int .u8 0, .int .u32 0]) w :=
  run_build w 70 _ _ (by kernel_rfl)
theorem loc_build (w : World) : (Instr.build 72 #[(0, .int .i32 (-1))]).run Tryz.prog w = .ok (.agg #[.int .i32 (-1)]) w := run_build w 72 _ _ (by kernel_rfl)
theorem lex_exec {ev : Operand → Value} {ty : TypeId} {pos : String} {af : Array Edge} {gd : Option (Nat × Bool)} {d : Nat} {K S M H : Nat} {s : ByteArray} {x4 x5 x15 x30 x26 x31 : Operand} (w : World)
    (h4 : ev x4 = .agg #[.func (.func 41) #[] #[.pointer (some ⟨K, 0, none⟩), .pointer (some ⟨M, 0, none⟩), .pointer (some ⟨H, 0, none⟩), .pointer (some ⟨S, 0, none⟩)],
    .func (.func 44) #[] #[.pointer (some ⟨M, 0, none⟩), .pointer (some ⟨H, 0, none⟩)], .func (.func 45) #[] #[.pointer (some ⟨M, 0, none⟩), .pointer (some ⟨S, 0, none⟩)],
    .func (.func 46) #[] #[.pointer (some ⟨M, 0, none⟩), .pointer (some ⟨S, 0, none⟩)], .int .i8 3, .map none])
    (h5 : ev x5 = .agg #[.string ⟨#[]⟩, .string ⟨#[]⟩, .string ⟨#[]⟩, .string s, .string ⟨#[]⟩, .string ⟨#[]⟩, .string ⟨#[]⟩, .string ⟨#[]⟩, .int .u8 0, .int .u32 0]) (h15 : ev x15 = .agg (trackV s)) (h30 : ev x30 = .agg #[.int .i32 (-1)]) (h26 : ev x26 = .agg #[.int .i32 (-1)]) (h31 : ev x31 = .int .u8 2) :
    (execOp ev ⟨some d, .build 89 #[(4, x4), (5, x5), (15, x15), (30, x30), (26, x26), (31, x31)], ty, pos, af, gd⟩).run Tryz.prog w = .ok (.value (.agg (lexV K S M H s))) w := by
  have h := lex_build K S M H s w
  simp [execOp, h4, h5, h15, h30, h26, h31, h]
/-- What the making of a lexer leaves: the lexer's block X, the log's variables, all of them new. -/
def LexPost (w : World) (s : ByteArray) (e : Ending) (w' : World) : Prop :=
  ∃ X K S M H cs, e = .returned (.tuple #[.pointer (some ⟨X, 0, none⟩), .agg (logV K S M H 3)]) ∧ GoLex w' X cs ∧ (∀ k, k ≠ 52 → k ≠ 54 → k ≠ 55 → k ≠ 66 → cs[k]? = (lexV K S M H s)[k]?) ∧ LogAt w' K S M H ∧ w.heap.size ≤ K ∧ K < S ∧ S < M ∧ M < H ∧ H < X ∧ Below w.heap.size w w'
theorem lex_fin {w w6 W : World} {s : ByteArray} {X K S M H : Nat} {cs : Array Value} (G : GoLex w6 X cs) (C : ∀ k, k ≠ 52 → k ≠ 54 → k ≠ 55 → k ≠ 66 → cs[k]? = (lexV K S M H s)[k]?) (L : LogAt w6 K S M H) (B6 : Below w.heap.size w w6)
    (h0 : w.heap.size < K) (h1 : K < S) (h2 : S < M) (h3 : M < H) (h4 : H < X) (hb : Beside w6.heap.size w.heap.size w6 W) : LexPost w s (.returned (.tuple #[.pointer (some ⟨X, 0, none⟩), .agg (logV K S M H 3)])) W := by
  have hx := G.lt
  exact ⟨X, K, S, M, H, cs, rfl, G.of_block (hb.block X hx (by omega)), C, L.of_blocks fun k e => hb.block k (by omega) (by omega), by omega, h1, h2, h3, h4, B6.trans ((hb.mono B6.size).below (Nat.le_refl _))⟩
theorem beside6 (A : Nat) (w : World) (v0 v1 v2 v3 v4 v5 : Value) : Beside w.heap.size A w ((((((w.setCell ⟨A, 0, none⟩ v0).setCell ⟨A, 1, none⟩ v1).setCell ⟨A, 2, none⟩ v2).setCell ⟨A, 3, none⟩ v3).setCell ⟨A, 4, none⟩ v4).setCell ⟨A, 5, none⟩ v5).drew := by
  have b0 := (Beside.refl w.heap.size A w).setCell (p := ⟨A, 0, none⟩) (.inl rfl) v0
  have b1 := b0.setCell (p := ⟨A, 1, none⟩) (.inl rfl) v1
  have b2 := b1.setCell (p := ⟨A, 2, none⟩) (.inl rfl) v2
  have b3 := b2.setCell (p := ⟨A, 3, none⟩) (.inl rfl) v3
  have b4 := b3.setCell (p := ⟨A, 4, none⟩) (.inl rfl) v4
  exact (b4.setCell (p := ⟨A, 5, none⟩) (.inl rfl) v5).drew
set_option maxRecDepth 100000 in
set_option maxHeartbeats 2000000 in
theorem zzLexer_any (s : ByteArray) (w : World) (B : Nat) (hT : Tabs B w) (hB : B ≤ w.heap.size) (hs : s.size ≤ 2305843009213693951) : Calls Tryz.prog 13 #[.string s] w (LexPost w s) := by
  have HT := Lib.hid hT
  clear hT
  go_enter Tryz.func13, Tryz.ntmps13
  go_wp2_with fail
  obtain ⟨W0, hW0⟩ : ∃ W0, w.alloc (.cells #[.nilFunc, .nilFunc, .nilFunc, .nilFunc, .int .i8 0, .map none] 52) = W0 := ⟨_, rfl⟩
  have B0 : Hid (Below w.heap.size w W0) := by rw [← hW0]; exact (Below.refl _ _).alloc (Nat.le_refl _) _
  have hA : W0.heap[w.heap.size]? = some (.cells #[.nilFunc, .nilFunc, .nilFunc, .nilFunc, .int .i8 0, .map none] 52 (0, 0)) := by rw [← hW0]; exact heap_alloc_new _ _
  have z0 : W0.heap.size = w.heap.size + 1 := by rw [← hW0]; simp
  rw [hW0]
  clear hW0
  refine (ndl_any W0).mono ?_
  rintro e w1 ⟨rfl, hlog, hb, hsz⟩
  obtain ⟨K, hK⟩ : ∃ K, W0.heap.size = K := ⟨_, rfl⟩
  rw [hK] at hlog hb hsz ⊢
  obtain ⟨S, hS⟩ : ∃ S, K + 2 = S := ⟨_, rfl⟩
  obtain ⟨M, hM⟩ : ∃ M, K + 3 = M := ⟨_, rfl⟩
  obtain ⟨H, hH⟩ : ∃ H, K + 4 = H := ⟨_, rfl⟩
  rw [hS, hM, hH] at hlog ⊢
  have HL := Lib.hid hlog
  have HA : Hid (w1.heap[w.heap.size]? = some (.cells #[.nilFunc, .nilFunc, .nilFunc, .nilFunc, .int .i8 0, .map none] 52 (0, 0))) := by rw [← hA]; exact hb.block _ (by omega)
  have B1 : Hid (Below w.heap.size w w1) := B0.out.trans (hb.mono (by omega))
  clear hlog hb hA B0
  unfold logV
  go_wp2
  obtain ⟨w2, hw2⟩ : ∃ w2, w1.alloc (.cells (logV K S M H 3) 52) = w2 := ⟨_, rfl⟩
  obtain ⟨W3, hW3⟩ : ∃ W3, w2.alloc (.cells (srcV s) 70) = W3 := ⟨_, rfl⟩
  have z2 : w2.heap.size = K + 6 := by rw [← hw2]; simp [hsz]
  have z3 : W3.heap.size = K + 7 := by rw [← hW3]; simp [z2]
  have B3 : Hid (Below w.heap.size w W3) := by
    rw [← hW3, ← hw2]
    exact (B1.out.alloc (by omega) _).alloc (by simp; omega) _
  have b13 : Below w1.heap.size w1 W3 := by
    rw [← hW3, ← hw2]
    exact ((Below.refl _ _).alloc (Nat.le_refl _) _).alloc (by simp) _
  have T3 : Hid (TwoAt W3 (K + 5) (K + 5 + 1) K S M H s) := by
    refine ⟨?_, ?_⟩
    · rw [← hW3, Below.heap_alloc _ _ _ (by omega), ← hw2, ← hsz]; exact heap_alloc_new _ _
    · rw [← hW3, show K + 5 + 1 = w2.heap.size by omega]; exact heap_alloc_new _ _
  have L3 : Hid (LogAt W3 K S M H) := HL.out.below b13 (Nat.le_refl _)
  have A3 : Hid (W3.heap[w.heap.size]? = some (.cells #[.nilFunc, .nilFunc, .nilFunc, .nilFunc, .int .i8 0, .map none] 52 (0, 0))) := by rw [← HA.out]; exact b13.block _ (by omega)
  unfold logV at hw2
  unfold srcV at hW3
  rw [hw2, hW3]
  clear hw2 hW3 B1 b13 HL HA
  obtain ⟨s0, s1, s2, s3, s4, s5, s6, s7, s8, s9⟩ := T3.out.sc
  have hsz69 := lexV_size K S M H s
  refine wp_region_noPanic ?_
  refine wp_region_held_drew (S := (fun w' => TwoAt w' (K + 5) (K + 5 + 1) K S M H s ∧ w'.cell? ⟨K + 5, 0, none⟩ = some (.func (.func 41) #[] #[.pointer (some ⟨K, 0, none⟩), .pointer (some ⟨M, 0, none⟩), .pointer (some ⟨H, 0, none⟩), .pointer (some ⟨S, 0, none⟩)]) ∧
    w'.cell? ⟨K + 5, 1, none⟩ = some (.func (.func 44) #[] #[.pointer (some ⟨M, 0, none⟩), .pointer (some ⟨H, 0, none⟩)]) ∧ w'.cell? ⟨K + 5, 2, none⟩ = some (.func (.func 45) #[] #[.pointer (some ⟨M, 0, none⟩), .pointer (some ⟨S, 0, none⟩)]) ∧
    w'.cell? ⟨K + 5, 3, none⟩ = some (.func (.func 46) #[] #[.pointer (some ⟨M, 0, none⟩), .pointer (some ⟨S, 0, none⟩)]) ∧ w'.cell? ⟨K + 5, 4, none⟩ = some (.int .i8 3) ∧ w'.cell? ⟨K + 5, 5, none⟩ = some (.map none) ∧
    w'.cell? ⟨K + 5 + 1, 0, none⟩ = some (.string ⟨#[]⟩) ∧ w'.cell? ⟨K + 5 + 1, 1, none⟩ = some (.string ⟨#[]⟩) ∧ w'.cell? ⟨K + 5 + 1, 2, none⟩ = some (.string ⟨#[]⟩) ∧ w'.cell? ⟨K + 5 + 1, 3, none⟩ = some (.string s) ∧
    w'.cell? ⟨K + 5 + 1, 4, none⟩ = some (.string ⟨#[]⟩) ∧ w'.cell? ⟨K + 5 + 1, 5, none⟩ = some (.string ⟨#[]⟩) ∧ w'.cell? ⟨K + 5 + 1, 6, none⟩ = some (.string ⟨#[]⟩) ∧ w'.cell? ⟨K + 5 + 1, 7, none⟩ = some (.string ⟨#[]⟩) ∧ w'.cell? ⟨K + 5 + 1, 8, none⟩ = some (.int .u8 0) ∧ w'.cell? ⟨K + 5 + 1, 9, none⟩ = some (.int .u32 0))) (by kernel_rfl) T3.out.drew.all (fun hHeld => ?_)
  refine wpAnyH_take (i := 0) (oi := _) (v := (.agg #[.func (.func 41) #[] #[.pointer (some ⟨K, 0, none⟩), .pointer (some ⟨M, 0, none⟩), .pointer (some ⟨H, 0, none⟩), .pointer (some ⟨S, 0, none⟩)], .func (.func 44) #[] #[.pointer (some ⟨M, 0, none⟩), .pointer (some ⟨H, 0, none⟩)], .func (.func 45) #[] #[.pointer (some ⟨M, 0, none⟩), .pointer (some ⟨S, 0, none⟩)], .func (.func 46) #[] #[.pointer (some ⟨M, 0, none⟩), .pointer (some ⟨S, 0, none⟩)], .int .i8 3, .map none])) rfl (by kernel_rfl) (by kernel_rfl) (by kernel_rfl) (fun _ _ _ h => h) (Or.inl ⟨by rfl, ?_⟩) (by assumption) ?_
  · intro w hSw
    try dsimp only at hSw
    go_simp
  try simp only [Act.put, List.setIfInBounds_toArray, List.set_cons_zero, List.set_cons_succ]
  refine wpAnyH_take (i := 1) (oi := _) (v := (.agg #[.string ⟨#[]⟩, .string ⟨#[]⟩, .string ⟨#[]⟩, .string s, .string ⟨#[]⟩, .string ⟨#[]⟩, .string ⟨#[]⟩, .string ⟨#[]⟩, .int .u8 0, .int .u32 0])) rfl (by kernel_rfl) (by kernel_rfl) (by kernel_rfl) (fun _ _ _ h => h) (Or.inl ⟨by rfl, ?_⟩) (by assumption) ?_
  · intro w hSw
    try dsimp only at hSw
    go_simp
  try simp only [Act.put, List.setIfInBounds_toArray, List.set_cons_zero, List.set_cons_succ]
  refine wpAnyH_take (i := 3) (oi := _) (v := (.agg #[.int .i32 (-1)])) rfl (by kernel_rfl) (by kernel_rfl) (by kernel_rfl) (fun _ _ _ h => h) (Or.inl ⟨by rfl, ?_⟩) (by assumption) ?_
  · intro w hSw
    try dsimp only at hSw
    go_simp
  try simp only [Act.put, List.setIfInBounds_toArray, List.set_cons_zero, List.set_cons_succ]
  refine wpAnyH_take (i := 4) (oi := _) (v := (.agg #[.int .i32 (-1)])) rfl (by kernel_rfl) (by kernel_rfl) (by kernel_rfl) (fun _ _ _ h => h) (Or.inl ⟨by rfl, ?_⟩) (by assumption) ?_
  · intro w hSw
    try dsimp only at hSw
    go_simp
  try simp only [Act.put, List.setIfInBounds_toArray, List.set_cons_zero, List.set_cons_succ]
  refine wpAnyH_ready (rs := [2]) (by kernel_rfl) (by simp) ?_
  refine AllReadyH.cons (o := _) rfl (fun K' hK' => ?_) AllReadyH.nil
  go_simp
  refine (track_any (K + 5 + 1) s _ (by exact s3) (by exact s0) (by exact s1)).mono ?_
  rintro e w4 ⟨rfl, hb4⟩
  have T4 : Hid _ := T3.out.drew.below hb4
  try dsimp only
  refine hK'.out _ _ T4.out.all (fun hHeld4 => ?_)
  clear hK' K'
  try simp only [Act.put, List.setIfInBounds_toArray, List.set_cons_zero, List.set_cons_succ]
  refine wpAnyH_take (i := 5) (oi := _) (v := (.agg (lexV K S M H s))) rfl (by kernel_rfl) (by kernel_rfl) (by kernel_rfl) (fun _ _ _ h => h) (Or.inl ⟨by rfl, ?_⟩) (by assumption) ?_
  · intro w hSw
    try dsimp only at hSw
    exact lex_exec w rfl rfl rfl rfl rfl rfl
  try simp only [Act.put, List.setIfInBounds_toArray, List.set_cons_zero, List.set_cons_succ]
  refine wpAnyH_ready (rs := [6]) (by kernel_rfl) (by simp) ?_
  refine AllReadyH.cons (o := _) rfl (fun K' hK' => ?_) AllReadyH.nil
  go_simp
  refine hK'.out _ _ (T4.out.alloc _).all (fun hHeld6 => ?_)
  clear hK' K'
  try simp only [Act.put, List.setIfInBounds_toArray, List.set_cons_zero, List.set_cons_succ]
  refine wpAnyH_take (i := 7) (oi := _) (v := (.pointer (some ⟨w4.heap.size, 0, none⟩))) rfl (by kernel_rfl) (by kernel_rfl) (by kernel_rfl) (fun _ _ _ h => h) (Or.inl ⟨by rfl, ?_⟩) (by assumption) ?_
  · intro w hSw
    try dsimp only at hSw
    go_simp
  try simp only [Act.put, List.setIfInBounds_toArray, List.set_cons_zero, List.set_cons_succ]
  refine wpAnyH_done (by kernel_rfl) ?_ _
  refine NoPanic.normal ?_
  obtain ⟨X, hX⟩ : ∃ X, w4.heap.size = X := ⟨_, rfl⟩
  obtain ⟨W5, hW5⟩ : ∃ W5, w4.alloc (.cells (lexV K S M H s) 89) = W5 := ⟨_, rfl⟩
  have b4 : Below W3.heap.size W3 w4 := by have := hb4.undrawn (n := 1); exact ⟨this.1, this.2, this.3, this.4, this.5⟩
  have z4 : K + 7 ≤ X := by have := b4.size; omega
  have G5 : GoLex W5 X (lexV K S M H s) := ⟨by rw [← hW5, ← hX]; exact heap_alloc_new _ _, hsz69⟩
  have b5 : Below W3.heap.size W3 W5 := by rw [← hW5]; exact b4.alloc b4.size _
  have z5 : W5.heap.size = X + 1 := by rw [← hW5]; simp [hX]
  have T5 : Hid (Utf8Tabs 0 1 W5) := (HT.out.below (B3.out.trans (b5.mono (by omega))) (by omega)).tabs
  have HG := Lib.hid G5
  have B5 := Lib.hid b5
  rw [hW5, hX]
  clear hW5 hX hb4 b4 b5 G5 s0 s1 s2 s3 s4 s5 s6 s7 s8 s9 T4
  go_wp2_with (go_at_call 30; refine (step_any X _ s 0 _ HG.out (lexV_14 _ _ _ _ _) (lexV_52 _ _ _ _ _) (lexV_55 _ _ _ _ _) (Nat.zero_le _) (by omega) T5.out).mono ?_; rintro e w6 ⟨rfl, ⟨cs, G6, hcs⟩, hb6⟩)
  have hk6 : ∀ k, k < K + 7 → w6.heap[k]? = W3.heap[k]? := fun k hk => (hb6.block k (by omega) (by omega)).trans (B5.out.block k (by omega))
  have T6 : TwoAt w6 (K + 5) (K + 5 + 1) K S M H s := ⟨(hk6 _ (by omega)).trans T3.out.l, (hk6 _ (by omega)).trans T3.out.s⟩
  have A6 : w6.heap[w.heap.size]? = some (.cells #[.nilFunc, .nilFunc, .nilFunc, .nilFunc, .int .i8 0, .map none] 52 (0, 0)) := (hk6 _ (by omega)).trans A3.out
  have L6 : Hid (LogAt w6 K S M H) := L3.out.of_blocks fun k e => hk6 k (by omega)
  have B6 : Hid (Below w.heap.size w w6) := B3.out.trans ((B5.out.mono (by omega)).trans ((hb6.mono (by omega)).below (by omega)))
  obtain ⟨l0, l1, l2, l3, l4, l5⟩ := T6.lc
  have a0 := (cells_of_block A6 0).1
  have a1 := (cells_of_block A6 1).1
  have a2 := (cells_of_block A6 2).1
  have a3 := (cells_of_block A6 3).1
  have a4 := (cells_of_block A6 4).1
  have a5 := (cells_of_block A6 5).1
  simp only [List.getElem?_toArray, List.getElem?_cons_zero, List.getElem?_cons_succ] at a0 a1 a2 a3 a4 a5
  have fa := fun i => (cells_of_block A6 i).2
  have HG6 := Lib.hid G6
  have HC6 := Lib.hid hcs
  clear hk6 T6 A6 hb6 G6 hcs T3 A3 B3 L3 HG B5 T5 HT
  go_region_with (fail)
  all_goals
    go_wp2
    refine bodyPost_ret (v := .tuple #[.pointer (some ⟨X, 0, none⟩), .agg (logV K S M H 3)]) ?_ rfl (lex_fin HG6.out HC6.out L6.out B6.out (by omega) (by omega) (by omega) (by omega) (by omega) (beside6 _ _ _ _ _ _ _ _))
    simp [results, Tryz.results13, go_sem, a0, a1, a2, a3, a4, a5, fa]
    all_goals rfl
end Go.Proofs.YthknielnhmoobaaGreatDoor
