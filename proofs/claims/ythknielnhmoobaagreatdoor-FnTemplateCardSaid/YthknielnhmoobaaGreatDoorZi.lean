/- The reference's lexer at any text: names, private names. -/
import Derived.Test.YthknielnhmoobaaGreatDoorZh
namespace Go.Proofs.YthknielnhmoobaaGreatDoor
open Go.RowKit Go.Lib

/-- The reference's two lists of words. -/
structure Lists (B : Nat) (w : World) (wb wo wn : Nat) (ws : List ByteArray) (sb so sn : Nat) (ss : List ByteArray) : Prop where
  words : WordsAt w 3 wb wo wn ws
  signs : WordsAt w 2 sb so sn ss
  hwn : wn ≤ 1000
  hsn : sn ≤ 1000
  full : ∀ k, k < sn → 1 ≤ (ss.getD k ByteArray.empty).size ∧ (ss.getD k ByteArray.empty).size ≤ 4
  gw : 3 < B
  gs : 2 < B
  hwb : wb < B
  hsb : sb < B
theorem WordsAt.beside {w w' : World} {g b o n B C L : Nat} {ws : List ByteArray} (h : WordsAt w g b o n ws) (hb : Beside C L w w') (hg : g < B) (hB : b < B) (hC : B ≤ C) (hL : B ≤ L) : WordsAt w' g b o n ws :=
  ⟨(World.cell?_of_block (hb.block g (by omega) (by omega))).trans h.1, h.2.1, fun i hi => (World.cell?_of_block (hb.block b (by omega) (by omega))).trans (h.2.2 i hi)⟩
theorem Lists.beside {w w' : World} {B C L wb wo wn sb so sn : Nat} {ws ss : List ByteArray} (h : Lists B w wb wo wn ws sb so sn ss) (hb : Beside C L w w') (hC : B ≤ C) (hL : B ≤ L) : Lists B w' wb wo wn ws sb so sn ss :=
  ⟨h.words.beside hb h.gw h.hwb hC hL, h.signs.beside hb h.gs h.hsb hC hL, h.hwn, h.hsn, h.full, h.gw, h.gs, h.hwb, h.hsb⟩
theorem WordsAt.alloc {w : World} {g b o n B : Nat} {ws : List ByteArray} (h : WordsAt w g b o n ws) (ob : Obj) (hg : g < w.heap.size) (hB : b < w.heap.size) : WordsAt (w.alloc ob) g b o n ws :=
  ⟨(World.cell?_of_block (Below.heap_alloc _ _ _ hg)).trans h.1, h.2.1, fun i hi => (World.cell?_of_block (Below.heap_alloc _ _ _ hB)).trans (h.2.2 i hi)⟩
theorem LexR.set_other {W W' : World} {L i : Nat} {s : ByteArray} {nl : Bool} {out opn : Value} {v : Int} (h : LexR W L s nl out opn i v W') (p : Addr) (u : Value) (hp : W.heap.size ≤ p.block) (hL : L < W.heap.size) : LexR W L s nl out opn i v (W'.setCell p u) :=
  ⟨fun hv => by
    obtain ⟨j, h1, h2, h3⟩ := h.1 hv
    exact ⟨j, h1, h2, h3.set_other _ _ (by omega)⟩, h.2.setCell (.inr hp) _⟩
set_option maxRecDepth 100000 in
set_option maxHeartbeats 4000000 in
theorem name_any (L : Nat) (s : ByteArray) (i : Nat) (nl : Bool) (out opn : Value) (w : World) (h : LxAt w L s i nl out opn) (hi : i ≤ s.size) (hs : s.size ≤ 1048576) (hT : Tabs L w) (wb wo wn : Nat) (ws : List ByteArray) (sb so sn : Nat) (ss : List ByteArray) (hW : Lists L w wb wo wn ws sb so sn ss) :
    Calls Tryz.prog 22 #[.pointer (some ⟨L, 0, none⟩)] w (TokP w L s nl out opn i) := by
  have M0 := Lib.hid (Mid.start h hT)
  have hL := h.lt
  have HW := Lib.hid hW
  clear h hT hW
  go_enter Tryz.func22, Tryz.ntmps22
  go_wp2_with fail
  obtain ⟨W, hW⟩ : ∃ W, w.alloc (.cells #[.int .i64 0, .int .i64 0, .int .i64 0, .string ⟨#[]⟩, .slice none 0 0, .float .f64 0, .bool false, .bool false] 34) = W := ⟨_, rfl⟩
  rw [hW]
  have M1 : Hid (Mid w L s nl out opn w.heap.size i W) := by rw [← hW]; exact M0.out
  clear M0 hW
  refine (letters_any L s i nl out opn W M1.out.lx hi hs M1.out.tabs).mono ?_
  rintro e w3 ⟨v, ⟨nm, b, rfl⟩, he⟩
  have HE := Lib.hid he
  have A4 := (M1.out.off he.2).2
  obtain ⟨d0, d1, d2, d3, d4, d5, d6, d7⟩ := A4.cells
  have df := A4.free
  have A5 := Lib.hid A4
  have hB := (M1.out.off he.2).1
  have HB := Lib.hid hB
  have hz := hB.size
  have hlt := A4.lt
  clear he A4 hB
  by_cases hv : v = 1
  · subst hv
    go_wp2_with fail
    obtain ⟨W8, hW8⟩ : ∃ W8, w3.alloc (.cells #[.int .i64 1, .int .i64 0, .int .i64 0, .string nm, .slice none 0 0, .float .f64 0, .bool false, .bool false] 34) = W8 := ⟨_, rfl⟩
    rw [hW8]
    have T8 : TokAt W8 w3.heap.size 1 0 0 nm (.slice none 0 0) 0 false false := by rw [← hW8]; exact heap_alloc_new _ _
    have B8 : Below w3.heap.size w3 W8 := by rw [← hW8]; exact (Below.refl _ _).alloc (Nat.le_refl _) _
    obtain ⟨e0, e1, e2, e3, e4, e5, e6, e7⟩ := T8.cells
    have ef := T8.free
    have A8 := A5.out.below B8 hlt
    obtain ⟨d0, d1, d2, d3, d4, d5, d6, d7⟩ := A8.cells
    have df := A8.free
    have A9 := Lib.hid A8
    have L8 : Hid (Lists L W8 wb wo wn ws sb so sn ss) := (HW.out.beside HB.out (Nat.le_of_lt hL) (Nat.le_refl _)).beside (.of_below (L := L) B8) (by omega) (Nat.le_refl _)
    have E8 : Hid (LexR W L s nl out opn i 1 W8) := ⟨fun h => by
      obtain ⟨j, h1, h2, h3⟩ := HE.out.1 h
      exact ⟨j, h1, h2, h3.below B8 h3.lt⟩, HE.out.2.trans (.of_below (B8.mono (by have := HE.out.2.size; omega)))⟩
    clear hW8 T8 A8 B8
    refine (reserve_any nm wb wo wn ws W8 L8.out.words L8.out.hwn).mono ?_
    rintro e w9 ⟨⟨r2, rfl⟩, rfl⟩
    have hz3 : W.heap.size ≤ w3.heap.size := HE.out.2.size
    have hne : w.heap.size ≠ w3.heap.size := by omega
    have hLz : L < W.heap.size := by have := M1.out.size; omega
    cases r2 <;> cases b
    all_goals go_wp2
    all_goals first
      | (refine tok_ret (by rfl) (by rfl) (by rfl) (by rfl) (TokAt.set A9.out) ?_; exact tok_pass M1.out E8.out)
      | (refine tok_ret (by rfl) (by rfl) (by rfl) (by rfl) (TokAt.set (A9.out.set_other _ _ hne)) ?_; exact tok_pass M1.out (E8.out.set_other _ _ hz3 hLz))
      | (refine tok_ret (by rfl) (by rfl) (by rfl) (by rfl) (TokAt.set ((A9.out.set_other _ _ hne).set_other _ _ hne)) ?_; exact tok_pass M1.out ((E8.out.set_other _ _ hz3 hLz).set_other _ _ hz3 hLz))
  · have g : (v != 1) = true := by simpa using hv
    go_wp2
    refine tok_ret (by rfl) (by rfl) (by rfl) (by rfl) (TokAt.set A5.out) ?_
    exact tok_bad M1.out HE.out.2 hv
theorem TokAt.drew {w : World} {B : Nat} {k a b : Int} {t : ByteArray} {u : Value} {f : Nat} {x y : Bool} (h : TokAt w B k a b t u f x y) : TokAt w.drew B k a b t u f x y := h
theorem TokP.mono {w w' : World} {L i i' : Nat} {s : ByteArray} {nl : Bool} {out opn : Value} {e : Ending} (h : TokP w L s nl out opn i e w') (hi : i' ≤ i) : TokP w L s nl out opn i' e w' := by
  obtain ⟨v, h1, h2, h3⟩ := h
  exact ⟨v, h1, fun hv => by obtain ⟨j, a, b, c⟩ := h2 hv; exact ⟨j, by omega, b, c⟩, h3⟩
theorem TokP.drew {w w' : World} {L i : Nat} {s : ByteArray} {nl : Bool} {out opn : Value} {e : Ending} (h : TokP w L s nl out opn i e w') : TokP w L s nl out opn i e w'.drew := by
  obtain ⟨v, h1, h2, h3⟩ := h
  exact ⟨v, h1, fun hv => by obtain ⟨j, a, b, c⟩ := h2 hv; exact ⟨j, a, b, c.drew⟩, h3.drew⟩
set_option maxRecDepth 100000 in
set_option maxHeartbeats 4000000 in
theorem private_any (L : Nat) (s : ByteArray) (i : Nat) (nl : Bool) (out opn : Value) (w : World) (h : LxAt w L s i nl out opn) (hi : i < s.size) (hs : s.size ≤ 1048576) (hT : Tabs L w) :
    Calls Tryz.prog 26 #[.pointer (some ⟨L, 0, none⟩)] w (TokP w L s nl out opn i) := by
  have M0 := Lib.hid (Mid.start1 h hT (i + 1))
  have hL := h.lt
  have c1 := h.cell1
  have f1 := h.free 1
  clear h hT
  go_enter Tryz.func26, Tryz.ntmps26
  go_wp2_with fail
  obtain ⟨W, hW⟩ : ∃ W, (w.setCell ⟨L, 1, none⟩ (.int .i64 ((i : Int) + 1))).alloc (.cells #[.int .i64 0, .int .i64 0, .int .i64 0, .string ⟨#[]⟩, .slice none 0 0, .float .f64 0, .bool false, .bool false] 34) = W := ⟨_, rfl⟩
  rw [hW]
  have M1 : Hid (Mid w L s nl out opn w.heap.size (i + 1) W) := by rw [← hW]; exact M0.out
  clear M0 hW c1 f1
  refine (letters_any L s (i + 1) nl out opn W M1.out.lx hi hs M1.out.tabs).mono ?_
  rintro e w3 ⟨v, ⟨nm, b, rfl⟩, he⟩
  have HE := Lib.hid he
  have A4 := (M1.out.off he.2).2
  obtain ⟨d0, d1, d2, d3, d4, d5, d6, d7⟩ := A4.cells
  have df := A4.free
  have A5 := Lib.hid A4
  clear he A4
  by_cases hv : v = 1
  · subst hv
    obtain ⟨j, h1, h2, h3⟩ := HE.out.1 rfl
    have c0 := h3.cell0
    have c1 := h3.cell1
    have g1 : (i : Int) ≤ (j : Int) := by omega
    have g2 : (j : Int) ≤ (s.size : Int) := by omega
    have X3 := Lib.hid h3
    clear h3
    go_wp2
    go_still_tail 11, (by kernel_rfl)
    change wpList _ _ _ _ _ w3.drew
    go_wp2
    refine tok_ret (by rfl) (by rfl) (by rfl) (by rfl) (TokAt.drew (TokAt.set A5.out)) ?_
    exact ((tok_pass M1.out HE.out).mono (by omega)).drew
  · have g : (v != 1) = true := by simpa using hv
    go_wp2
    refine tok_ret (by rfl) (by rfl) (by rfl) (by rfl) (TokAt.set A5.out) ?_
    exact tok_bad M1.out HE.out.2 hv
end Go.Proofs.YthknielnhmoobaaGreatDoor
