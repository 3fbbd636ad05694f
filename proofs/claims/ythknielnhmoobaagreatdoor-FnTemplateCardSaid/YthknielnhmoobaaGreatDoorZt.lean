/- What the reference's Decode keeps: the tokens read so far, the token at any place. The walk of the reference's Decode, of a text that begins with a back quote. -/
import Derived.Test.YthknielnhmoobaaGreatDoorZr
import Derived.Deep.AppendLies
import Derived.Test.YthknielnhmoobaaGreatDoorShelfV
namespace Go.Proofs.YthknielnhmoobaaGreatDoor
open Go.RowKit Go.Lib

theorem owns_block {w w' : World} {base : Nat} {e : TypeId} {size n : Nat} {v : Value} {xs : List Value} (h : w.ownsRow base e size v n xs) (hb : ∀ k, v.ownBlock = some k → w'.heap[k]? = w.heap[k]?) : w'.ownsRow base e size v n xs := by
  refine ⟨h.1, ?_⟩
  rcases h.2 with hn | ⟨g, cap, cur, rfl, hb1, hgg, rest⟩
  · exact .inl hn
  · exact .inr ⟨g, cap, cur, rfl, hb1, (hb g rfl).trans hgg, rest⟩
theorem owns_apart {w : World} {b1 b2 s1 s2 n1 n2 : Nat} {e1 e2 : TypeId} {v1 v2 : Value} {x1 x2 : List Value} (h : w.ownsRow b1 e1 s1 v1 n1 x1) (k : w.ownsRow b2 e2 s2 v2 n2 x2) (hne : e2 ≠ e1) : ∀ g, v1.ownBlock = some g → v2.ownBlock ≠ some g := by
  intro g hg
  rcases h.2 with ⟨rfl, _⟩ | ⟨g', cap, cur, rfl, _, hh, _⟩
  · simp [Value.ownBlock] at hg
  · simp [Value.ownBlock] at hg
    subst hg
    exact row_apart k hh hne
/-- A row stands where another row, of other elements, has grown. -/
theorem owns_grown {w w' : World} {b1 b2 s1 s2 n1 n2 : Nat} {e1 e2 : TypeId} {v1 v2 : Value} {x1 x2 : List Value} (h : w.ownsRow b1 e1 s1 v1 n1 x1) (k : w.ownsRow b2 e2 s2 v2 n2 x2) (hne : e2 ≠ e1) (hg : w.grownBy w' v2.ownBlock) : w'.ownsRow b1 e1 s1 v1 n1 x1 :=
  owns_block h fun g e => hg.block g (World.ownsRow.lt h g e).2 (fun e2 => owns_apart h k hne g e e2.symm)
theorem owns_keeps {w w' : World} {T : Nat → Prop} {b1 s1 n1 : Nat} {e1 : TypeId} {v1 : Value} {x1 : List Value} (h : w.ownsRow b1 e1 s1 v1 n1 x1) (hk : Keeps T w w') (hT : ∀ g, v1.ownBlock = some g → ¬ T g) : w'.ownsRow b1 e1 s1 v1 n1 x1 :=
  owns_block h fun g e => hk.block g (World.ownsRow.lt h g e).2 (hT g e)
theorem owns_below {w w' : World} {b1 s1 n1 : Nat} {e1 : TypeId} {v1 : Value} {x1 : List Value} (h : w.ownsRow b1 e1 s1 v1 n1 x1) (hk : Below w.heap.size w w') : w'.ownsRow b1 e1 s1 v1 n1 x1 :=
  owns_block h fun g e => hk.block g (World.ownsRow.lt h g e).2
theorem owns_beside {w w' : World} {L C b1 s1 n1 : Nat} {e1 : TypeId} {v1 : Value} {x1 : List Value} (h : w.ownsRow b1 e1 s1 v1 n1 x1) (hk : Beside C L w w') (hC : w.heap.size ≤ C) (hL : L < b1) : w'.ownsRow b1 e1 s1 v1 n1 x1 :=
  owns_block h fun g e => hk.block g (Nat.lt_of_lt_of_le (World.ownsRow.lt h g e).2 hC) (fun e2 => by have := (World.ownsRow.lt h g e).1; omega)
theorem Lists.mono {B B' : Nat} {w : World} {wb wo wn sb so sn : Nat} {ws ss : List ByteArray} (h : Lists B w wb wo wn ws sb so sn ss) (hB : B ≤ B') : Lists B' w wb wo wn ws sb so sn ss :=
  ⟨h.words, h.signs, h.hwn, h.hsn, h.full, Nat.lt_of_lt_of_le h.gw hB, Nat.lt_of_lt_of_le h.gs hB, Nat.lt_of_lt_of_le h.hwb hB, Nat.lt_of_lt_of_le h.hsb hB⟩
theorem token_o (L : Nat) (s : ByteArray) (i : Nat) (nl : Bool) (out opn : Value) (w : World) (ob : Nat) (xs : List Int) (h : LxAt w L s i nl out opn) (hi : i < s.size) (hs : s.size ≤ 1048576) (hT : Tabs L w) (hO : IRow w ob opn xs) (hob : L < ob) (hob2 : ob ≤ w.heap.size) (hxs : xs.length ≤ 1048576)
    (wb wo wn : Nat) (ws : List ByteArray) (sb so sn : Nat) (ss : List ByteArray) (hW : Lists L w wb wo wn ws sb so sn ss) :
    Calls Tryz.prog 12 #[.pointer (some ⟨L, 0, none⟩)] w (TokO w L s nl out opn ob i) := by
  by_cases h96 : bt s i = 96
  · exact (token_tick L s i nl out opn w ob xs h hi hs hT hO hob hob2 hxs h96).mono fun e w' h => h.toO hO hob hi
  · exact token_any L s i nl out opn w ob xs h hi hs hT hO hob hob2 hxs wb wo wn ws sb so sn ss hW h96
/-- The first token, where it is the only one. -/
def FirstT (w : World) (base : Nat) (s : ByteArray) : TR → List Value → Prop
  | .plain u z, xs => ∃ v, xs = (tokC 8 0 z (textOf (linesF (s.extract (0 + 1) (z - 1)) (s.extract (0 + 1) (z - 1)).size (s.extract (0 + 1) (z - 1)).size 0)) v 0 false false).toList ∧ Row w base v u
  | .head _ _, xs => ∃ a b t v f x y, xs = (tokC 9 a b t v f x y).toList
  | .bad _, _ => False
/-- Between two tokens: the lexer lies in block L, behind the world w; n tokens have been read. -/
structure DecI (w : World) (L : Nat) (s : ByteArray) (R : TR) (wr : World) (i : Nat) (nl : Bool) (outv opnv : Value) (xs : List Int) (n : Nat) (cs : List Value) : Prop where
  lx : LxAt wr L s i nl outv opnv
  hi : i ≤ s.size
  op : IRow wr (L + 1) opnv xs
  hx : xs.length ≤ i
  ot : wr.ownsRow (L + 1) 34 8 outv n cs
  hn : n ≤ i
  bl : Below L w wr
  hw : w.heap.size = L
  st : (n = 0 ∧ i = 0 ∧ nl = false) ∨ (n = 1 ∧ FirstT wr (L + 1) s R cs) ∨ 2 ≤ n
theorem FirstT.rows {w w' : World} {base : Nat} {s : ByteArray} {R : TR} {xs : List Value} (h : FirstT w base s R xs) (hr : ∀ v u, Row w base v u → Row w' base v u) : FirstT w' base s R xs := by
  cases R with
  | plain u z => obtain ⟨v, h1, h2⟩ := h; exact ⟨v, h1, hr _ _ h2⟩
  | head u z => exact h
  | bad v => exact h
theorem FirstT.base {w : World} {base base' : Nat} {s : ByteArray} {R : TR} {xs : List Value} (h : FirstT w base s R xs) (hb : base' ≤ base) : FirstT w base' s R xs := by
  cases R with
  | plain u z => obtain ⟨v, h1, h2⟩ := h; exact ⟨v, h1, h2.mono hb⟩
  | head u z => exact h
  | bad v => exact h
theorem est_set {w : World} {L B : Nat} (h : L ≠ B) (i k : Nat) (v : Value) : (w.setCell ⟨B, i, none⟩ v).cell? ⟨L, k, none⟩ = w.cell? ⟨L, k, none⟩ := World.cell?_of_block (Below.heap_setCell _ _ _ _ h)
theorem drew_cell (w : World) (a : Addr) : w.drew.cell? a = w.cell? a := rfl
theorem est_alloc {w : World} {B : Nat} (h : B < w.heap.size) (k : Nat) (o : Obj) : (w.alloc o).cell? ⟨B, k, none⟩ = w.cell? ⟨B, k, none⟩ := World.cell?_of_block (Below.heap_alloc _ _ _ h)
theorem est_allocF {w : World} {B : Nat} (h : B < w.heap.size) (k : Nat) (o : Obj) : (w.alloc o).frozen? ⟨B, k, none⟩ = w.frozen? ⟨B, k, none⟩ := World.frozen?_of_block (Below.heap_alloc _ _ _ h)
theorem drew_frozen (w : World) (a : Addr) : w.drew.frozen? a = w.frozen? a := rfl
/-- A token's place and its line's end are laid into it. -/
theorem TokAt.set3 {w : World} {B : Nat} {k a b : Int} {t : ByteArray} {u : Value} {f : Nat} {x y : Bool} (h : TokAt w B k a b t u f x y) (a' b' : Int) (x' : Bool) : TokAt (((w.setCell ⟨B, 1, none⟩ (.int .i64 a')).setCell ⟨B, 2, none⟩ (.int .i64 b')).setCell ⟨B, 6, none⟩ (.bool x')) B k a' b' t u f x' y := by
  unfold TokAt tokC at h
  have h1 : (w.setCell ⟨B, 1, none⟩ (.int .i64 a')).heap[B]? = some (.cells #[.int .i64 k, .int .i64 a', .int .i64 b, .string t, u, .float .f64 f, .bool x, .bool y] 34 (0, 0)) := set_cells h 1 (.int .i64 a')
  have h2 : ((w.setCell ⟨B, 1, none⟩ (.int .i64 a')).setCell ⟨B, 2, none⟩ (.int .i64 b')).heap[B]? = some (.cells #[.int .i64 k, .int .i64 a', .int .i64 b', .string t, u, .float .f64 f, .bool x, .bool y] 34 (0, 0)) := set_cells h1 2 (.int .i64 b')
  exact set_cells h2 6 (.bool x')
section
variable {w wr w' : World} {L i n : Nat} {s : ByteArray} {R : TR} {nl : Bool} {outv opnv : Value} {xs : List Int} {cs : List Value}
theorem DecI.lt (h : DecI w L s R wr i nl outv opnv xs n cs) : L + 1 ≤ wr.heap.size := h.lx.lt
theorem DecI.skip (h : DecI w L s R wr i nl outv opnv xs n cs) {j : Nat} {b : Bool} (hl : LxAt w' L s j b outv opnv) (hb : Beside wr.heap.size L wr w') (hij : i ≤ j) (hj : j ≤ s.size) (h0 : n = 0 → j = 0 ∧ b = false) : DecI w L s R w' j b outv opnv xs n cs := by
  refine ⟨hl, hj, h.op.beside hb (Nat.le_refl _) (Nat.lt_succ_self _), Nat.le_trans h.hx hij, owns_beside h.ot hb (Nat.le_refl _) (Nat.lt_succ_self _), Nat.le_trans h.hn hij, h.bl.trans ((hb.mono (Nat.le_of_succ_le h.lt)).below (Nat.le_refl _)), h.hw, ?_⟩
  rcases h.st with ⟨a, _, _⟩ | ⟨a, b⟩ | a
  · exact .inl ⟨a, h0 a⟩
  · exact .inr (.inl ⟨a, b.rows fun v u hr => hr.beside hb (Nat.le_refl _) (Nat.lt_succ_self _)⟩)
  · exact .inr (.inr a)
end
/-- Behind a token that began at place i, its cells k, t, u, f, y. -/
structure DecT (w : World) (L : Nat) (s : ByteArray) (R : TR) (i j : Nat) (nl : Bool) (outv opnv : Value) (xs : List Int) (n : Nat) (cs : List Value) (k : Int) (t : ByteArray) (u : Value) (f : Nat) (y : Bool) (wr : World) : Prop where
  lx : LxAt wr L s j nl outv opnv
  hj : j ≤ s.size
  hij : i < j
  op : IRow wr (L + 1) opnv xs
  hx : xs.length ≤ j
  ot : wr.ownsRow (L + 1) 34 8 outv n cs
  hn : n ≤ i
  bl : Below L w wr
  hw : w.heap.size = L
  st : n = 0 → FirstT wr (L + 1) s R (tokC k i j t u f nl y).toList
theorem Keeps.belowL {w w' : World} {L : Nat} {opn : Value} {xs : List Int} (h : Keeps (Topn L opn) w w') (hO : IRow w (L + 1) opn xs) (hL : L ≤ w.heap.size) : Below L w w' :=
  ⟨h.os, h.tape, h.output, h.size, fun k hk => h.block k (by omega) (by
    rintro (e | e)
    · omega
    · have := (hO.lt k e).1; omega)⟩
theorem DecT.push {w w1 w5 w6 : World} {L i j n : Nat} {s : ByteArray} {R : TR} {nl : Bool} {outv opnv out' : Value} {xs : List Int} {cs : List Value} {k : Int} {t : ByteArray} {u : Value} {f : Nat} {y : Bool} (h : DecT w L s R i j nl outv opnv xs n cs k t u f y w1)
    (hb : Below w1.heap.size w1 w5) (hg : w5.grownBy w6 outv.ownBlock) (ho : w6.ownsRow (L + 1) 34 8 out' (n + 1) (cs ++ (tokC k i j t u f nl y).toList)) :
    DecI w L s R (w6.setCell ⟨L, 3, none⟩ out') j nl out' opnv xs (n + 1) (cs ++ (tokC k i j t u f nl y).toList) := by
  have hlt := h.lx.lt
  have o5 := owns_below h.ot hb
  have hz := hb.size
  have hL6 : LxAt w6 L s j nl outv opnv := (h.lx.below hb hlt).of_block (hg.block L (by omega) (fun e => by have := (World.ownsRow.lt o5 L e.symm).1; omega))
  refine ⟨hL6.set3 _, h.hj, ownsRow_setCell_below (owns_grown (owns_below h.op hb) o5 (by decide) hg) (a := ⟨L, 3, none⟩) (Nat.lt_succ_self _) _, h.hx, ownsRow_setCell_below ho (a := ⟨L, 3, none⟩) (Nat.lt_succ_self _) _, by have := h.hn; have := h.hij; omega, ?_, h.hw, ?_⟩
  · exact ((h.bl.trans (hb.mono (Nat.le_of_lt hlt))).grown hg (by omega) (fun k hk => by have := (World.ownsRow.lt o5 k hk).1; omega)).setCell (p := ⟨L, 3, none⟩) (Nat.le_refl _) _
  · by_cases h0 : n = 0
    · refine .inr (.inl ⟨by omega, ?_⟩)
      have hc : cs = [] := List.length_eq_zero_iff.1 (by rw [h.ot.1, h0])
      rw [hc, List.nil_append]
      refine (h.st h0).rows fun v u hr => ?_
      exact ownsRow_setCell_below (owns_grown (owns_below hr hb) o5 (by decide) hg) (a := ⟨L, 3, none⟩) (Nat.lt_succ_self _) _
    · exact .inr (.inr (by omega))
set_option maxHeartbeats 1000000 in
theorem token_d {w wr : World} {L i n : Nat} {s : ByteArray} {R : TR} {nl : Bool} {outv opnv : Value} {xs : List Int} {cs : List Value} (h : DecI w L s R wr i nl outv opnv xs n cs) (hR : tplF s (s.size + 1) (0 + 1) [] = R) (h96 : bt s 0 = 96) (hi : i < s.size) (hs : s.size ≤ 1048576) (hT : Tabs L w)
    (wb wo wn : Nat) (ws : List ByteArray) (sb so sn : Nat) (ss : List ByteArray) (hW : Lists L w wb wo wn ws sb so sn ss) :
    Calls Tryz.prog 12 #[.pointer (some ⟨L, 0, none⟩)] wr fun e w' => ∃ v k a b t p c m f x y, e = .returned (.tuple #[tokV k a b t (.slice p c m) f x y, .int .i64 v]) ∧ Below L w w' ∧ (v = 1 → ∃ j opn' xs', DecT w L s R i j nl outv opn' xs' n cs k t (.slice p c m) f y w') := by
  have hz := h.lt
  have hT2 : Tabs L wr := hT.below h.bl (Nat.le_refl _)
  have hx := h.hx
  have hb1 : ∀ w', Beside wr.heap.size L wr w' → Below L w w' := fun w' hb => h.bl.trans ((hb.mono (Nat.le_of_succ_le hz)).below (Nat.le_refl _))
  have hO : ∀ e w', TokO wr L s nl outv opnv (L + 1) i e w' → (∀ v k a b t p c m f x y, e = .returned (.tuple #[tokV k a b t (.slice p c m) f x y, .int .i64 v]) → n = 0 → v = 1 → ∀ j, FirstT w' (L + 1) s R (tokC k i j t (.slice p c m) f nl y).toList) →
      ∃ v k a b t p c m f x y, e = .returned (.tuple #[tokV k a b t (.slice p c m) f x y, .int .i64 v]) ∧ Below L w w' ∧ (v = 1 → ∃ j opn' xs', DecT w L s R i j nl outv opn' xs' n cs k t (.slice p c m) f y w') := by
    rintro e w' ⟨v, ⟨k, a, b, t, p, c, m, f, x, y, rfl⟩, h1, hk⟩ hst
    have hbl := h.bl.trans (hk.belowL h.op (Nat.le_of_succ_le hz))
    refine ⟨v, k, a, b, t, p, c, m, f, x, y, rfl, hbl, fun hv => ?_⟩
    obtain ⟨j, opn', xs', a1, a2, a3, a4, a5⟩ := h1 hv
    refine ⟨j, opn', xs', a3, a2, a1, a4, a5 (by rw [h.op.lenOf]; exact hx), ?_, h.hn, hbl, h.hw, fun h0 => hst _ _ _ _ _ _ _ _ _ _ _ rfl h0 hv j⟩
    refine owns_keeps h.ot hk ?_
    rintro g hg (e | e)
    · have := (World.ownsRow.lt h.ot g hg).1; omega
    · exact owns_apart h.ot h.op (by decide) g hg e
  by_cases h0 : n = 0
  · have hst := h.st
    obtain ⟨rfl, rfl, rfl⟩ : n = 0 ∧ i = 0 ∧ nl = false := by
      rcases hst with h' | ⟨h', _⟩ | h'
      · exact h'
      · omega
      · omega
    refine (token_tick L s 0 false outv opnv wr (L + 1) xs h.lx hi hs hT2 h.op (Nat.lt_succ_self _) hz (by omega) h96).mono ?_
    rw [hR]
    intro e w' ht
    cases R with
    | plain u z =>
      obtain ⟨v, rfl, hrow, hlx, hb⟩ := ht
      obtain ⟨p, c, m, rfl⟩ := slice_of_row hrow
      have hn := tplF_le hR
      refine ⟨1, 8, 0, 0, _, p, c, m, 0, false, false, rfl, hb1 _ hb, fun _ => ⟨z, opnv, xs, hlx, hn.2, by omega, h.op.beside hb (Nat.le_refl _) (Nat.lt_succ_self _), by omega, owns_beside h.ot hb (Nat.le_refl _) (Nat.lt_succ_self _), Nat.le_refl _, hb1 _ hb, h.hw, fun _ => ⟨_, rfl, hrow.mono hz⟩⟩⟩
    | head u z =>
      obtain ⟨ho, a, b, t, p, c, m, f, x, y, v, rfl⟩ := ht
      refine hO _ _ ho ?_
      intro v' k' a' b' t' p' c' m' f' x' y' he _ _ j
      have : k' = 9 := by
        unfold tokV at he
        simp at he
        exact he.1.1.symm
      subst this
      exact ⟨_, _, _, _, _, _, _, rfl⟩
    | bad q =>
      obtain ⟨v, ⟨k, a, b, t, p, c, m, f, x, y, rfl⟩, h1, hb⟩ := ht
      exact ⟨v, k, a, b, t, p, c, m, f, x, y, rfl, hb1 _ hb, fun hv => absurd hv h1⟩
  · refine (token_o L s i nl outv opnv wr (L + 1) xs h.lx hi hs hT2 h.op (Nat.lt_succ_self _) hz (by omega) wb wo wn ws sb so sn ss (hW.beside (.of_below (L := L) h.bl) (Nat.le_refl _) (Nat.le_refl _))).mono ?_
    intro e w' ht
    exact hO e w' ht fun _ _ _ _ _ _ _ _ _ _ _ _ hh => absurd hh h0
end Go.Proofs.YthknielnhmoobaaGreatDoor
namespace Go.Proofs.YthknielnhmoobaaGreatDoor
open Go.RowKit Go.Lib

theorem valid_is (s : ByteArray) (w : World) (hs : s.size ≤ 9223372036854775807) (hT : Lib.Utf8Tabs 0 1 w) :
    Calls Tryz.prog 9 #[.string s] w fun e w' => e = .returned (.bool (Lib.validD s.data.toList)) ∧ Below w.heap.size w w' :=
  Any.utf8_ValidString Tryz.lays196 s w hs hT
theorem skip_d {w wr : World} {L i n : Nat} {s : ByteArray} {R : TR} {nl : Bool} {outv opnv : Value} {xs : List Int} {cs : List Value} (h : DecI w L s R wr i nl outv opnv xs n cs) (h96 : bt s 0 = 96) (h0 : 0 < s.size) (hs : s.size ≤ 1048576) (hT : Tabs L w) :
    Calls Tryz.prog 11 #[.pointer (some ⟨L, 0, none⟩)] wr fun e w' => ∃ v : Int, e = .returned (.int .i64 v) ∧ Below L w w' ∧ (v = 1 → ∃ j b, i ≤ j ∧ DecI w L s R w' j b outv opnv xs n cs) := by
  have hz := h.lt
  have hT2 : Tabs L wr := hT.below h.bl (Nat.le_refl _)
  have hb1 : ∀ w', Beside wr.heap.size L wr w' → Below L w w' := fun w' hb => h.bl.trans ((hb.mono (Nat.le_of_succ_le hz)).below (Nat.le_refl _))
  by_cases h1 : n = 0
  · have hst := h.st
    obtain ⟨rfl, rfl, rfl⟩ : n = 0 ∧ i = 0 ∧ nl = false := by
      rcases hst with h' | ⟨h', _⟩ | h'
      · exact h'
      · omega
      · omega
    refine (skip_tick L s 0 false outv opnv wr h.lx hT2 h0 h96 hs).mono ?_
    rintro e w' ⟨rfl, hl, hb⟩
    exact ⟨1, rfl, hb1 _ hb, fun _ => ⟨0, false, Nat.le_refl _, h.skip hl hb (Nat.le_refl _) h.hi fun _ => ⟨rfl, rfl⟩⟩⟩
  · obtain ⟨p, c, m, rfl⟩ := slice_of_own h.ot
    have hc : c = n := by
      rcases h.ot.2 with ⟨e, e2⟩ | ⟨g, cap, cur, e, _⟩
      · injection e with _ e _; omega
      · injection e
    have hn := h.hn
    have hi := h.hi
    refine (skip_any L s i nl p c m opnv wr h.lx hT2 h.hi hs (by omega)).mono ?_
    rintro e w' ⟨v, rfl, hv, hb⟩
    refine ⟨v, rfl, hb1 _ hb, fun h' => ?_⟩
    obtain ⟨j, b, a1, a2, a3⟩ := hv h'
    exact ⟨j, b, a1, h.skip a3 hb a1 a2 fun e => absurd e h1⟩
/-- The tokens, if all is right. -/
def DecP (w : World) (s : ByteArray) (e : Ending) (w' : World) : Prop :=
  ∃ (p : Option Addr) (k c : Nat) (v : Int), e = .returned (.tuple #[.slice p k c, .int .i64 v]) ∧ Below w.heap.size w w' ∧ (v = 1 → s.size ≤ 1048576 ∧ ∃ n cs, w'.ownsRow w.heap.size 34 8 (.slice p k c) n cs ∧ 1 ≤ n ∧ (n = 1 → FirstT w' w.heap.size s (tplF s (s.size + 1) (0 + 1) []) cs))
theorem ownsRow_base {w : World} {base base' : Nat} {e : TypeId} {size n : Nat} {v : Value} {xs : List Value} (h : w.ownsRow base e size v n xs) (hb : base' ≤ base) : w.ownsRow base' e size v n xs := by
  refine ⟨h.1, ?_⟩
  rcases h.2 with hn | ⟨g, cap, cur, rfl, hb1, rest⟩
  · exact .inl hn
  · exact .inr ⟨g, cap, cur, rfl, Nat.le_trans hb hb1, rest⟩
set_option maxRecDepth 100000 in
set_option maxHeartbeats 4000000 in
theorem decode_any (s : ByteArray) (w : World) (B : Nat) (hT : Tabs B w) (hB : B ≤ w.heap.size) (h0 : 0 < s.size) (h96 : bt s 0 = 96) (hs : s.size ≤ 9223372036854775807) (wb wo wn : Nat) (ws : List ByteArray) (sb so sn : Nat) (ss : List ByteArray) (hW : Lists B w wb wo wn ws sb so sn ss) :
    Calls Tryz.prog 7 #[.string s] w (DecP w s) := by
  have HT := Lib.hid hT
  have HW := Lib.hid hW
  clear hT hW
  by_cases hbig : 1048576 < s.size
  · have g : (1048576 : Int) < (s.size : Int) := by omega
    go_enter Tryz.func7, Tryz.ntmps7
    go_wp2
    go_ret2
    exact ⟨_, _, _, 0, rfl, Below.refl _ _, fun h => absurd h (by decide)⟩
  have g : (s.size : Int) ≤ 1048576 := by omega
  have hs2 : s.size ≤ 1048576 := by omega
  have g9 : decide ((1048576 : Int) < (s.size : Int)) = false := decide_eq_false (by omega)
  cases hv : Lib.validD s.data.toList with
  | false =>
    have HV := Lib.hid hv
    clear hbig hv
    go_enter Tryz.func7, Tryz.ntmps7
    go_wp2_with (go_at_call 9; refine (valid_is s _ (by omega) (by exact HT.out.tabs)).mono ?_; rw [HV.out]; rintro e w1 ⟨rfl, hb⟩)
    go_ret2
    exact ⟨_, _, _, 0, rfl, hb, fun h => absurd h (by decide)⟩
  | true =>
  have HV := Lib.hid hv
  cases hp : hpB s ⟨#[35, 33]⟩ with
  | true =>
    have HP := Lib.hid hp
    clear hbig hv hp
    go_enter Tryz.func7, Tryz.ntmps7
    go_wp2_with (first | (go_at_call 9; refine (valid_is s _ (by omega) (by exact HT.out.tabs)).mono ?_; rw [HV.out]; rintro e w1 ⟨rfl, hb⟩) | (go_at_call 10; refine (hasPre_is _ _ _).mono ?_; rw [HP.out]; rintro e w2 ⟨rfl, rfl⟩))
    go_ret2
    exact ⟨_, _, _, 0, rfl, hb, fun h => absurd h (by decide)⟩
  | false =>
  have HP := Lib.hid hp
  clear hbig hv hp
  obtain ⟨R, hR⟩ : ∃ R, tplF s (s.size + 1) (0 + 1) [] = R := ⟨_, rfl⟩
  have HR := Lib.hid hR
  clear hR
  go_enter Tryz.func7, Tryz.ntmps7
  go_wp2_with (first | (go_at_call 9; refine (valid_is s _ (by omega) (by exact HT.out.tabs)).mono ?_; rw [HV.out]; rintro e w1 ⟨rfl, hb⟩) | (go_at_call 10; refine (hasPre_is _ _ _).mono ?_; rw [HP.out]; rintro e w2 ⟨rfl, rfl⟩))
  have hz1 := hb.size
  have B1 := Lib.hid hb
  have T1 : Hid (Tabs w1.heap.size w1) := (HT.out.below hb hB).mono (by omega)
  have L1 : Hid (Lists w1.heap.size w1 wb wo wn ws sb so sn ss) := (HW.out.beside (.of_below (L := w.heap.size) hb) hB hB).mono (by omega)
  clear hb
  obtain ⟨L, hL⟩ : ∃ L, w1.heap.size = L := ⟨_, rfl⟩
  obtain ⟨W0, hW0⟩ : ∃ W0, w1.alloc (.cells #[.string s, .int .i64 0, .bool false, .slice none 0 0, .slice none 0 0] 40) = W0 := ⟨_, rfl⟩
  have D0 : Hid (DecI w1 L s R W0 0 false (.slice none 0 0) (.slice none 0 0) [] 0 []) := by
    refine ⟨?_, Nat.zero_le _, World.ownsRow_nil _ _ _ _, Nat.zero_le _, World.ownsRow_nil _ _ _ _, Nat.zero_le _, ?_, hL, .inl ⟨rfl, rfl, rfl⟩⟩
    · rw [← hW0, ← hL]; exact heap_alloc_new w1 _
    · rw [← hW0, ← hL]; exact (Below.refl _ _).alloc (Nat.le_refl _) _
  rw [hW0, hL]
  rw [hL] at T1 L1 hz1
  clear hW0 hL
  go_loopw [] (fun wr => ∃ i nl outv opnv xs n cs, DecI w1 L s R wr i nl outv opnv xs n cs) (fun wr => s.size - posOf wr L)
  case atStart => exact ⟨_, _, _, _, _, _, _, D0.out⟩
  case round =>
    obtain ⟨i, nl, outv, opnv, xs, n, cs, hD⟩ := hrel
    have D := Lib.hid hD
    have P0 := Lib.hid hD.lx.posOf
    clear hD D0
    go_wp2_with fail
    refine (skip_d D.out h96 h0 hs2 T1.out).mono ?_
    rintro e w2 ⟨v, rfl, hb2, hv2⟩
    by_cases hv1 : v = 1
    · subst hv1
      obtain ⟨j, b, hij, hD2⟩ := hv2 rfl
      have D2 := Lib.hid hD2
      have c1 := hD2.lx.cell1
      have c3 := hD2.lx.cell3
      clear hv2 hb2 hD2
      by_cases hj : j < s.size
      · have g2 : ((j : Int) == (s.size : Int)) = false := by simpa using (by omega : ¬ (j : Int) = (s.size : Int))
        go_wp2_with fail
        refine (token_d D2.out HR.out h96 hj hs2 T1.out wb wo wn ws sb so sn ss L1.out).mono ?_
        rintro e w3 ⟨v, k, a, b3, t, p, c, m, f, x, y, rfl, hb3, hv3⟩
        have B3 := Lib.hid hb3
        clear c1 c3 hb3
        unfold tokV
        by_cases hv1 : v = 1
        · subst hv1
          obtain ⟨j2, opn2, xs2, hD3⟩ := hv3 rfl
          have D3 := Lib.hid hD3
          clear hv3 hD3
          go_wp2_with fail
          obtain ⟨T, hT⟩ : ∃ T, w3.heap.size = T := ⟨_, rfl⟩
          obtain ⟨W, hW⟩ : ∃ W, w3.alloc (.cells #[.int .i64 k, .int .i64 a, .int .i64 b3, .string t, .slice p c m, .float .f64 f, .bool x, .bool y] 34) = W := ⟨_, rfl⟩
          have A1 : TokAt W T k a b3 t (.slice p c m) f x y := by rw [← hW, ← hT]; exact heap_alloc_new _ _
          have BW : Below T w3 W := by rw [← hW, ← hT]; exact (Below.refl _ _).alloc (Nat.le_refl _) _
          have hzW : W.heap.size = T + 1 := by rw [← hW, ← hT]; simp
          have hlt := D3.out.lx.lt
          rw [hT] at hlt
          have LW : LxAt W L s j2 b outv opn2 := D3.out.lx.below BW hlt
          rw [hW, hT]
          have c1 := LW.cell1
          have c2 := LW.cell2
          have hne : L ≠ T := by omega
          obtain ⟨d0, d1, d2, d3, d4, d5, d6, d7⟩ := A1.cells
          have df := A1.free
          have BW := Lib.hid BW
          have LW := Lib.hid LW
          have A1 := Lib.hid A1
          have HT2 := Lib.hid hT
          clear hW hT
          go_region_held3 (fun w' => w'.cell? ⟨L, 1, none⟩ = some (.int .i64 (j2 : Int)) ∧ w'.cell? ⟨L, 2, none⟩ = some (.bool b)) (first | with_reducible exact ⟨c1, c2⟩ | exact ⟨c1, c2⟩ | (simp only [drew_cell, est_set hne]; exact ⟨c1, c2⟩)) (fail)
          obtain ⟨V, hV⟩ : ∃ V, (((W.setCell ⟨T, 1, none⟩ (.int .i64 (j : Int))).setCell ⟨T, 2, none⟩ (.int .i64 (j2 : Int))).setCell ⟨T, 6, none⟩ (.bool b)).drew = V := ⟨_, rfl⟩
          have AV : TokAt V T k j j2 t (.slice p c m) f b y := by rw [← hV]; exact A1.out.set3 _ _ _
          have LV : LxAt V L s j2 b outv opn2 := by rw [← hV]; exact ((LW.out.set_other ⟨T, 1, none⟩ _ hne).set_other ⟨T, 2, none⟩ _ hne).set_other ⟨T, 6, none⟩ _ hne
          have BV : Below T w3 V := by rw [← hV]; exact Below.drew (((BW.out.setCell (p := ⟨T, 1, none⟩) (Nat.le_refl _) _).setCell (p := ⟨T, 2, none⟩) (Nat.le_refl _) _).setCell (p := ⟨T, 6, none⟩) (Nat.le_refl _) _)
          have hzV : V.heap.size = T + 1 := by rw [← hV, ← hzW]; simp [World.setCell, World.drew]
          have OV := Lib.hid (owns_below D3.out.ot (by rw [HT2.out]; exact BV))
          obtain ⟨po, no, co, rfl⟩ := slice_of_own OV.out
          rw [hV]
          have hnj := D3.out.hn
          have hjs : j < s.size := hj
          have hnb1 : n + 1 ≤ maxLen := by unfold maxLen; omega
          have hnb2 : (n + 1) * 80 ≤ 140737488355328 := by omega
          clear hV d0 d1 d2 d3 d4 d5 d6 d7 df c1 c2 BW LW A1 hzW
          have c3 := LV.cell3
          have l3 := LV.free 3
          obtain ⟨d0, d1, d2, d3, d4, d5, d6, d7⟩ := AV.cells
          obtain ⟨iT, hi0, hz0, hz1', hz2⟩ := info_parts infoTok
          have hTV : T < V.heap.size := by omega
          have hLV : L < V.heap.size := by omega
          have hgL : some L ≠ (Value.slice po no co).ownBlock := fun e => by have := (World.ownsRow.lt OV.out L e.symm).1; omega
          have hgT : some T ≠ (Value.slice po no co).ownBlock := fun e => by have := (World.ownsRow.lt D3.out.ot T e.symm).2; have := HT2.out; omega
          have BV := Lib.hid BV
          have LV := Lib.hid LV
          have AV := Lib.hid AV
          go_wp2_with fail
          have q0 : ∀ cs, (V.alloc (.cells cs 34)).cell? ⟨L, 3, none⟩ = some (.slice po no co) := fun cs => (est_alloc hLV 3 _).trans c3
          go_region_law ((refine step_append_lies _ (by rfl) _ _ _ (by rfl) (L + 1) 34 iT _ 8 80 Tryz.underlying29 hi0 hz0 hz1' hz2 rfl (by omega) (.slice po no co) n cs (by rfl) (World.ownsRow.alloc OV.out _) ⟨T + 1, 0, none⟩ 1 1 (tokC k j j2 t (.slice p c m) f b y).toList (by rfl) (by rfl) (World.news_of_block (cs := tokC k j j2 t (.slice p c m) f b y) (t := 34) (fr := (0, 0)) (by rw [← hzV]; exact heap_alloc_new V _)) (by simp [tokC, Value.oneCell']) (by omega) hnb1 hnb2 (by simp; omega) (T + 2) (by simp; omega) ?_; intro g6 cap6 w6 hown hgrow hat hlt6; have c36 : w6.cell? ⟨L, 3, none⟩ = some (.slice po no co) := (hgrow.cell_far ⟨L, 3, none⟩ (by simp; omega) hgL).trans ((est_alloc hLV 3 _).trans c3); have l36 : w6.frozen? ⟨L, 3, none⟩ = false := (hgrow.frozen_far ⟨L, 3, none⟩ (by simp; omega) hgL).trans ((est_allocF hLV 3 _).trans l3); have HG := Lib.hid hgrow; have HO6 := Lib.hid hown; clear hgrow hown hat))
          all_goals
            have hb5 := D3.out.push (by rw [HT2.out]; exact Below.drew (BV.out.alloc (by omega) _)) HG.out HO6.out
            have HB5 := Lib.hid hb5
            have hj2 := D3.out.hij
            have hm := meas P0.out hb5.lx.posOf (show i < j2 by omega) D3.out.hj
            have HM := Lib.hid hm
            clear hb5 hm
            go_wp2
            exact ⟨⟨_, _, _, _, _, _, _, HB5.out⟩, HM.out⟩
        · have g1 : (v == 1) = false := by simpa using hv1
          have g3 : (v != 1) = true := by simpa using hv1
          clear hv3
          go_wp2_with fail
          go_ret2
          exact ⟨_, _, _, v, rfl, (B1.out.trans (B3.out.mono hz1)).alloc (Nat.le_trans B1.out.size B3.out.size) _, fun h => absurd h hv1⟩
      · obtain rfl : j = s.size := by have := D2.out.hi; omega
        go_wp2_with fail
        go_ret2
        obtain ⟨p, c, m, rfl⟩ := slice_of_own D2.out.ot
        refine ⟨p, c, m, 1, rfl, B1.out.trans (D2.out.bl.mono hz1), fun _ => ⟨hs2, n, cs, ownsRow_base D2.out.ot (by omega), ?_, fun hn => ?_⟩⟩
        · have := D2.out.st; omega
        · rw [HR.out]
          rcases D2.out.st with ⟨h', _⟩ | ⟨_, h'⟩ | h'
          · omega
          · exact h'.base (by omega)
          · omega
    · have g3 : (v != 1) = true := by simpa using hv1
      clear hv2
      go_wp2_with fail
      go_ret2
      exact ⟨_, _, _, v, rfl, B1.out.trans (hb2.mono hz1), fun h => absurd h hv1⟩
end Go.Proofs.YthknielnhmoobaaGreatDoor
