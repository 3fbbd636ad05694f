/- The walk of the reference's template. -/
import Derived.Test.YthknielnhmoobaaGreatDoorZk
import Derived.Deep.RegionHeld3
namespace Go.Proofs.YthknielnhmoobaaGreatDoor
open Go.RowKit Go.Lib

/-- Nothing has turned but the blocks of T. -/
structure Keeps (T : Nat → Prop) (w w' : World) : Prop where
  os : w'.os = w.os
  tape : w'.tape = w.tape
  output : w'.output = w.output
  size : w.heap.size ≤ w'.heap.size
  block : ∀ k, k < w.heap.size → ¬ T k → w'.heap[k]? = w.heap[k]?
/-- A row of ints that a call owns. -/
def IRow (w : World) (base : Nat) (v : Value) (xs : List Int) : Prop := w.ownsRow base 3 1 v xs.length (xs.map (Value.int .i64))
/-- The blocks that a template's end turns: the lexer's, the open braces'. -/
def Topn (L : Nat) (opn : Value) : Nat → Prop := fun k => k = L ∨ opn.ownBlock = some k
/-- A token and a verdict come back; the open braces may be others. -/
def lenOf : Value → Nat
  | .slice _ n _ => n
  | _ => 0
theorem IRow.lenOf {w : World} {base : Nat} {v : Value} {xs : List Int} (h : IRow w base v xs) : lenOf v = xs.length := by
  rcases h.2 with ⟨rfl, h0⟩ | ⟨g, cap, cur, rfl, _⟩
  · exact h0.symm
  · rfl
def TokO (w : World) (L : Nat) (s : ByteArray) (nl : Bool) (out opn : Value) (ob i : Nat) (e : Ending) (w' : World) : Prop :=
  ∃ v, Tok2 e v ∧ (v = 1 → ∃ j opn' xs', i < j ∧ j ≤ s.size ∧ LxAt w' L s j nl out opn' ∧ IRow w' ob opn' xs' ∧ (lenOf opn ≤ i → xs'.length ≤ j)) ∧ Keeps (Topn L opn) w w'
/-- The token is a template's head. -/
def Tok9 (e : Ending) : Prop := ∃ a b t p n c f x y v, e = .returned (.tuple #[tokV 9 a b t (.slice p n c) f x y, .int .i64 v])
def TplP (w : World) (L : Nat) (s : ByteArray) (nl : Bool) (out opn : Value) (ob i : Nat) : TR → Ending → World → Prop
  | .plain u n, e, w' => ∃ v, e = .returned (.tuple #[tokV 8 0 0 (textOf (linesF (s.extract (i + 1) (n - 1)) (s.extract (i + 1) (n - 1)).size (s.extract (i + 1) (n - 1)).size 0)) v 0 false false, .int .i64 1]) ∧ Row w' w.heap.size v u ∧ LxAt w' L s n nl out opn ∧ Beside w.heap.size L w w'
  | .head _ _, e, w' => TokO w L s nl out opn ob i e w' ∧ Tok9 e
  | .bad _, e, w' => ∃ v, Tok2 e v ∧ v ≠ 1 ∧ Beside w.heap.size L w w'
theorem slice_run (s : ByteArray) (a b : Nat) (x y : Int) (hx : x = a) (hy : y = b) (h1 : a ≤ b) (h2 : b ≤ s.size) (V : World) : (Instr.slice 9 (.string s) (some (.int .i64 x)) (some (.int .i64 y)) none).run Tryz.prog V = .ok (.string (s.extract a b)) V := by
  subst hx; subst hy
  rw [run_slice_string_if (P := Tryz.prog) (w := V) 9 s .i64 .i64 _ _ Tryz.underlying9, if_pos ⟨by omega, by omega⟩, if_pos ⟨by omega, by omega⟩]
  rfl
theorem est8 {w : World} {L B : Nat} {x y : Option Value} {v0 v1 v2 v3 v4 v5 v6 v7 : Value} (h : L ≠ B) (h0 : w.cell? ⟨L, 0, none⟩ = x) (h1 : w.cell? ⟨L, 1, none⟩ = y) :
    ((((((((w.setCell ⟨B, 0, none⟩ v0).setCell ⟨B, 1, none⟩ v1).setCell ⟨B, 2, none⟩ v2).setCell ⟨B, 3, none⟩ v3).setCell ⟨B, 4, none⟩ v4).setCell ⟨B, 5, none⟩ v5).setCell ⟨B, 6, none⟩ v6).setCell ⟨B, 7, none⟩ v7).cell? ⟨L, 0, none⟩ = x ∧
    ((((((((w.setCell ⟨B, 0, none⟩ v0).setCell ⟨B, 1, none⟩ v1).setCell ⟨B, 2, none⟩ v2).setCell ⟨B, 3, none⟩ v3).setCell ⟨B, 4, none⟩ v4).setCell ⟨B, 5, none⟩ v5).setCell ⟨B, 6, none⟩ v6).setCell ⟨B, 7, none⟩ v7).cell? ⟨L, 1, none⟩ = y := by
  have e : ∀ (V : World) (i k : Nat) (v : Value), (V.setCell ⟨B, i, none⟩ v).cell? ⟨L, k, none⟩ = V.cell? ⟨L, k, none⟩ := fun V i k v => World.cell?_of_block (Below.heap_setCell _ _ _ _ h)
  simp only [e]
  exact ⟨h0, h1⟩
theorem Row.tok8 {w : World} {base B : Nat} {v : Value} {u : List Nat} {v0 v1 v2 v3 v4 v5 v6 v7 : Value} (h : Row w base v u) (hB : B < base) : Row (tok8 w B v0 v1 v2 v3 v4 v5 v6 v7) base v u := by
  unfold Go.Proofs.YthknielnhmoobaaGreatDoor.tok8
  exact (((((((h.set_below hB _).set_below hB _).set_below hB _).set_below hB _).set_below hB _).set_below hB _).set_below hB _).set_below hB _
theorem infoI : (Tryz.prog.info? 3).map (fun i => (i.zero, i.size, i.bytes)) = some (some (.int .i64 0), 1, 8) := by kernel_rfl
/-- Rows of other elements lie in other blocks. -/
theorem row_apart {w : World} {base B : Nat} {e ty : TypeId} {size n : Nat} {v : Value} {xs : List Value} {cs : Array Value} {fr : Nat × Nat} (h : w.ownsRow base e size v n xs) (hB : w.heap[B]? = some (.cells cs ty fr)) (hne : e ≠ ty) : v.ownBlock ≠ some B := by
  rcases h.2 with ⟨rfl, _⟩ | ⟨g, cap, cur, rfl, _, hg, _⟩
  · simp [Value.ownBlock]
  · simp only [Value.ownBlock, ne_eq, Option.some.injEq]
    intro e1
    subst e1
    rw [hg] at hB
    cases hB
    exact hne rfl
theorem owns_tok8 {w : World} {base B : Nat} {e : TypeId} {size n : Nat} {v : Value} {xs : List Value} {k a b : Int} {t : ByteArray} {u : Value} {f : Nat} {x y : Bool} {v0 v1 v2 v3 v4 v5 v6 v7 : Value} (h : w.ownsRow base e size v n xs) (hT : TokAt w B k a b t u f x y) (hne : e ≠ 34) :
    (tok8 w B v0 v1 v2 v3 v4 v5 v6 v7).ownsRow base e size v n xs := by
  refine World.ownsRow.kept h (row := some B) ?_ (.inr (row_apart h hT hne))
  have hb : Beside (w.heap.size + B + 1) B w (tok8 w B v0 v1 v2 v3 v4 v5 v6 v7) := by
    unfold Go.Proofs.YthknielnhmoobaaGreatDoor.tok8
    have e : ∀ (V : World) (i : Nat) (v : Value), Beside (w.heap.size + B + 1) B V (V.setCell ⟨B, i, none⟩ v) := fun V i v => Beside.setCell (p := ⟨B, i, none⟩) (Beside.refl _ _ _) (.inl rfl) _
    exact (((((((e _ 0 v0).trans (e _ 1 v1)).trans (e _ 2 v2)).trans (e _ 3 v3)).trans (e _ 4 v4)).trans (e _ 5 v5)).trans (e _ 6 v6)).trans (e _ 7 v7)
  exact ⟨hb.os, hb.tape, hb.output, hb.size, fun k hk hr => hb.block k (by omega) (fun e => hr (by rw [e]))⟩
theorem IRow.beside {w w' : World} {base C L : Nat} {v : Value} {xs : List Int} (h : IRow w base v xs) (hb : Beside C L w w') (hC : w.heap.size ≤ C) (hL : L < base) : IRow w' base v xs := by
  refine World.ownsRow.kept h (row := some L) ⟨hb.os, hb.tape, hb.output, hb.size, fun k hk hr => hb.block k (by omega) (fun e => hr (by rw [e]))⟩ ?_
  right; intro e; have := (World.ownsRow.lt h L e).1; omega
theorem IRow.lt {w : World} {base : Nat} {v : Value} {xs : List Int} (h : IRow w base v xs) : ∀ k, v.ownBlock = some k → base ≤ k ∧ k < w.heap.size := World.ownsRow.lt h
theorem slice_of_own {w : World} {base : Nat} {e : TypeId} {size n : Nat} {v : Value} {xs : List Value} (h : w.ownsRow base e size v n xs) : ∃ p k c, v = .slice p k c := by
  rcases h.2 with ⟨rfl, _⟩ | ⟨g, cap, cur, rfl, _⟩
  · exact ⟨_, _, _, rfl⟩
  · exact ⟨_, _, _, rfl⟩
/-- Behind an append to the open braces. -/
theorem after_push {w W W' : World} {L B j ob : Nat} {s : ByteArray} {nl : Bool} {out opn : Value} {xs : List Int} {o : Obj} (M : Mid w L s nl out opn B j W) (hI : IRow W ob opn xs) (hg : (W.alloc o).grownBy W' opn.ownBlock) (hob : L < ob) :
    LxAt W' L s j nl out opn ∧ TokAt W' B 0 0 0 ⟨#[]⟩ (.slice none 0 0) 0 false false := by
  have hl := M.lx.lt
  have ht := M.tk.lt
  refine ⟨M.lx.of_block ?_, ?_⟩
  · rw [hg.block L (by simp; omega) (fun e => by have := (hI.lt L e.symm).1; omega), Below.heap_alloc _ _ _ hl]
  · unfold TokAt
    rw [hg.block B (by simp; omega) (fun e => row_apart hI M.tk (by decide) e.symm), Below.heap_alloc _ _ _ ht]
    exact M.tk
theorem tok8_block {w : World} {B k : Nat} {v0 v1 v2 v3 v4 v5 v6 v7 : Value} (h : k ≠ B) : (tok8 w B v0 v1 v2 v3 v4 v5 v6 v7).heap[k]? = w.heap[k]? := by
  unfold Go.Proofs.YthknielnhmoobaaGreatDoor.tok8
  have e : ∀ (V : World) (i : Nat) (v : Value), (V.setCell ⟨B, i, none⟩ v).heap[k]? = V.heap[k]? := fun V i v => Below.heap_setCell _ _ _ _ h
  simp only [e]
theorem tok8_size {w : World} {B : Nat} {v0 v1 v2 v3 v4 v5 v6 v7 : Value} : (tok8 w B v0 v1 v2 v3 v4 v5 v6 v7).heap.size = w.heap.size := by
  unfold Go.Proofs.YthknielnhmoobaaGreatDoor.tok8
  have e : ∀ (V : World) (i : Nat) (v : Value), (V.setCell ⟨B, i, none⟩ v).heap.size = V.heap.size := fun V i v => by simp [World.setCell]
  simp only [e]
theorem tok8_same {w : World} {B : Nat} {v0 v1 v2 v3 v4 v5 v6 v7 : Value} : (tok8 w B v0 v1 v2 v3 v4 v5 v6 v7).os = w.os ∧ (tok8 w B v0 v1 v2 v3 v4 v5 v6 v7).tape = w.tape ∧ (tok8 w B v0 v1 v2 v3 v4 v5 v6 v7).output = w.output := by
  unfold Go.Proofs.YthknielnhmoobaaGreatDoor.tok8
  have e1 : ∀ (V : World) (i : Nat) (v : Value), (V.setCell ⟨B, i, none⟩ v).os = V.os := fun _ _ _ => rfl
  have e2 : ∀ (V : World) (i : Nat) (v : Value), (V.setCell ⟨B, i, none⟩ v).tape = V.tape := fun _ _ _ => rfl
  have e3 : ∀ (V : World) (i : Nat) (v : Value), (V.setCell ⟨B, i, none⟩ v).output = V.output := fun _ _ _ => rfl
  simp only [e1, e2, e3]
  exact ⟨trivial, trivial, trivial⟩
theorem irow_push {w : World} {ob : Nat} {v : Value} {xs : List Int} (h : w.ownsRow ob 3 1 v (xs.length + 1) (xs.map (Value.int .i64) ++ [.int .i64 0])) : IRow w ob v (xs ++ [0]) := by
  unfold IRow
  simpa using h
theorem keeps_push {T : Nat → Prop} {w W W' : World} {L B j : Nat} {s : ByteArray} {nl : Bool} {out opn : Value} {o : Obj} {v v0 v1 v2 v3 v4 v5 v6 v7 : Value} (hL : T L) (hO : ∀ k, opn.ownBlock = some k → T k) (M : Mid w L s nl out opn B j W) (hg : (W.alloc o).grownBy W' opn.ownBlock) :
    Keeps T w (tok8 (W'.setCell ⟨L, 4, none⟩ v) B v0 v1 v2 v3 v4 v5 v6 v7) := by
  have hz := M.bs.size
  have hz2 := hg.size
  have hz3 : W.heap.size ≤ W'.heap.size := by simp at hz2; omega
  have h8 := tok8_same (w := W'.setCell ⟨L, 4, none⟩ v) (B := B) (v0 := v0) (v1 := v1) (v2 := v2) (v3 := v3) (v4 := v4) (v5 := v5) (v6 := v6) (v7 := v7)
  have h9 : (W'.setCell ⟨L, 4, none⟩ v).os = W'.os ∧ (W'.setCell ⟨L, 4, none⟩ v).tape = W'.tape ∧ (W'.setCell ⟨L, 4, none⟩ v).output = W'.output := ⟨rfl, rfl, rfl⟩
  refine ⟨(h8.1.trans h9.1).trans (hg.os.trans M.bs.os), (h8.2.1.trans h9.2.1).trans (hg.tape.trans M.bs.tape), (h8.2.2.trans h9.2.2).trans (hg.output.trans M.bs.output), ?_, fun k hk ht => ?_⟩
  · rw [tok8_size]
    have : (W'.setCell ⟨L, 4, none⟩ v).heap.size = W'.heap.size := by simp [World.setCell]
    omega
  · have h1 : k ≠ L := fun e => ht (e ▸ hL)
    have h2 : some k ≠ opn.ownBlock := fun e => ht (hO k e.symm)
    rw [tok8_block (by have := M.low; omega), Below.heap_setCell _ _ _ _ h1, hg.block k (by simp; omega) h2, Below.heap_alloc _ _ _ (by omega)]
    exact M.bs.block k hk h1
theorem below_drew {B : Nat} {w w' : World} (h : Below B w.drew w') : Below B w w' := ⟨h.os, h.tape, h.output, h.size, h.block⟩
set_option maxRecDepth 100000 in
set_option maxHeartbeats 600000 in
theorem tplH_any (L : Nat) (s : ByteArray) (i : Nat) (nl : Bool) (out opn : Value) (w : World) (ob : Nat) (xs : List Int) (h : LxAt w L s i nl out opn) (hi : i < s.size) (hs : s.size ≤ 1048576) (hT : Tabs L w) (hO : IRow w ob opn xs) (hob : L < ob) (hob2 : ob ≤ w.heap.size) (hxs : xs.length ≤ 1048576) :
    Calls Tryz.prog 27 #[.pointer (some ⟨L, 0, none⟩), .int .i64 8, .int .i64 9] w (TplP w L s nl out opn ob i (tplF s (s.size + 1) (i + 1) [])) := by
  obtain ⟨R, hR⟩ : ∃ R, tplF s (s.size + 1) (i + 1) [] = R := ⟨_, rfl⟩
  rw [hR]
  have HR := Lib.hid hR
  have M0 := Lib.hid (Mid.start1 h hT (i + 1))
  have HO := Lib.hid hO
  have HLEN := Lib.hid hO.lenOf
  have hL := h.lt
  have c1 := h.cell1
  have f1 := h.free 1
  clear h hT hR hO
  go_enter Tryz.func27, Tryz.ntmps27
  go_wp2_with fail
  obtain ⟨W, hW⟩ : ∃ W, (w.setCell ⟨L, 1, none⟩ (.int .i64 ((i : Int) + 1))).alloc (.cells #[.int .i64 0, .int .i64 0, .int .i64 0, .string ⟨#[]⟩, .slice none 0 0, .float .f64 0, .bool false, .bool false] 34) = W := ⟨_, rfl⟩
  have z0 : W.heap.size = w.heap.size + 1 := by rw [← hW]; simp [World.setCell]
  rw [hW]
  have M1 : Hid (Mid w L s nl out opn w.heap.size (i + 1) W) := by rw [← hW]; exact M0.out
  clear M0 hW c1 f1
  go_loopw [9] (fun v wr => ∃ (j k : Nat) (u : List Nat), i < j ∧ j ≤ s.size ∧ s.size < j + k ∧ u.length ≤ 2 * j ∧ tplF s k j u = R ∧ Mid w L s nl out opn w.heap.size j wr ∧ Row wr (w.heap.size + 1) v u ∧ w.heap.size + 1 ≤ wr.heap.size) (fun _ wr => s.size - posOf wr L)
  case atStart => exact ⟨i + 1, s.size + 1, [], by omega, by omega, by omega, Nat.zero_le _, HR.out, M1.out, World.ownsRow_nil _ _ _ _, by omega⟩
  case round =>
    obtain ⟨j, k, u, hij, hj, hk, hu, htp, hM, hrow, hz⟩ := hrel
    have MR := Lib.hid hM
    have RR := Lib.hid hrow
    have P0 := Lib.hid hM.lx.posOf
    have HTP := Lib.hid htp
    clear hM hrow M1 htp
    obtain ⟨f, rfl⟩ : ∃ f, k = f + 1 := ⟨k - 1, by omega⟩
    obtain ⟨p, n0, c0, rfl⟩ := slice_of_row RR.out
    have hh := here_any L s j nl out opn wr MR.out.lx hj MR.out.tabs.tabs
    by_cases hlt : j < s.size
    · obtain ⟨c, n, hcn⟩ : ∃ c n, rn s j = (c, n) := ⟨_, _, rfl⟩
      have hn1 : 1 ≤ n := by have := rn_pos hlt; rw [hcn] at this; exact this
      have hn2 : j + n ≤ s.size := by have := rn_le (s := s) (i := j) (by omega); rw [hcn] at this; exact this
      have hc : c ≤ 1114111 := by have := rn_rune s j; rw [hcn] at this; exact this
      have hn0 : ((n : Int) == 0) = false := by simpa using (by omega : ¬ (n : Int) = 0)
      rw [if_pos hlt, hcn] at hh
      have hI := HTP.out
      unfold tplF at hI
      rw [if_neg (by omega), hcn] at hI
      simp only at hI
      have HI := Lib.hid hI
      have HC := Lib.hid hcn
      clear hI hcn HTP
      go_wp2_with fail
      refine hh.mono ?_
      clear hh
      rintro e w1 ⟨rfl, hb1⟩
      have M1 := Lib.hid (MR.out.on (MR.out.lx.below hb1 MR.out.lx.lt) (.of_below hb1))
      have R1 : Hid (Row w1 (w.heap.size + 1) (.slice p n0 c0) u) := RR.out.beside (.of_below (B := wr.heap.size) (L := L) hb1) (Nat.le_refl _) (by omega)
      have hz1 : w.heap.size + 1 ≤ w1.heap.size := by have := hb1.size; omega
      have c1 := M1.out.lx.cell1
      have f1 := M1.out.lx.free 1
      have M2 := Lib.hid (M1.out.set1 (j + n))
      have R2 := Lib.hid (Row.set_below R1.out (a := ⟨L, 1, none⟩) (by show L < w.heap.size + 1; omega) (.int .i64 ((j + n : Nat) : Int)))
      clear hb1 MR RR
      by_cases h96 : c = 96
      · subst h96
        obtain rfl : n = 1 := by have := rn_ascii (s := s) (i := j) (by rw [HC.out]; show 96 < 128; omega); rw [HC.out] at this; exact this.2.1
        go_wp2_with fail
        obtain ⟨W2, hW2⟩ : ∃ W2, w1.setCell ⟨L, 1, none⟩ (.int .i64 ((j : Int) + ((1 : Nat) : Int))) = W2 := ⟨_, rfl⟩
        have M3 : Hid (Mid w L s nl out opn w.heap.size (j + 1) W2) := by rw [← hW2]; exact M2.out
        have R3 : Hid (Row W2 (w.heap.size + 1) (.slice p n0 c0) u) := by rw [← hW2]; exact R2.out
        try simp only [Int.natCast_one] at hW2
        rw [hW2]
        clear hW2 M2 R2 c1 f1
        have c0' := M3.out.lx.cell0
        have c1 : W2.cell? ⟨L, 1, none⟩ = some (.int .i64 ((j : Int) + 1)) := M3.out.lx.cell1
        have A3 := M3.out.tk
        have hlt2 := A3.lt
        have hLz : L < W2.heap.size := M3.out.lx.lt
        have g1 : (i : Int) + 1 ≤ (j : Int) := by omega
        have g2 : (j : Int) ≤ (s.size : Int) := by omega
        have HA := Lib.hid A3
        clear A3
        obtain ⟨bg, hbg⟩ : ∃ bg : Nat, (i : Int) + 1 = (bg : Int) := ⟨i + 1, by omega⟩
        obtain ⟨jj, hjj⟩ : ∃ jj : Nat, (j : Int) + 1 = (jj : Int) := ⟨j + 1, by omega⟩
        have hw1 : IntKind.i64.wrap ((jj : Int) - 1) = (j : Int) := by rw [IntWalk.i64_in _ (by omega)]; omega
        have hw2 : (jj : Int) - 1 = (j : Int) := by omega
        have hw4 : IntKind.i64.wrap (j : Int) = (j : Int) := IntWalk.i64_in _ (by omega)
        have g3 : (bg : Int) ≤ (j : Int) := by omega
        have g4 : (0 : Int) ≤ (bg : Int) := by omega
        have g5 : bg ≤ j := by omega
        rw [hjj] at c1
        rw [hbg]
        have HG := Lib.hid (And.intro hbg hjj)
        clear hbg hjj g1
        have hne : L ≠ w.heap.size := by omega
        go_region_held3 (fun w' => w'.cell? ⟨L, 0, none⟩ = some (.string s) ∧ w'.cell? ⟨L, 1, none⟩ = some (.int .i64 (jj : Int))) (first | with_reducible exact ⟨k0, k1⟩ | with_reducible exact est8 hne k0 k1 | exact ⟨c0', c1⟩) (first | (go_at_call 40; refine (lines_any _ _ (by simp; omega)).mono ?_; rintro e w10 ⟨rfl, hb⟩; have hb2 := below_drew hb; have B10 := Lib.hid hb2; have A4 := HA.out.below hb2 hlt2; obtain ⟨d0, d1, d2, d3, d4, d5, d6, d7⟩ := A4.cells; have df := A4.free; have k0 := (hb2.cell (p := ⟨L, 0, none⟩) hLz).trans c0'; have k1 := (hb2.cell (p := ⟨L, 1, none⟩) hLz).trans c1; have A5 := Lib.hid A4; clear hb hb2 A4))
        obtain ⟨hbg, hjj⟩ := HG.out
        obtain rfl : bg = i + 1 := by omega
        have hR0 := HI.out
        rw [if_pos trivial] at hR0
        subst hR0
        go_wp2
        refine tok_ret (by rfl) (by rfl) (by rfl) (by rfl) (TokAt.set A5.out) ?_
        have hsz : (s.extract (i + 1) j).size = j - (i + 1) := by rw [ByteArray.size_extract, Nat.min_eq_left hj]
        refine ⟨_, by rw [show j + 1 - 1 = j by omega, hsz], ?_, ?_, ?_⟩
        · exact ((R3.out.beside (.of_below (B := W2.heap.size) (L := L) B10.out) (Nat.le_refl _) (by omega)).tok8 (by omega)).mono (by omega)
        · exact (M3.out.lx.below B10.out hLz).tok8 hne
        · exact Beside.tok8 (M3.out.bs.trans (.of_below (B10.out.mono (show w.heap.size ≤ W2.heap.size by omega)))) (Nat.le_refl _)
      · have hI := HI.out
        rw [if_neg h96] at hI
        have HJ := Lib.hid hI
        clear HI
        have g96 : ((c : Int) == 96) = false := by simpa using (by omega : ¬ (c : Int) = 96)
        have hz2 : (w1.setCell ⟨L, 1, none⟩ (.int .i64 ((j + n : Nat) : Int))).heap.size = w1.heap.size := by simp [World.setCell]
        have HZ2 := Lib.hid hz2
        clear hI hz2
        obtain ⟨q7, hq7⟩ : ∃ x, bt s (j + n) = x := ⟨_, rfl⟩
        have hq8 := bt_lt s (j + n)
        by_cases h36 : c = 36 ∧ q7 = 123
        · obtain ⟨rfl, h123⟩ := h36
          subst h123
          obtain rfl : n = 1 := by have := rn_ascii (s := s) (i := j) (by rw [HC.out]; show 36 < 128; omega); rw [HC.out] at this; exact this.2.1
          have hjs := bt_some (s := s) (i := j + 1) (by omega)
          have hI := HJ.out
          rw [if_pos ⟨rfl, hq7⟩] at hI
          subst hI
          clear HJ h96
          go_wp2_with fail
          refine (ahead_any L s (j + 1) 0 (j + 1) 0 rfl rfl nl out opn _ M2.out.lx (by omega) (by omega)).mono ?_
          rintro e w2 ⟨rfl, q, rfl⟩
          rw [hq7]
          go_wp2_with fail
          obtain ⟨W2, hW2⟩ : ∃ W2, (w1.setCell ⟨L, 1, none⟩ (.int .i64 ((j : Int) + 1))).drewN q = W2 := ⟨_, rfl⟩
          have M3 : Hid (Mid w L s nl out opn w.heap.size (j + 1) W2) := by rw [← hW2]; exact M2.out.drewN q
          have R3 : Hid (Row W2 (w.heap.size + 1) (.slice p n0 c0) u) := by rw [← hW2]; exact Row.drewN R2.out q
          rw [hW2]
          clear hW2 M2 R2 c1 f1
          have c0' := M3.out.lx.cell0
          have c1 : W2.cell? ⟨L, 1, none⟩ = some (.int .i64 ((j : Int) + 1)) := M3.out.lx.cell1
          have A3 := M3.out.tk
          have hlt2 := A3.lt
          have hLz : L < W2.heap.size := M3.out.lx.lt
          have g2 : (j : Int) ≤ (s.size : Int) := by omega
          have HA := Lib.hid A3
          clear A3
          obtain ⟨bg, hbg⟩ : ∃ bg : Nat, (i : Int) + 1 = (bg : Int) := ⟨i + 1, by omega⟩
          obtain ⟨jj, hjj⟩ : ∃ jj : Nat, (j : Int) + 1 = (jj : Int) := ⟨j + 1, by omega⟩
          have hw1 : IntKind.i64.wrap ((jj : Int) - 1) = (j : Int) := by rw [IntWalk.i64_in _ (by omega)]; omega
          have hw2 : (jj : Int) - 1 = (j : Int) := by omega
          have hw4 : IntKind.i64.wrap (j : Int) = (j : Int) := IntWalk.i64_in _ (by omega)
          have g3 : (bg : Int) ≤ (j : Int) := by omega
          have g4 : (0 : Int) ≤ (bg : Int) := by omega
          have g5 : bg ≤ j := by omega
          have hjj2 : (jj : Int) ≤ 1048576 := by omega
          rw [hjj] at c1
          rw [hbg]
          have HG := Lib.hid (And.intro hbg hjj)
          clear hbg hjj
          have hne : L ≠ w.heap.size := by omega
          go_region_held3 (fun w' => w'.cell? ⟨L, 0, none⟩ = some (.string s) ∧ w'.cell? ⟨L, 1, none⟩ = some (.int .i64 (jj : Int))) (first | with_reducible exact ⟨k0, k1⟩ | exact ⟨c0', c1⟩) (first | (go_at_call 40; refine (lines_any _ _ (by simp; omega)).mono ?_; rintro e w10 ⟨rfl, hb⟩; have hb2 := below_drew hb; have B10 := Lib.hid hb2; have k0 := (hb2.cell (p := ⟨L, 0, none⟩) hLz).trans c0'; have k1 := (hb2.cell (p := ⟨L, 1, none⟩) hLz).trans c1; clear hb hb2))
          have M10 : Hid (Mid w L s nl out opn w.heap.size (j + 1) w10) := M3.out.on (M3.out.lx.below B10.out hLz) (.of_below (B10.out.mono (Nat.le_refl W2.heap.size)))
          have R10 : Hid (Row w10 (w.heap.size + 1) (.slice p n0 c0) u) := R3.out.beside (.of_below (B := W2.heap.size) (L := L) B10.out) (Nat.le_refl _) (by omega)
          have f10 := M10.out.lx.free 1
          have k4 := M10.out.lx.cell4
          have M11 : Hid (Mid w L s nl out opn w.heap.size (j + 1 + 1) (w10.setCell ⟨L, 1, none⟩ (.int .i64 ((jj : Int) + 1)))) := by
            have := M10.out.set1 (j + 1 + 1)
            rw [show ((jj : Int) + 1) = ((j + 1 + 1 : Nat) : Int) by have := HG.out.2; omega]
            exact this
          have IX : Hid (IRow (w10.setCell ⟨L, 1, none⟩ (.int .i64 ((jj : Int) + 1))) ob opn xs) := HO.out.beside M11.out.bs (Nat.le_refl _) hob
          have hz10 : (w10.setCell ⟨L, 1, none⟩ (.int .i64 ((jj : Int) + 1))).heap.size = w10.heap.size := by simp [World.setCell]
          have hz11 := M10.out.size
          have HZ10 := Lib.hid hz10
          obtain ⟨iI, hiI, hI0, hI1, hI2⟩ := info_parts infoI
          clear hz10
          go_wp2_with (at_builtin; refine wpList_append_own _ rfl _ _ 38 rfl ob 3 iI (.int .i64 0) 1 8 Tryz.underlying38 hiI hI0 hI1 hI2 rfl (by decide) _ _ _ rfl (World.ownsRow.alloc IX.out _) ⟨w10.heap.size, 0, none⟩ 1 1 [.int .i64 0] rfl rfl ?_ ?_ ?_ ?_ ?_ ?_; go_must (rw [← HZ10.out]; exact cell_one_new _ _ _); (intro u hu; simp at hu; subst hu; rfl); (unfold maxLen; omega); omega; (have := HZ10.out; simp at this ⊢; omega); intro v' w4 hown hgrow _; obtain ⟨p5, n5, c5, rfl⟩ := slice_of_own hown; obtain ⟨X4, T4⟩ := after_push M11.out IX.out hgrow hob; have c44 := X4.cell4; have f44 := X4.free 4; obtain ⟨d0, d1, d2, d3, d4, d5, d6, d7⟩ := T4.cells; have df := T4.free; have X5 := Lib.hid X4; have T5 := Lib.hid T4; have HG4 := Lib.hid hgrow; have HO4 := Lib.hid hown; clear X4 T4 hown hgrow)
          refine tok_ret (by rfl) (by rfl) (by rfl) (by rfl) (TokAt.set (T5.out.set_other ⟨L, 4, none⟩ _ (by show w.heap.size ≠ L; omega))) ?_
          refine ⟨⟨1, ⟨_, _, _, _, _, _, _, _, _, _, rfl⟩, fun _ => ⟨j + 1 + 1, .slice p5 n5 c5, xs ++ [0], by omega, by omega, (X5.out.set4 _).tok8 hne, ?_, fun hl => by rw [HLEN.out] at hl; rw [List.length_append]; show xs.length + 1 ≤ _; omega⟩, keeps_push (.inl rfl) (fun k hk => .inr hk) M11.out HG4.out⟩, ⟨_, _, _, _, _, _, _, _, _, _, rfl⟩⟩
          exact irow_push (owns_tok8 (ownsRow_setCell_below HO4.out (a := ⟨L, 4, none⟩) hob _) (T5.out.set_other ⟨L, 4, none⟩ _ (by show w.heap.size ≠ L; omega)) (by decide))
        · by_cases h92 : c = 92
          · subst h92
            obtain rfl : n = 1 := by have := rn_ascii (s := s) (i := j) (by rw [HC.out]; show 92 < 128; omega); rw [HC.out] at this; exact this.2.1
            have hI := HJ.out
            rw [if_neg (by omega)] at hI
            first | rw [if_pos trivial] at hI | rw [if_pos rfl] at hI
            have HK := Lib.hid hI
            clear hI h36 h96 HJ
            go_wp2_with fail
            by_cases hend : j + 1 = s.size
            · have hX : LxAt (w1.setCell ⟨L, 1, none⟩ (.int .i64 ((j : Int) + 1))) L s s.size nl out opn := by rw [← hend]; exact M2.out.lx
              refine (escape_end L s nl out opn _ _ hX M2.out.tabs).mono ?_
              rintro e w3 ⟨rfl, hb⟩
              have hbs := Beside.of_below (L := L) hb
              have A4 := (M2.out.off hbs).2
              obtain ⟨d0, d1, d2, d3, d4, d5, d6, d7⟩ := A4.cells
              have df := A4.free
              have A5 := Lib.hid A4
              have HB := Lib.hid (M2.out.off hbs).1
              clear A4 hb hbs hX
              have hI := HK.out
              rw [show escF s (j + 1) = .wrong by unfold escF; rw [if_pos (by omega)]] at hI
              subst hI
              go_wp2
              refine tok_ret (by rfl) (by rfl) (by rfl) (by rfl) (TokAt.set A5.out) ?_
              exact ⟨0, ⟨_, _, _, _, _, _, _, _, _, _, rfl⟩, by decide, Beside.tok8 HB.out (Nat.le_refl _)⟩
            · refine (escape_any L s (j + 1) nl out opn (w.heap.size + 1) _ u _ M2.out.lx (by omega) (by omega) R2.out (by omega) (by omega) (by rw [HZ2.out]; exact hz1) M2.out.tabs).mono ?_
              cases hx : escF s (j + 1) with
              | right a j2 =>
                rintro e w3 ⟨v3, rfl, hr, hl, hb⟩
                obtain ⟨h1, h2, h3⟩ := escF_le hx
                have hI := HK.out
                rw [hx] at hI
                have HI2 : Hid (tplF s f j2 (u ++ a) = R) := hI
                have M4 := Lib.hid (M2.out.on2 hl hb (by omega) (by omega))
                have R4 := Lib.hid hr
                have hz4 : w.heap.size + 1 ≤ w3.heap.size := by have := hb.size; rw [HZ2.out] at this; omega
                clear hI hr hl hb hx
                go_wp2
                exact ⟨⟨j2, f, u ++ a, by omega, h2, by omega, by simp; omega, HI2.out, M4.out, R4.out, hz4⟩, meas P0.out M4.out.lx.posOf (by omega) h2⟩
              | wrong =>
                rintro e w3 ⟨rfl, _, hb⟩
                have hI := HK.out
                rw [hx] at hI
                have HI2 : Hid (.bad 0 = R) := hI
                have A4 := M2.out.tk.beside hb (by omega) (by omega)
                obtain ⟨d0, d1, d2, d3, d4, d5, d6, d7⟩ := A4.cells
                have df := A4.free
                have A5 := Lib.hid A4
                have HB := Lib.hid (M2.out.bs.trans (hb.mono (by omega)))
                clear A4 hb hI
                go_wp2
                obtain rfl := HI2.out
                refine tok_ret (by rfl) (by rfl) (by rfl) (by rfl) (TokAt.set A5.out) ?_
                exact ⟨0, ⟨_, _, _, _, _, _, _, _, _, _, rfl⟩, by decide, Beside.tok8 HB.out (Nat.le_refl _)⟩
              | opn =>
                rintro e w3 ⟨rfl, _, hb⟩
                have hI := HK.out
                rw [hx] at hI
                have HI2 : Hid (.bad 0 = R) := hI
                have A4 := M2.out.tk.beside hb (by omega) (by omega)
                obtain ⟨d0, d1, d2, d3, d4, d5, d6, d7⟩ := A4.cells
                have df := A4.free
                have A5 := Lib.hid A4
                have HB := Lib.hid (M2.out.bs.trans (hb.mono (by omega)))
                clear A4 hb hI
                go_wp2
                obtain rfl := HI2.out
                refine tok_ret (by rfl) (by rfl) (by rfl) (by rfl) (TokAt.set A5.out) ?_
                exact ⟨0, ⟨_, _, _, _, _, _, _, _, _, _, rfl⟩, by decide, Beside.tok8 HB.out (Nat.le_refl _)⟩
          · by_cases h13 : c = 13
            · subst h13
              obtain rfl : n = 1 := by have := rn_ascii (s := s) (i := j) (by rw [HC.out]; show 13 < 128; omega); rw [HC.out] at this; exact this.2.1
              obtain ⟨i0, hi0, hz0, hz1', hz2'⟩ := info_parts infoU
              have hI := HJ.out
              rw [if_neg (by omega), if_neg (by omega)] at hI
              first | rw [if_pos trivial] at hI | rw [if_pos rfl] at hI
              have HK := Lib.hid hI
              clear hI h36 h96 h92 HJ
              go_wp2_with fail
              refine (ahead_any L s (j + 1) 0 (j + 1) 0 rfl rfl nl out opn _ M2.out.lx (by omega) (by omega)).mono ?_
              rintro e w2 ⟨rfl, q, rfl⟩
              rw [hq7]
              by_cases h10 : q7 = 10
              · subst h10
                have hjs := bt_some (s := s) (i := j + 1) (by omega)
                have hI := HK.out
                rw [if_pos hq7] at hI
                have HK := Lib.hid hI
                obtain ⟨W4, hW4⟩ : ∃ W4, (w1.setCell ⟨L, 1, none⟩ (.int .i64 ((j + 1 : Nat) : Int))).drewN q = W4 := ⟨_, rfl⟩
                have M4 : Hid (Mid w L s nl out opn w.heap.size (j + 1) W4) := by rw [← hW4]; exact M2.out.drewN q
                have R4 : Hid (Row W4 (w.heap.size + 1) (.slice p n0 c0) u) := by rw [← hW4]; exact Row.drewN R2.out q
                have hz4 : w.heap.size + 1 ≤ W4.heap.size := by rw [← hW4]; show w.heap.size + 1 ≤ (w1.setCell ⟨L, 1, none⟩ (.int .i64 ((j + 1 : Nat) : Int))).heap.size; rw [HZ2.out]; exact hz1
                rw [hW4]
                have c4 : W4.cell? ⟨L, 1, none⟩ = some (.int .i64 ((j : Int) + 1)) := M4.out.lx.cell1
                have f4 := M4.out.lx.free 1
                have M5 : Hid (Mid w L s nl out opn w.heap.size (j + 1 + 1) (W4.setCell ⟨L, 1, none⟩ (.int .i64 ((j : Int) + 1 + 1)))) := M4.out.set1 (j + 1 + 1)
                have RX : Hid (Row (W4.setCell ⟨L, 1, none⟩ (.int .i64 ((j : Int) + 1 + 1))) (w.heap.size + 1) (.slice p n0 c0) u) := Row.set_below R4.out (a := ⟨L, 1, none⟩) (by show L < w.heap.size + 1; omega) _
                have hz7 : (W4.setCell ⟨L, 1, none⟩ (.int .i64 ((j : Int) + 1 + 1))).heap.size = W4.heap.size := by simp [World.setCell]
                have HZ7 := Lib.hid hz7
                clear hW4 hI hz7
                go_wp2_with (at_builtin; refine wpList_append_own _ rfl _ _ 22 rfl (w.heap.size + 1) 35 i0 (.int .u16 0) 1 2 Tryz.underlying22 hi0 hz0 hz1' hz2' rfl (by decide) _ _ _ rfl (World.ownsRow.alloc RX.out _) ⟨W4.heap.size, 0, none⟩ 1 1 [.int .u16 10] rfl rfl ?_ ?_ ?_ ?_ ?_ ?_; go_must (rw [← HZ7.out]; exact cell_one_new _ _ _); (intro u hu; simp at hu; subst hu; rfl); (unfold maxLen; omega); omega; (have := HZ7.out; simp at this ⊢; omega); intro v' w4 hown hgrow _)
                have hb5 : Below (w.heap.size + 1) (W4.setCell ⟨L, 1, none⟩ (.int .i64 ((j : Int) + 1 + 1))) w4 := ((Below.refl (w.heap.size + 1) _).alloc (by rw [HZ7.out]; exact hz4) _).grown hgrow (by have := HZ7.out; simp at this ⊢; omega) RX.out.lt
                have hz6 : w.heap.size + 1 ≤ w4.heap.size := by have := hb5.size; rw [HZ7.out] at this; omega
                exact ⟨⟨j + 1 + 1, f, u ++ [10], by omega, by omega, by omega, by simp; omega, HK.out, M5.out.on2 (M5.out.lx.below hb5 (by omega)) (.of_below hb5) (by omega) (by omega), Row.of hown (by simp) (by rw [List.map_append]; rfl), by omega⟩, meas P0.out (M5.out.lx.below hb5 (by omega)).posOf (by omega) (by omega)⟩
              · have hI := HK.out
                rw [if_neg (by rw [hq7]; exact h10)] at hI
                have HK := Lib.hid hI
                have g10 : ((q7 : Int) == 10) = false := by simpa using (by omega : ¬ (q7 : Int) = 10)
                obtain ⟨W5, hW5⟩ : ∃ W5, (w1.setCell ⟨L, 1, none⟩ (.int .i64 ((j + 1 : Nat) : Int))).drewN q = W5 := ⟨_, rfl⟩
                have M5 : Hid (Mid w L s nl out opn w.heap.size (j + 1) W5) := by rw [← hW5]; exact M2.out.drewN q
                have RX : Hid (Row W5 (w.heap.size + 1) (.slice p n0 c0) u) := by rw [← hW5]; exact Row.drewN R2.out q
                have hW5z : w.heap.size + 1 ≤ W5.heap.size := by rw [← hW5]; show w.heap.size + 1 ≤ (w1.setCell ⟨L, 1, none⟩ (.int .i64 ((j + 1 : Nat) : Int))).heap.size; rw [HZ2.out]; exact hz1
                rw [hW5]
                clear hW5 hI h10
                have hz5 : w.heap.size + 1 ≤ W5.heap.size := hW5z
                go_wp2_with (at_builtin; refine wpList_append_own _ rfl _ _ 22 rfl (w.heap.size + 1) 35 i0 (.int .u16 0) 1 2 Tryz.underlying22 hi0 hz0 hz1' hz2' rfl (by decide) _ _ _ rfl (World.ownsRow.alloc RX.out _) ⟨W5.heap.size, 0, none⟩ 1 1 [.int .u16 10] rfl rfl ?_ ?_ ?_ ?_ ?_ ?_; exact cell_one_new _ _ _; (intro u hu; simp at hu; subst hu; rfl); (unfold maxLen; omega); omega; (simp; omega); intro v' w4 hown hgrow _)
                have hb5 : Below (w.heap.size + 1) W5 w4 := ((Below.refl (w.heap.size + 1) W5).alloc hz5 _).grown hgrow (by simp; omega) RX.out.lt
                have hz6 := hb5.size
                exact ⟨⟨j + 1, f, u ++ [10], by omega, by omega, by omega, by simp; omega, HK.out, M5.out.on2 (M5.out.lx.below hb5 (by omega)) (.of_below hb5) (by omega) (by omega), Row.of hown (by simp) (by rw [List.map_append]; rfl), by omega⟩, meas P0.out (M5.out.lx.below hb5 (by omega)).posOf (by omega) (by omega)⟩
            · have hI := HJ.out
              have g92 : ((c : Int) == 92) = false := by simpa using (by omega : ¬ (c : Int) = 92)
              have g13 : ((c : Int) == 13) = false := by simpa using (by omega : ¬ (c : Int) = 13)
              rw [if_neg (by rw [hq7]; exact h36), if_neg h92, if_neg h13] at hI
              have HK := Lib.hid hI
              have g36 : ((c : Int) == 36) = false ∨ (((c : Int) == 36) = true ∧ ((q7 : Int) == 123) = false) := by
                by_cases e : c = 36
                · exact .inr ⟨by rw [e]; rfl, by simpa using (by omega : ¬ (q7 : Int) = 123)⟩
                · exact .inl (by simpa using (by omega : ¬ (c : Int) = 36))
              clear hI h36 h96 h92 h13 HJ
              rcases g36 with g36 | ⟨g36, g123⟩
              · go_wp2_with fail
                refine (units_any (w.heap.size + 1) _ u c _ R2.out hc (by omega) (by rw [HZ2.out]; exact hz1)).mono ?_
                rintro e w3 ⟨v3, rfl, hr, hb⟩
                have M4 := Lib.hid (M2.out.on2 (M2.out.lx.below hb (by omega)) (.of_below hb) (by omega) (by omega))
                have R4 := Lib.hid hr
                have hz4 : w.heap.size + 1 ≤ w3.heap.size := by
                  have h1 := hb.size
                  have h2 : w.heap.size + 1 ≤ (w1.setCell ⟨L, 1, none⟩ (.int .i64 ((j + n : Nat) : Int))).heap.size := by rw [HZ2.out]; exact hz1
                  exact Nat.le_trans h2 h1
                have hul := unitsOf_len c
                clear hr hb
                go_wp2
                exact ⟨⟨j + n, f, u ++ unitsOf c, by omega, hn2, by omega, by simp; omega, HK.out, M4.out, R4.out, hz4⟩, meas P0.out M4.out.lx.posOf (by omega) hn2⟩
              · go_wp2_with fail
                refine (ahead_any L s (j + n) 0 (j + n) 0 rfl rfl nl out opn _ M2.out.lx (by omega) (by omega)).mono ?_
                rintro e w2 ⟨rfl, q, rfl⟩
                rw [hq7]
                go_wp2_with fail
                refine (units_any (w.heap.size + 1) _ u c _ (R2.out.drewN q) hc (by omega) (by show w.heap.size + 1 ≤ (w1.setCell ⟨L, 1, none⟩ (.int .i64 ((j + n : Nat) : Int))).heap.size; rw [HZ2.out]; exact hz1)).mono ?_
                rintro e w3 ⟨v3, rfl, hr, hb⟩
                have M4 := Lib.hid ((M2.out.drewN q).on2 ((M2.out.drewN q).lx.below hb (by omega)) (.of_below hb) (by omega) (by omega))
                have R4 := Lib.hid hr
                have hz4 : w.heap.size + 1 ≤ w3.heap.size := by
                  have h1 := hb.size
                  have h2 : w.heap.size + 1 ≤ (w1.setCell ⟨L, 1, none⟩ (.int .i64 ((j + n : Nat) : Int))).heap.size := by rw [HZ2.out]; exact hz1
                  exact Nat.le_trans h2 h1
                have hul := unitsOf_len c
                clear hr hb
                go_wp2
                exact ⟨⟨j + n, f, u ++ unitsOf c, by omega, hn2, by omega, by simp; omega, HK.out, M4.out, R4.out, hz4⟩, meas P0.out M4.out.lx.posOf (by omega) hn2⟩
    · obtain rfl : j = s.size := by omega
      rw [if_neg (Nat.lt_irrefl _), rn_end (Nat.le_refl _)] at hh
      have hI := HTP.out
      unfold tplF at hI
      rw [if_pos (Nat.le_refl _)] at hI
      have HI := Lib.hid hI
      clear hI HTP
      go_wp2_with fail
      refine hh.mono ?_
      clear hh
      rintro e w1 ⟨rfl, hb1⟩
      have hbs := Beside.of_below (L := L) hb1
      have A4 := (MR.out.off hbs).2
      obtain ⟨d0, d1, d2, d3, d4, d5, d6, d7⟩ := A4.cells
      have df := A4.free
      have A5 := Lib.hid A4
      have HB := Lib.hid (MR.out.off hbs).1
      clear A4 hb1 hbs
      go_wp2
      obtain rfl := HI.out
      refine tok_ret (by rfl) (by rfl) (by rfl) (by rfl) (TokAt.set A5.out) ?_
      exact ⟨2, ⟨_, _, _, _, _, _, _, _, _, _, rfl⟩, by decide, Beside.tok8 HB.out (Nat.le_refl _)⟩
end Go.Proofs.YthknielnhmoobaaGreatDoor
