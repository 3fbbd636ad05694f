/- The reference's next token. The reference's next token: the walk. -/
import Derived.Test.YthknielnhmoobaaGreatDoorZo
namespace Go.Proofs.YthknielnhmoobaaGreatDoor
open Go.RowKit Go.Lib

theorem tplF_le {s : ByteArray} {k i n : Nat} {u v : List Nat} (h : tplF s k i u = .plain v n) : i < n ∧ n ≤ s.size := by
  induction k generalizing i u with
  | zero => cases h
  | succ k ih =>
    unfold tplF at h
    by_cases h0 : s.size ≤ i
    · rw [if_pos h0] at h; cases h
    rw [if_neg h0] at h
    have hp := rn_pos (s := s) (i := i) (by omega)
    have hl := rn_le (s := s) (i := i) (by omega)
    by_cases h1 : (rn s i).1 = 96
    · rw [if_pos h1] at h; injection h with _ e; omega
    rw [if_neg h1] at h
    by_cases h2 : (rn s i).1 = 36 ∧ bt s (i + (rn s i).2) = 123
    · rw [if_pos h2] at h; cases h
    rw [if_neg h2] at h
    by_cases h3 : (rn s i).1 = 92
    · rw [if_pos h3] at h
      cases hx : escF s (i + (rn s i).2) with
      | wrong => rw [hx] at h; cases h
      | opn => rw [hx] at h; cases h
      | right a j =>
        rw [hx] at h
        have := escF_le hx
        have := ih h
        omega
    rw [if_neg h3] at h
    by_cases h4 : (rn s i).1 = 13
    · rw [if_pos h4] at h
      have := ih h
      split at this <;> omega
    · rw [if_neg h4] at h
      have := ih h
      omega
theorem TokP.toO {w w' : World} {L ob i : Nat} {s : ByteArray} {nl : Bool} {out opn : Value} {xs : List Int} {e : Ending} (h : TokP w L s nl out opn i e w') (hO : IRow w ob opn xs) (hob : L < ob) : TokO w L s nl out opn ob i e w' := by
  obtain ⟨v, h1, h2, h3⟩ := h
  exact ⟨v, h1, fun hv => by obtain ⟨j, a, b, c⟩ := h2 hv; exact ⟨j, opn, xs, a, b, c, hO.beside h3 (Nat.le_refl _) hob, fun hl => by rw [hO.lenOf] at hl; omega⟩, Keeps.of_beside h3 (.inl rfl)⟩
theorem Keeps.trans {T : Nat → Prop} {a b c : World} (h : Keeps T a b) (k : Keeps T b c) : Keeps T a c :=
  ⟨k.os.trans h.os, k.tape.trans h.tape, k.output.trans h.output, Nat.le_trans h.size k.size, fun i hi ht => (k.block i (Nat.lt_of_lt_of_le hi h.size) ht).trans (h.block i hi ht)⟩
theorem Keeps.tok8 {T : Nat → Prop} {w w' : World} {B : Nat} {v0 v1 v2 v3 v4 v5 v6 v7 : Value} (h : Keeps T w w') (hB : w.heap.size ≤ B) : Keeps T w (tok8 w' B v0 v1 v2 v3 v4 v5 v6 v7) := by
  have h8 := tok8_same (w := w') (B := B) (v0 := v0) (v1 := v1) (v2 := v2) (v3 := v3) (v4 := v4) (v5 := v5) (v6 := v6) (v7 := v7)
  exact ⟨h8.1.trans h.os, h8.2.1.trans h.tape, h8.2.2.trans h.output, by rw [tok8_size]; exact h.size, fun k hk ht => by rw [tok8_block (by omega)]; exact h.block k hk ht⟩
/-- A token and open braces are handed on by way of the result's cell. -/
theorem pass_o {w W W' : World} {L ob i : Nat} {s : ByteArray} {nl : Bool} {out opn : Value} {xs : List Int} {v : Int} {k a b : Int} {t : ByteArray} {p : Option Addr} {n c f : Nat} {x y : Bool} (hM : Mid w L s nl out opn w.heap.size i W) (hO : IRow W ob opn xs)
    (h : TokO W L s nl out opn ob i (.returned (.tuple #[tokV k a b t (.slice p n c) f x y, .int .i64 v])) W') :
    TokO w L s nl out opn ob i (.returned (.tuple #[tokV k a b t (.slice p n c) f x y, .int .i64 v])) (tok8 W' w.heap.size (.int .i64 k) (.int .i64 a) (.int .i64 b) (.string t) (.slice p n c) (.float .f64 f) (.bool x) (.bool y)) := by
  have hL := hM.hL
  obtain ⟨v', h1, h2, h3⟩ := h
  have hlt := hM.tk.lt
  have hT : TokAt W' w.heap.size 0 0 0 ⟨#[]⟩ (.slice none 0 0) 0 false false := (h3.block _ hlt (by
    rintro (e | e)
    · omega
    · exact row_apart hO hM.tk (by decide) e)).trans hM.tk
  refine ⟨v', h1, fun hv => ?_, ((Keeps.of_beside hM.bs (.inl rfl)).trans h3).tok8 (Nat.le_refl _)⟩
  obtain ⟨j, opn', xs', a1, a2, a3, a4, a5⟩ := h2 hv
  exact ⟨j, opn', xs', a1, a2, a3.tok8 (by omega), owns_tok8 a4 hT (by decide), a5⟩
theorem pass_at {w W W' : World} {L ob i : Nat} {s : ByteArray} {nl : Bool} {out opn : Value} {xs : List Int} {e : Ending} (hM : Mid w L s nl out opn w.heap.size i W) (hO : IRow W ob opn xs) (h : TokO W L s nl out opn ob i e W') : TokAt W' w.heap.size 0 0 0 ⟨#[]⟩ (.slice none 0 0) 0 false false := by
  obtain ⟨v', h1, h2, h3⟩ := h
  have hL := hM.hL
  exact (h3.block _ hM.tk.lt (by
    rintro (e | e)
    · omega
    · exact row_apart hO hM.tk (by decide) e)).trans hM.tk
theorem TplP.toO {w w' : World} {L ob i : Nat} {s : ByteArray} {nl : Bool} {out opn : Value} {xs : List Int} {e : Ending} (h : TplP w L s nl out opn ob i (tplF s (s.size + 1) (i + 1) []) e w') (hO : IRow w ob opn xs) (hob : L < ob) (hi : i < s.size) : TokO w L s nl out opn ob i e w' := by
  cases hR : tplF s (s.size + 1) (i + 1) [] with
  | plain u n =>
    rw [hR] at h
    obtain ⟨v, h1, h2, h3, h4⟩ := h
    obtain ⟨p, n', c, rfl⟩ := slice_of_row h2
    have hn := tplF_le hR
    exact ⟨1, ⟨_, _, _, _, _, _, _, _, _, _, h1⟩, fun _ => ⟨n, opn, xs, by omega, hn.2, h3, hO.beside h4 (Nat.le_refl _) hob, fun hl => by rw [hO.lenOf] at hl; omega⟩, Keeps.of_beside h4 (.inl rfl)⟩
  | bad x =>
    rw [hR] at h
    obtain ⟨v, h1, h2, h3⟩ := h
    exact ⟨v, h1, fun h => absurd h h2, Keeps.of_beside h3 (.inl rfl)⟩
  | head u n =>
    rw [hR] at h
    exact h.1
/-- A template's token, handed on by way of the result's cell. -/
theorem tpl_pass {w W W' : World} {L ob i : Nat} {s : ByteArray} {nl : Bool} {out opn : Value} {R : TR} {xs : List Int} {v : Int} {k a b : Int} {t : ByteArray} {p : Option Addr} {n c f : Nat} {x y : Bool} (hM : Mid w L s nl out opn w.heap.size i W) (hz : W.heap.size = w.heap.size + 1)
    (h : TplP W L s nl out opn ob i R (.returned (.tuple #[tokV k a b t (.slice p n c) f x y, .int .i64 v])) W') (hO : IRow W ob opn xs) :
    TplP w L s nl out opn ob i R (.returned (.tuple #[tokV k a b t (.slice p n c) f x y, .int .i64 v])) (tok8 W' w.heap.size (.int .i64 k) (.int .i64 a) (.int .i64 b) (.string t) (.slice p n c) (.float .f64 f) (.bool x) (.bool y)) := by
  have hL := hM.hL
  cases R with
  | plain u m =>
    obtain ⟨v', h1, h2, h3, h4⟩ := h
    have hv : v' = .slice p n c := by
      unfold tokV at h1
      injection h1 with h1
      injection h1 with h1
      simp at h1
      exact h1.1.2.2.2.2.1.symm
    subst hv
    exact ⟨_, h1, (h2.tok8 (by omega)).mono (by omega), h3.tok8 (by omega), Beside.tok8 (hM.bs.trans (h4.mono (by omega))) (Nat.le_refl _)⟩
  | bad x =>
    obtain ⟨v', h1, h2, h3⟩ := h
    exact ⟨v', h1, h2, Beside.tok8 (hM.bs.trans (h3.mono (by omega))) (Nat.le_refl _)⟩
  | head u m =>
    exact ⟨pass_o hM hO h.1, h.2⟩
theorem tpl_form {w w' : World} {L ob i : Nat} {s : ByteArray} {nl : Bool} {out opn : Value} {R : TR} {e : Ending} (h : TplP w L s nl out opn ob i R e w') : ∃ v, Tok2 e v := by
  cases R with
  | plain u n =>
    obtain ⟨v, h1, h2, _⟩ := h
    obtain ⟨p, n', c, rfl⟩ := slice_of_row h2
    exact ⟨1, _, _, _, _, _, _, _, _, _, _, h1⟩
  | bad x => obtain ⟨v, h1, _⟩ := h; exact ⟨v, h1⟩
  | head u n => obtain ⟨⟨v, h1, _⟩, _⟩ := h; exact ⟨v, h1⟩
theorem tpl_at {w W W' : World} {L ob i : Nat} {s : ByteArray} {nl : Bool} {out opn : Value} {xs : List Int} {R : TR} {e : Ending} (hM : Mid w L s nl out opn w.heap.size i W) (hO : IRow W ob opn xs) (h : TplP W L s nl out opn ob i R e W') : TokAt W' w.heap.size 0 0 0 ⟨#[]⟩ (.slice none 0 0) 0 false false := by
  cases R with
  | plain u n => obtain ⟨v, _, _, _, h4⟩ := h; exact (hM.off h4).2
  | bad x => obtain ⟨v, _, _, h3⟩ := h; exact (hM.off h3).2
  | head u n => exact pass_at hM hO h.1
end Go.Proofs.YthknielnhmoobaaGreatDoor
namespace Go.Proofs.YthknielnhmoobaaGreatDoor
open Go.RowKit Go.Lib

theorem isBegin_tick (w : World) : Calls Tryz.prog 21 #[.int .u8 96] w fun e w' => e = .returned (.bool false) ∧ w = w' := by
  go_enter Tryz.func21, Tryz.ntmps21
  go_wp2
  go_ret
  exact ⟨rfl, rfl⟩
set_option maxRecDepth 100000 in
set_option maxHeartbeats 4000000 in
theorem token_tick (L : Nat) (s : ByteArray) (i : Nat) (nl : Bool) (out opn : Value) (w : World) (ob : Nat) (xs : List Int) (h : LxAt w L s i nl out opn) (hi : i < s.size) (hs : s.size ≤ 1048576) (hT : Tabs L w) (hO : IRow w ob opn xs) (hob : L < ob) (hob2 : ob ≤ w.heap.size) (hxs : xs.length ≤ 1048576) (h96 : bt s i = 96) :
    Calls Tryz.prog 12 #[.pointer (some ⟨L, 0, none⟩)] w (TplP w L s nl out opn ob i (tplF s (s.size + 1) (i + 1) [])) := by
  obtain ⟨R, hR⟩ : ∃ R, tplF s (s.size + 1) (i + 1) [] = R := ⟨_, rfl⟩
  have HR := Lib.hid hR
  have M0 := Lib.hid (Mid.start h hT)
  have hL := h.lt
  have HO := Lib.hid hO
  obtain ⟨po, no, co, rfl⟩ := slice_of_own hO
  have hn : no = xs.length := by
    rcases hO.2 with ⟨h1, h2⟩ | ⟨g, cap, cur, h1, _⟩
    · cases h1; omega
    · cases h1; rfl
  have hno : (no : Int) ≤ 1048576 := by omega
  clear h hT hO
  rw [hR]
  go_enter Tryz.func12, Tryz.ntmps12
  go_wp2_with fail
  refine wp_gen fun W hW => ?_
  have M1 : Hid (Mid w L s nl out (.slice po no co) w.heap.size i W) := by rw [hW]; exact M0.out
  have hz : W.heap.size = w.heap.size + 1 := by rw [hW]; simp
  have IW : Hid (IRow W ob (.slice po no co) xs) := HO.out.beside M1.out.bs (Nat.le_refl _) hob
  have c0 := M1.out.lx.cell0
  have c1 := M1.out.lx.cell1
  have c4 := M1.out.lx.cell4
  have hbi := byte_index s i hi
  have hb2 : ((s[i]'hi).toNat : Int) = 96 := by rw [hbi, h96]; rfl
  clear M0 hW hR hbi h96
  go_wp2_with (first | go_quiet (fail) | (go_at_call 21; refine (isBegin_tick _).mono ?_; rintro e w2 ⟨rfl, rfl⟩) | (go_at_call 23; refine (isDigit_any 96 _).mono ?_; rintro e w2 ⟨rfl, rfl⟩; rw [show isDig 96 = false from rfl]))
  refine (tplH_any L s i nl out _ _ ob xs (M1.out.lx.drewN _) hi hs (M1.out.drewN _).tabs IW.out hob (by show ob ≤ W.heap.size; omega) hxs).mono ?_
  rw [HR.out]
  rintro e w3 ht
  obtain ⟨v, k1, a1, b1, t1, p1, n1, c1, f1, x1, y1, rfl⟩ := tpl_form ht
  have A4 := tpl_at (M1.out.drewN _) IW.out ht
  obtain ⟨d0, d1, d2, d3, d4, d5, d6, d7⟩ := A4.cells
  have df := A4.free
  have A5 := Lib.hid A4
  have HT := Lib.hid ht
  unfold tokV
  clear ht A4
  go_wp2
  refine tok_ret (by rfl) (by rfl) (by rfl) (by rfl) (TokAt.set A5.out) ?_
  exact tpl_pass (M1.out.drewN _) hz HT.out IW.out
end Go.Proofs.YthknielnhmoobaaGreatDoor
