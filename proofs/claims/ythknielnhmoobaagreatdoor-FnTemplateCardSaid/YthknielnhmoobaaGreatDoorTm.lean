/- The walk of Go's decoder of escapes: a part. Printed by gen_tte2.py. -/
import Derived.Test.YthknielnhmoobaaGreatDoorTj
namespace Go.Proofs.YthknielnhmoobaaGreatDoor
open Go.RowKit Go.Lib
set_option maxRecDepth 100000 in
theorem esc_right {X st : Nat} {s : ByteArray} {rep : Bool} {w : World} {f : Nat → Value} {wr : World} {v : Value} {u : List Nat} {i n1 j B : Nat} {a : List Nat} {Q : Exit → Act → World → Prop} (e : TEnv X st s w B) (h : At X st s rep w f wr v u i)
    (h14 : f 14 = .int .i64 (n1 : Int)) (hn1 : n1 ≤ s.size) (h1i : 1 ≤ i) (hb92 : bt s (i - 1) = 92) (hu : u.length ≤ 4398046511104) (hesc : escF s i = .right a j) (hq : EscOut X st s rep w u a j Q) :
    (sub B29 [1, 1, 1, 0, 0, 0, 1, 0, 1, 1, 0, 1, 0, 1, 1, 1, 0]).wp Tryz.prog Q (mk 567 f) wr := by
  have hml : s.size ≤ maxLen := by have := e.hs; unfold maxLen; omega
  have hs := e.hs; have hst := e.hst; have hi := h.hi
  have hlt := escR_lt hesc
  obtain ⟨c2, n2, hrn⟩ : ∃ c2 n2, rn s i = (c2, n2) := ⟨_, _, rfl⟩
  have hle := rn_le (s := s) (i := i) hi
  rw [hrn] at hle
  simp only at hle
  have hc := rn_rune s i
  rw [hrn] at hc
  simp only at hc
  have hpos := rn_pos hlt
  rw [hrn] at hpos
  simp only at hpos
  have htxt : c2 = 48 → s.extract (i + n2 - 2) (i + n2) = ⟨#[92, 48]⟩ := by
    intro h48
    obtain ⟨h1, h2⟩ := rune_byte hrn (by omega)
    have h3 : n2 = 1 := by omega
    subst h3
    rw [show i + 1 - 2 = i - 1 by omega, show i + 1 = i - 1 + 2 by omega]
    exact two_bytes (by omega) hb92 (by rw [show i - 1 + 1 = i by omega, h1, h48])
  conv => arg 2; whnf
  refine fr_seq ?_
  refine fr_region ?_
  refine fr_move ((.string s)) h.h2 ?_
  refine fr_move (.int .i64 ((i : Nat) : Int)) h.h12 ?_
  refine fr_slice_from 9 s (i) rfl rfl rfl (by omega) hml ?_
  refine fr_dec s (i) B (c2) (n2) hrn rfl (by omega) (h.tabs e) _ ?_
  intro w1 hb
  replace h := h.world hb
  clear hb
  refine fr_move ((.tuple #[.int .i32 ((c2 : Nat) : Int), .int .i64 ((n2 : Nat) : Int)])) rfl ?_
  refine fr_extract 0 _ (.int .i32 ((c2 : Nat) : Int)) rfl rfl ?_
  refine fr_extract 1 _ (.int .i64 ((n2 : Nat) : Int)) rfl rfl ?_
  refine fr_assign (.int .i32 ((c2 : Nat) : Int)) rfl ?_
  refine fr_assign (.int .i64 ((n2 : Nat) : Int)) rfl ?_
  refine fr_end ?_
  refine to_then ?_
  refine fr_seq ?_
  refine fr_region ?_
  refine fr_move (.int .i64 ((i : Nat) : Int)) h.h12 ?_
  refine fr_move (.int .i64 ((n2 : Nat) : Int)) rfl ?_
  refine fr_add .i64 3 ((i : Nat) : Int) ((n2 : Nat) : Int) ((i + n2 : Nat) : Int) rfl rfl rfl (by exact w64' (by omega) (by omega) (by omega)) ?_
  refine fr_assign (.int .i64 ((i + n2 : Nat) : Int)) rfl ?_
  refine fr_end ?_
  refine to_then ?_
  refine fr_seq ?_
  refine fr_region ?_
  refine fr_move (.int .i32 ((c2 : Nat) : Int)) rfl ?_
  refine fr_end ?_
  refine to_then ?_
  exact esc_spine (c2 := c2) (n1 := n1) (n2 := n2) (j := j) e ⟨h.h0, h.h1, h.h2, h.h3, h.h11, rfl, hle, h.hn, h.row, h.below⟩ rfl rfl h14 rfl hn1 (by omega) hc hu (escCase hesc hrn rfl) (by omega) htxt hq
end Go.Proofs.YthknielnhmoobaaGreatDoor
