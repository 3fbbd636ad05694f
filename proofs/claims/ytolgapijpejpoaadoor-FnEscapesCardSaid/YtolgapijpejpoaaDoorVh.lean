/- The great loop of Go's decoder of escapes, where the text is wrong. The walk of Go's decoder of escapes: a part. Printed by gen_tte2.py. The contract of Go's decoder of escapes, where the text is wrong. -/
import Derived.Test.YtolgapijpejpoaaDoorVe
import Derived.Test.YtolgapijpejpoaaDoorTo
namespace Go.Proofs.YtolgapijpejpoaaDoor
open Go.RowKit Go.Lib
theorem tteW_go {s : ByteArray} {k i c n : Nat} {u : List Nat} (h : tteF s k i u = .wrong) (hrn : rn s i = (c, n)) (hle : i + n ≤ s.size) :
    i < s.size ∧ ((c = 13 ∧ bt s (i + n) = 10 ∧ ∃ k', tteF s k' (i + n + 1) (u ++ [10]) = .wrong) ∨ (c = 13 ∧ bt s (i + n) ≠ 10 ∧ ∃ k', tteF s k' (i + n) (u ++ [10]) = .wrong)
      ∨ (c ≠ 13 ∧ c ≠ 92 ∧ ∃ k', tteF s k' (i + n) (u ++ unitsOf c) = .wrong) ∨ (c = 92 ∧ ∃ a j, escF s (i + n) = .right a j ∧ ∃ k', tteF s k' j (u ++ a) = .wrong) ∨ (c = 92 ∧ i + n < s.size ∧ escF s (i + n) = .wrong)) := by
  cases k with
  | zero => cases h
  | succ k =>
    unfold tteF at h
    by_cases hge : s.size ≤ i
    · rw [if_pos hge] at h; cases h
    · refine ⟨by omega, ?_⟩
      rw [if_neg hge, hrn] at h
      simp only at h
      by_cases h13 : c = 13
      · rw [if_pos h13] at h
        by_cases hb : bt s (i + n) = 10
        · rw [if_pos hb] at h; exact .inl ⟨h13, hb, k, h⟩
        · rw [if_neg hb] at h; exact .inr (.inl ⟨h13, hb, k, h⟩)
      · rw [if_neg h13] at h
        by_cases h92 : c = 92
        · rw [if_neg (fun k => k h92)] at h
          by_cases hend : i + n = s.size
          · rw [if_pos hend] at h; cases h
          · rw [if_neg hend] at h
            cases he : escF s (i + n) with
            | right a j => rw [he] at h; exact .inr (.inr (.inr (.inl ⟨h92, a, j, rfl, k, h⟩)))
            | wrong => exact .inr (.inr (.inr (.inr ⟨h92, by omega, rfl⟩)))
            | opn => rw [he] at h; cases h
        · rw [if_pos h92] at h; exact .inr (.inr (.inl ⟨h13, h92, k, h⟩))
set_option maxRecDepth 100000 in
theorem tte_loop_w {X st : Nat} {s : ByteArray} {w : World} {f : Nat → Value} {wr : World} {v : Value} {u : List Nat} {i k B : Nat} {B0 : Nat → Prop} {Q : Exit → Act → World → Prop} (e : TEnv X st s w B) (hb0 : OffAny B0) (h : At X st s true w f wr v u i) (hu : u.length ≤ 2 * i) (ht : tteF s k i u = .wrong)
    (hA : AreOk X B0 w s) (hst : st = 0) (hs6 : s.size ≤ 1048576) (hq : WQ B0 w Q) : (sub B29 [1, 1, 1, 0, 0]).wp Tryd.prog Q (mk 567 f) wr := by
  have hs := e.hs
  conv => arg 2; whnf
  refine fr_loop 12 s.size rfl (fun f w' => ∃ (i k : Nat) (u : List Nat) (v : Value), At X st s true w f w' v u i ∧ u.length ≤ 2 * i ∧ tteF s k i u = .wrong) ⟨i, k, u, v, h, hu, ht⟩ ?_
  clear h hu ht f wr u v i k
  rintro f wr ⟨i, k, u, v, h, hu, ht⟩
  have hsum : num (f 12) = i := by rw [h.h12, num_int]
  have hi := h.hi
  have hnext : ∀ j u2, (∃ k', tteF s k' j u2 = .wrong) → i < j → u2.length ≤ 2 * j → ∀ g w' v', At X st s true w g w' v' u2 j → Exit.then (fun a' w' => ∃ f', a' = mk 567 f' ∧ (∃ (i k : Nat) (u : List Nat) (v : Value), At X st s true w f' w' v u i ∧ u.length ≤ 2 * i ∧ tteF s k i u = .wrong) ∧ s.size - num (f' 12) < s.size - num (f 12)) Q .normal (mk 567 g) w' := by
    rintro j u2 ⟨k', ht'⟩ hij hul g w' v' hag
    refine to_then ⟨g, rfl, ⟨j, k', u2, v', hag, hul, ht'⟩, ?_⟩
    rw [hsum, hag.h12, num_int]
    have := hag.hi
    omega
  obtain ⟨c, n, hrn⟩ : ∃ c n, rn s i = (c, n) := ⟨_, _, rfl⟩
  have hle := rn_le (s := s) (i := i) hi
  rw [hrn] at hle
  have hc := rn_rune s i
  rw [hrn] at hc
  simp only at hle hc
  obtain ⟨hlt, hcase⟩ := tteW_go ht hrn hle
  have hpos := rn_pos hlt
  rw [hrn] at hpos
  simp only at hpos
  rcases hcase with ⟨h13, hb, ht'⟩ | ⟨h13, hb, ht'⟩ | ⟨h13, h92, ht'⟩ | ⟨h92, a, j, hesc, ht'⟩ | ⟨h92, hlt2, hesc⟩
  · have hlt2 : i + n < s.size := bt_lt_size (b := 9) hb
    exact round_cr_a e h hlt hrn hle hpos h13 (by omega) hlt2 hb (hnext _ _ ht' (by omega) (by simp; omega))
  · by_cases hlt2 : i + n < s.size
    · exact round_cr_b e h hlt hrn hle hpos h13 (by omega) hlt2 hb (hnext _ _ ht' (by omega) (by simp; omega))
    · exact round_cr_c e h hlt hrn hle hpos h13 (by omega) (by omega) (hnext _ _ ht' (by omega) (by simp; omega))
  · have hul := unitsOf_len c
    exact round_plain e h hlt hrn hle hpos hc h13 h92 (by omega) (hnext _ _ ht' (by omega) (by simp; omega))
  · obtain ⟨hb, hn⟩ := rune_byte hrn (by omega)
    have hel := escF_le hesc
    exact round_esc e h hlt hrn hle (by omega) h92 (by rw [show i + n - 1 = i by omega, hb, h92]) (by omega) hesc (hnext _ _ ht' (by omega) (by simp; omega))
  · obtain ⟨hb, hn⟩ := rune_byte hrn (by omega)
    obtain rfl : n = 1 := by omega
    exact round_wrong e hb0 h hlt hrn h92 hA hst hs6 hlt2 hesc hq.thn
end Go.Proofs.YtolgapijpejpoaaDoor
namespace Go.Proofs.YtolgapijpejpoaaDoor
open Go.RowKit Go.Lib
set_option maxRecDepth 100000 in
theorem tte_body_w {X st : Nat} {s : ByteArray} {w : World} {f : Nat → Value} {B : Nat} {B0 : Nat → Prop} {Q : Exit → Act → World → Prop} (e : TEnv X st s w B) (hb0 : OffAny B0) (ht : tteF s (s.size + 1) 0 [] = .wrong) (hA : AreOk X B0 w s) (hst0 : st = 0) (hs6 : s.size ≤ 1048576)
    (h0 : f 0 = .pointer (some ⟨X, 0, none⟩)) (h1 : f 1 = .int .i64 st) (h2 : f 2 = .string s) (h3 : f 3 = .bool true) (hq : WQ B0 w Q) :
    B29.wp Tryd.prog Q (mk 567 f) w := by
  have hs := e.hs
  have hrow : Row (w.alloc (.cells #[] 41)) w.heap.size (.slice (some ⟨w.heap.size, 0, none⟩) 0 0) [] := World.ownsRow_made w #[] 0 (Nat.le_refl _) (by decide) (by simp)
  conv => arg 2; whnf
  refine fr_seq ?_
  refine fr_region ?_
  refine fr_assign ((.slice none 0 0)) rfl ?_
  refine fr_assign (.bool false) rfl ?_
  refine fr_assign (.int .i64 0) rfl ?_
  refine fr_end ?_
  refine to_then ?_
  refine fr_seq ?_
  refine fr_region ?_
  refine fr_build0   ?_
  refine fr_assign ((.slice (some ⟨w.heap.size, 0, none⟩) 0 0)) rfl ?_
  refine fr_end ?_
  refine to_then ?_
  refine fr_seq ?_
  refine fr_region ?_
  refine fr_assign (.int .i64 0) rfl ?_
  refine fr_end ?_
  refine to_then ?_
  refine fr_seq ?_
  refine wp_block ?_
  exact tte_loop_w (v := .slice (some ⟨w.heap.size, 0, none⟩) 0 0) (u := []) (i := 0) e hb0 ⟨h0, h1, h2, h3, rfl, rfl, Nat.zero_le _, by simp, hrow, ((Below.refl _ _).alloc (Nat.le_refl _) _)⟩ (by simp) ht hA hst0 hs6 hq.thn.blk
end Go.Proofs.YtolgapijpejpoaaDoor
namespace Go.Proofs.YtolgapijpejpoaaDoor
open Go.RowKit Go.Lib
/-- It answers false, or panics. -/
def WrongPost (B0 : Nat → Prop) (w : World) (e : Ending) (w' : World) : Prop := ((∃ k : Int, e = .returned (.tuple #[.slice none 0 0, .bool false, .int .i64 k])) ∨ e = .panicked lpChain) ∧ Off B0 w w'
theorem tte_wrong {X : Nat} {s : ByteArray} {w : World} {B : Nat} {B0 : Nat → Prop} (e : TEnv X 0 s w B) (hb0 : OffAny B0) (ht : tteF s (s.size + 1) 0 [] = .wrong) (hA : AreOk X B0 w s) (hs6 : s.size ≤ 1048576) :
    Calls Tryd.prog 29 #[.pointer (some ⟨X, 0, none⟩), .int .i64 ((0 : Nat) : Int), .string s, .bool true] w (WrongPost B0 w) := by
  refine calls_of_wp (c := B29) Tryd.func29 rfl ?_
  rw [show Tryd.f29.ntmps = 567 from rfl, mk_enter 567 _ (by simp)]
  refine tte_body_w e hb0 ht hA rfl hs6 rfl rfl rfl rfl ⟨?_, ?_⟩
  · intro g w' k h8 h9 h10 hb
    exact fr_ret3 (.slice none 0 0) (.bool false) (.int .i64 k) rfl h8 h9 h10 ⟨.inl ⟨k, rfl⟩, hb⟩
  · intro g w' hb
    exact ⟨by unfold mk; rfl, .inr rfl, hb⟩
end Go.Proofs.YtolgapijpejpoaaDoor
