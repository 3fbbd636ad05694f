/- The walk of the reference's template behind a substitution. -/
import Derived.Test.YthknielnhmoobaaGreatDoorZl
namespace Go.Proofs.YthknielnhmoobaaGreatDoor
open Go.RowKit Go.Lib

theorem Keeps.of_beside {T : Nat → Prop} {L : Nat} {w w' : World} (h : Beside w.heap.size L w w') (hL : T L) : Keeps T w w' := ⟨h.os, h.tape, h.output, h.size, fun k hk ht => h.block k hk (fun e => ht (e ▸ hL))⟩
theorem irow_pop {w : World} {ob g m cap : Nat} {xs : List Int} (h : IRow w ob (.slice (some ⟨g, 0, none⟩) (m + 1) cap) xs) (hm : xs.length = m + 1) : IRow w ob (.slice (some ⟨g, 0, none⟩) m cap) (xs.take m) := by
  unfold IRow at *
  rw [hm] at h
  have hl : (xs.take m).length = m := by rw [List.length_take]; omega
  rw [hl]
  refine ⟨by rw [List.length_map, hl, Nat.mul_one], .inr ?_⟩
  rcases h.2 with ⟨h1, _⟩ | ⟨g', cap', cur, h1, h2, h3, h4, h5, h6, h7⟩
  · cases h1
  · cases h1
    refine ⟨g, cap, cur, rfl, h2, h3, by omega, h5, h6, ?_⟩
    rw [List.map_take, ← h7, List.take_take]
    congr 1
    omega
theorem Mid.set4 {w W : World} {L B j : Nat} {s : ByteArray} {nl : Bool} {out opn : Value} (h : Mid w L s nl out opn B j W) (v : Value) : Mid w L s nl out v B j (W.setCell ⟨L, 4, none⟩ v) :=
  ⟨h.lx.set4 v, h.bs.setCell (.inl rfl) _, h.tk.set_other _ _ (by have := h.hL; have := h.low; show B ≠ L; omega), h.low, h.hL, h.hT⟩
set_option maxRecDepth 100000 in
set_option maxHeartbeats 4000000 in
theorem tplT_any (L : Nat) (s : ByteArray) (i : Nat) (nl : Bool) (out opn : Value) (w : World) (ob : Nat) (xs : List Int) (h : LxAt w L s i nl out opn) (hi : i < s.size) (hs : s.size ≤ 1048576) (hT : Tabs L w) (hO : IRow w ob opn xs) (hob : L < ob) (hob2 : ob ≤ w.heap.size) (hxs : xs.length ≤ 1048576) (hne0 : 1 ≤ xs.length) :
    Calls Tryz.prog 27 #[.pointer (some ⟨L, 0, none⟩), .int .i64 11, .int .i64 10] w (TokO w L s nl out opn ob i) := by
  obtain ⟨R, hR⟩ : ∃ R, tplF s (s.size + 1) (i + 1) [] = R := ⟨_, rfl⟩
  have HR := Lib.hid hR
  have M0 := Lib.hid (Mid.start1 h hT (i + 1))
  obtain ⟨m, hm⟩ : ∃ m, xs.length = m + 1 := ⟨xs.length - 1, by omega⟩
  obtain ⟨g, cap, hopn, hcap, hcap2⟩ : ∃ g cap, opn = .slice (some ⟨g, 0, none⟩) (m + 1) cap ∧ m + 1 ≤ cap ∧ cap ≤ 9223372036854775807 := by
    rcases hO.2 with ⟨_, h0⟩ | ⟨g, cap, cur, h1, _, _, h2, h3, _⟩
    · omega
    · rw [hm] at h1 h2
      exact ⟨g, cap, h1, h2, by unfold maxLen at h3; omega⟩
  subst hopn
  have HO := Lib.hid hO
  have HLEN := Lib.hid hO.lenOf
  have hL := h.lt
  have c1 := h.cell1
  have f1 := h.free 1
  clear h hT hR hO
  go_enter Tryz.func27, Tryz.ntmps27
  go_wp2_with fail
  obtain ⟨W, hW⟩ : ∃ W, (w.setCell ⟨L, 1, none⟩ (.int .i64 ((i : Int) + 1))).alloc (.cells #[.int .i64 0, .int .i64 0, .int .i64 0, .string ⟨#[]⟩, .slice none 0 0, .float .f64 0, .bool false, .bool false] 34) = W := ⟨_, rfl⟩
  have z0 : W.heap.size = w.heap.size + 1 := by rw [← hW]; simp [World.setCell]
  rw [hW]
  have M1 : Hid (Mid w L s nl out (.slice (some ⟨g, 0, none⟩) (m + 1) cap) w.heap.size (i + 1) W) := by rw [← hW]; exact M0.out
  clear M0 hW c1 f1
  go_loopw [9] (fun v wr => ∃ (j k : Nat) (u : List Nat), i < j ∧ j ≤ s.size ∧ s.size < j + k ∧ u.length ≤ 2 * j ∧ tplF s k j u = R ∧ Mid w L s nl out (.slice (some ⟨g, 0, none⟩) (m + 1) cap) w.heap.size j wr ∧ Row wr (w.heap.size + 1) v u ∧ w.heap.size + 1 ≤ wr.heap.size) (fun _ wr => s.size - posOf wr L)
  case atStart => exact ⟨i + 1, s.size + 1, [], by omega, by omega, by omega, Nat.zero_le _, HR.out, M1.out, World.ownsRow_nil _ _ _ _, by omega⟩
  case round =>
    obtain ⟨j, k, u, hij, hj, hk, hu, htp, hM, hrow, hz⟩ := hrel
    have MR := Lib.hid hM
    have RR := Lib.hid hrow
    have P0 := Lib.hid hM.lx.posOf
    have HTP := Lib.hid htp
    clear hM hrow M1 htp
    obtain ⟨f, rfl⟩ : ∃ f, k = f + 1 := ⟨k - 1, by omega⟩
    obtain ⟨p, n0, c0, rfl⟩ := slice_of_row RR.out
    have hh := here_any L s j nl out _ wr MR.out.lx hj MR.out.tabs.tabs
    by_cases hlt : j < s.size
    · obtain ⟨c, n, hcn⟩ : ∃ c n, rn s j = (c, n) := ⟨_, _, rfl⟩
      have hn1 : 1 ≤ n := by have := rn_pos hlt; rw [hcn] at this; exact this
      have hn2 : j + n ≤ s.size := by have := rn_le (s := s) (i := j) (by omega); rw [hcn] at this; exact this
      have hc : c ≤ 1114111 := by have := rn_rune s j; rw [hcn] at this; exact this
      have hn0 : ((n : Int) == 0) = false := by simpa using (by omega : ¬ (n : Int) = 0)
      rw [if_pos hlt, hcn] at hh
      have hI := HTP.out
      unfold tplF at hI
      rw [if_neg (by omega), hcn] at hI
      simp only at hI
      have HI := Lib.hid hI
      have HC := Lib.hid hcn
      clear hI hcn HTP
      go_wp2_with fail
      refine hh.mono ?_
      clear hh
      rintro e w1 ⟨rfl, hb1⟩
      have M1 := Lib.hid (MR.out.on (MR.out.lx.below hb1 MR.out.lx.lt) (.of_below hb1))
      have R1 : Hid (Row w1 (w.heap.size + 1) (.slice p n0 c0) u) := RR.out.beside (.of_below (B := wr.heap.size) (L := L) hb1) (Nat.le_refl _) (by omega)
      have hz1 : w.heap.size + 1 ≤ w1.heap.size := by have := hb1.size; omega
      have c1 := M1.out.lx.cell1
      have f1 := M1.out.lx.free 1
      have M2 := Lib.hid (M1.out.set1 (j + n))
      have R2 := Lib.hid (Row.set_below R1.out (a := ⟨L, 1, none⟩) (by show L < w.heap.size + 1; omega) (.int .i64 ((j + n : Nat) : Int)))
      clear hb1 MR RR
      by_cases h96 : c = 96
      · subst h96
        obtain rfl : n = 1 := by have := rn_ascii (s := s) (i := j) (by rw [HC.out]; show 96 < 128; omega); rw [HC.out] at this; exact this.2.1
        go_wp2_with fail
        obtain ⟨W0, hW0⟩ : ∃ W0, w1.setCell ⟨L, 1, none⟩ (.int .i64 ((j : Int) + ((1 : Nat) : Int))) = W0 := ⟨_, rfl⟩
        have MA : Hid (Mid w L s nl out (.slice (some ⟨g, 0, none⟩) (m + 1) cap) w.heap.size (j + 1) W0) := by rw [← hW0]; exact M2.out
        have RA : Hid (Row W0 (w.heap.size + 1) (.slice p n0 c0) u) := by rw [← hW0]; exact R2.out
        try simp only [Int.natCast_one] at hW0
        rw [hW0]
        clear hW0 M2 R2 c1 f1
        have c4 : W0.cell? ⟨L, 4, none⟩ = some (.slice (some ⟨g, 0, none⟩) (m + 1) cap) := MA.out.lx.cell4
        have f4 := MA.out.lx.free 4
        have e1 : ((m + 1 : Nat) : Int) = (m : Int) + 1 := by omega
        have e2 : (m : Int) ≤ (cap : Int) := by omega
        have e3 : m ≤ cap := by omega
        have e4 : m ≤ m + 1 := by omega
        have e5 : (m : Int) + 1 ≤ 1048576 := by omega
        have e6 : m + 1 ≤ 1048576 := by omega
        have e7 : IntKind.i64.wrap ((m : Int) + 1) = (m : Int) + 1 := IntWalk.i64_in _ (by omega)
        have e8 : IntKind.i64.wrap (m : Int) = (m : Int) := IntWalk.i64_in _ (by omega)
        have e9 : IntKind.i64.wrap ((m + 1 : Nat) : Int) = ((m + 1 : Nat) : Int) := IntWalk.i64_in _ (by omega)
        go_still_tail 14, (by kernel_rfl)
        change wpList _ _ _ _ _ W0.drew
        go_wp2_with fail
        -- the rest by gen_tplT.py
        obtain ⟨W2, hW2⟩ : ∃ W2, W0.drew.setCell ⟨L, 4, none⟩ (.slice (some ⟨g, 0, none⟩) m cap) = W2 := ⟨_, rfl⟩
        have M3 : Hid (Mid w L s nl out (.slice (some ⟨g, 0, none⟩) m cap) w.heap.size (j + 1) W2) := by rw [← hW2]; exact (MA.out.drewN 1).set4 _
        have R3 : Hid (Row W2 (w.heap.size + 1) (.slice p n0 c0) u) := by rw [← hW2]; exact Row.set_below (Row.drewN RA.out 1) (a := ⟨L, 4, none⟩) (by show L < w.heap.size + 1; omega) _
        first | rw [hW2] | (rw [show (W0.setCell ⟨L, 4, none⟩ (.slice (some ⟨g, 0, none⟩) m cap)).drew = W2 from hW2])
        clear hW2 c4 f4 e1 e2 e3 e4 e5 e6 e7 e8 e9
        have c0' := M3.out.lx.cell0
        have c1 : W2.cell? ⟨L, 1, none⟩ = some (.int .i64 ((j : Int) + 1)) := M3.out.lx.cell1
        have A3 := M3.out.tk
        have hlt2 := A3.lt
        have hLz : L < W2.heap.size := M3.out.lx.lt
        have g1 : (i : Int) + 1 ≤ (j : Int) := by omega
        have g2 : (j : Int) ≤ (s.size : Int) := by omega
        have HA := Lib.hid A3
        clear A3
        obtain ⟨bg, hbg⟩ : ∃ bg : Nat, (i : Int) + 1 = (bg : Int) := ⟨i + 1, by omega⟩
        obtain ⟨jj, hjj⟩ : ∃ jj : Nat, (j : Int) + 1 = (jj : Int) := ⟨j + 1, by omega⟩
        have hw1 : IntKind.i64.wrap ((jj : Int) - 1) = (j : Int) := by rw [IntWalk.i64_in _ (by omega)]; omega
        have hw2 : (jj : Int) - 1 = (j : Int) := by omega
        have hw4 : IntKind.i64.wrap (j : Int) = (j : Int) := IntWalk.i64_in _ (by omega)
        have g3 : (bg : Int) ≤ (j : Int) := by omega
        have g4 : (0 : Int) ≤ (bg : Int) := by omega
        have g5 : bg ≤ j := by omega
        rw [hjj] at c1
        rw [hbg]
        have HG := Lib.hid (And.intro hbg hjj)
        clear hbg hjj g1
        have hne : L ≠ w.heap.size := by omega
        go_region_held3 (fun w' => w'.cell? ⟨L, 0, none⟩ = some (.string s) ∧ w'.cell? ⟨L, 1, none⟩ = some (.int .i64 (jj : Int))) (first | with_reducible exact ⟨k0, k1⟩ | with_reducible exact est8 hne k0 k1 | exact ⟨c0', c1⟩) (first | (go_at_call 40; refine (lines_any _ _ (by simp; omega)).mono ?_; rintro e w10 ⟨rfl, hb⟩; have hb2 := below_drew hb; have B10 := Lib.hid hb2; have A4 := HA.out.below hb2 hlt2; obtain ⟨d0, d1, d2, d3, d4, d5, d6, d7⟩ := A4.cells; have df := A4.free; have k0 := (hb2.cell (p := ⟨L, 0, none⟩) hLz).trans c0'; have k1 := (hb2.cell (p := ⟨L, 1, none⟩) hLz).trans c1; have A5 := Lib.hid A4; clear hb hb2 A4))
        go_wp2
        refine tok_ret (by rfl) (by rfl) (by rfl) (by rfl) (TokAt.set A5.out) ?_
        have B11 : Below w.heap.size W2 w10 := B10.out.mono (show w.heap.size ≤ W2.heap.size by omega)
        refine ⟨1, ⟨_, _, _, _, _, _, _, _, _, _, rfl⟩, fun _ => ⟨j + 1, _, xs.take m, by omega, by omega, (M3.out.lx.below B10.out hLz).tok8 hne, ?_, fun hl => by have h1 := HLEN.out; rw [h1] at hl; rw [List.length_take]; omega⟩, Keeps.of_beside (Beside.tok8 (M3.out.bs.trans (.of_below B11)) (Nat.le_refl _)) (.inl rfl)⟩
        exact irow_pop (HO.out.beside (Beside.tok8 (M3.out.bs.trans (.of_below B11)) (Nat.le_refl _)) (Nat.le_refl _) hob) hm
      · have hI := HI.out
        rw [if_neg h96] at hI
        have HJ := Lib.hid hI
        clear HI
        have g96 : ((c : Int) == 96) = false := by simpa using (by omega : ¬ (c : Int) = 96)
        have hz2 : (w1.setCell ⟨L, 1, none⟩ (.int .i64 ((j + n : Nat) : Int))).heap.size = w1.heap.size := by simp [World.setCell]
        have HZ2 := Lib.hid hz2
        clear hI hz2
        obtain ⟨q7, hq7⟩ : ∃ x, bt s (j + n) = x := ⟨_, rfl⟩
        have hq8 := bt_lt s (j + n)
        by_cases h36 : c = 36 ∧ q7 = 123
        · obtain ⟨rfl, h123⟩ := h36
          subst h123
          obtain rfl : n = 1 := by have := rn_ascii (s := s) (i := j) (by rw [HC.out]; show 36 < 128; omega); rw [HC.out] at this; exact this.2.1
          have hjs := bt_some (s := s) (i := j + 1) (by omega)
          have hI := HJ.out
          rw [if_pos ⟨rfl, hq7⟩] at hI
          subst hI
          clear HJ h96
          go_wp2_with fail
          refine (ahead_any L s (j + 1) 0 (j + 1) 0 rfl rfl nl out (.slice (some ⟨g, 0, none⟩) (m + 1) cap) _ M2.out.lx (by omega) (by omega)).mono ?_
          rintro e w2 ⟨rfl, q, rfl⟩
          rw [hq7]
          go_wp2_with fail
          obtain ⟨W2, hW2⟩ : ∃ W2, (w1.setCell ⟨L, 1, none⟩ (.int .i64 ((j : Int) + 1))).drewN q = W2 := ⟨_, rfl⟩
          have M3 : Hid (Mid w L s nl out (.slice (some ⟨g, 0, none⟩) (m + 1) cap) w.heap.size (j + 1) W2) := by rw [← hW2]; exact M2.out.drewN q
          have R3 : Hid (Row W2 (w.heap.size + 1) (.slice p n0 c0) u) := by rw [← hW2]; exact Row.drewN R2.out q
          rw [hW2]
          clear hW2 M2 R2 c1 f1
          have c0' := M3.out.lx.cell0
          have c1 : W2.cell? ⟨L, 1, none⟩ = some (.int .i64 ((j : Int) + 1)) := M3.out.lx.cell1
          have A3 := M3.out.tk
          have hlt2 := A3.lt
          have hLz : L < W2.heap.size := M3.out.lx.lt
          have g2 : (j : Int) ≤ (s.size : Int) := by omega
          have HA := Lib.hid A3
          clear A3
          obtain ⟨bg, hbg⟩ : ∃ bg : Nat, (i : Int) + 1 = (bg : Int) := ⟨i + 1, by omega⟩
          obtain ⟨jj, hjj⟩ : ∃ jj : Nat, (j : Int) + 1 = (jj : Int) := ⟨j + 1, by omega⟩
          have hw1 : IntKind.i64.wrap ((jj : Int) - 1) = (j : Int) := by rw [IntWalk.i64_in _ (by omega)]; omega
          have hw2 : (jj : Int) - 1 = (j : Int) := by omega
          have hw4 : IntKind.i64.wrap (j : Int) = (j : Int) := IntWalk.i64_in _ (by omega)
          have g3 : (bg : Int) ≤ (j : Int) := by omega
          have g4 : (0 : Int) ≤ (bg : Int) := by omega
          have g5 : bg ≤ j := by omega
          have hjj2 : (jj : Int) ≤ 1048576 := by omega
          rw [hjj] at c1
          rw [hbg]
          have HG := Lib.hid (And.intro hbg hjj)
          clear hbg hjj
          have hne : L ≠ w.heap.size := by omega
          go_region_held3 (fun w' => w'.cell? ⟨L, 0, none⟩ = some (.string s) ∧ w'.cell? ⟨L, 1, none⟩ = some (.int .i64 (jj : Int))) (first | with_reducible exact ⟨k0, k1⟩ | with_reducible exact est8 hne k0 k1 | exact ⟨c0', c1⟩) (first | (go_at_call 40; refine (lines_any _ _ (by simp; omega)).mono ?_; rintro e w10 ⟨rfl, hb⟩; have hb2 := below_drew hb; have B10 := Lib.hid hb2; have A4 := HA.out.below hb2 hlt2; obtain ⟨d0, d1, d2, d3, d4, d5, d6, d7⟩ := A4.cells; have df := A4.free; have k0 := (hb2.cell (p := ⟨L, 0, none⟩) hLz).trans c0'; have k1 := (hb2.cell (p := ⟨L, 1, none⟩) hLz).trans c1; have A5 := Lib.hid A4; clear hb hb2 A4))
          have M10 : Hid (Mid w L s nl out (.slice (some ⟨g, 0, none⟩) (m + 1) cap) w.heap.size (j + 1) w10) := M3.out.on (M3.out.lx.below B10.out hLz) (.of_below (B10.out.mono (Nat.le_refl W2.heap.size)))
          have f10 := M10.out.lx.free 1
          have M11 : Hid (Mid w L s nl out (.slice (some ⟨g, 0, none⟩) (m + 1) cap) w.heap.size (j + 1 + 1) (w10.setCell ⟨L, 1, none⟩ (.int .i64 ((jj : Int) + 1)))) := by
            have := M10.out.set1 (j + 1 + 1)
            rw [show ((jj : Int) + 1) = ((j + 1 + 1 : Nat) : Int) by have := HG.out.2; omega]
            exact this
          go_wp2
          refine tok_ret (by rfl) (by rfl) (by rfl) (by rfl) (TokAt.set (A5.out.set_other ⟨L, 1, none⟩ _ (by show w.heap.size ≠ L; omega))) ?_
          refine ⟨1, ⟨_, _, _, _, _, _, _, _, _, _, rfl⟩, fun _ => ⟨j + 1 + 1, _, xs, by omega, by omega, M11.out.lx.tok8 hne, ?_, fun hl => by have h1 := HLEN.out; rw [h1] at hl; omega⟩, Keeps.of_beside (Beside.tok8 M11.out.bs (Nat.le_refl _)) (.inl rfl)⟩
          exact HO.out.beside (Beside.tok8 M11.out.bs (Nat.le_refl _)) (Nat.le_refl _) hob
        · by_cases h92 : c = 92
          · subst h92
            obtain rfl : n = 1 := by have := rn_ascii (s := s) (i := j) (by rw [HC.out]; show 92 < 128; omega); rw [HC.out] at this; exact this.2.1
            have hI := HJ.out
            rw [if_neg (by omega)] at hI
            first | rw [if_pos trivial] at hI | rw [if_pos rfl] at hI
            have HK := Lib.hid hI
            clear hI h36 h96 HJ
            go_wp2_with fail
            by_cases hend : j + 1 = s.size
            · have hX : LxAt (w1.setCell ⟨L, 1, none⟩ (.int .i64 ((j : Int) + 1))) L s s.size nl out (.slice (some ⟨g, 0, none⟩) (m + 1) cap) := by rw [← hend]; exact M2.out.lx
              refine (escape_end L s nl out (.slice (some ⟨g, 0, none⟩) (m + 1) cap) _ _ hX M2.out.tabs).mono ?_
              rintro e w3 ⟨rfl, hb⟩
              have hbs := Beside.of_below (L := L) hb
              have A4 := (M2.out.off hbs).2
              obtain ⟨d0, d1, d2, d3, d4, d5, d6, d7⟩ := A4.cells
              have df := A4.free
              have A5 := Lib.hid A4
              have HB := Lib.hid (M2.out.off hbs).1
              clear A4 hb hbs hX
              have hI := HK.out
              rw [show escF s (j + 1) = .wrong by unfold escF; rw [if_pos (by omega)]] at hI
              subst hI
              go_wp2
              refine tok_ret (by rfl) (by rfl) (by rfl) (by rfl) (TokAt.set A5.out) ?_
              exact ⟨0, ⟨_, _, _, _, _, _, _, _, _, _, rfl⟩, fun h => absurd h (by decide), Keeps.of_beside (Beside.tok8 HB.out (Nat.le_refl _)) (.inl rfl)⟩
            · refine (escape_any L s (j + 1) nl out (.slice (some ⟨g, 0, none⟩) (m + 1) cap) (w.heap.size + 1) _ u _ M2.out.lx (by omega) (by omega) R2.out (by omega) (by omega) (by rw [HZ2.out]; exact hz1) M2.out.tabs).mono ?_
              cases hx : escF s (j + 1) with
              | right a j2 =>
                rintro e w3 ⟨v3, rfl, hr, hl, hb⟩
                obtain ⟨h1, h2, h3⟩ := escF_le hx
                have hI := HK.out
                rw [hx] at hI
                have HI2 : Hid (tplF s f j2 (u ++ a) = R) := hI
                have M4 := Lib.hid (M2.out.on2 hl hb (by omega) (by omega))
                have R4 := Lib.hid hr
                have hz4 : w.heap.size + 1 ≤ w3.heap.size := by have := hb.size; rw [HZ2.out] at this; omega
                clear hI hr hl hb hx
                go_wp2
                exact ⟨⟨j2, f, u ++ a, by omega, h2, by omega, by simp; omega, HI2.out, M4.out, R4.out, hz4⟩, meas P0.out M4.out.lx.posOf (by omega) h2⟩
              | wrong =>
                rintro e w3 ⟨rfl, _, hb⟩
                have hI := HK.out
                rw [hx] at hI
                have HI2 : Hid (.bad 0 = R) := hI
                have A4 := M2.out.tk.beside hb (by omega) (by omega)
                obtain ⟨d0, d1, d2, d3, d4, d5, d6, d7⟩ := A4.cells
                have df := A4.free
                have A5 := Lib.hid A4
                have HB := Lib.hid (M2.out.bs.trans (hb.mono (by omega)))
                clear A4 hb hI
                go_wp2
                obtain rfl := HI2.out
                refine tok_ret (by rfl) (by rfl) (by rfl) (by rfl) (TokAt.set A5.out) ?_
                exact ⟨0, ⟨_, _, _, _, _, _, _, _, _, _, rfl⟩, fun h => absurd h (by decide), Keeps.of_beside (Beside.tok8 HB.out (Nat.le_refl _)) (.inl rfl)⟩
              | opn =>
                rintro e w3 ⟨rfl, _, hb⟩
                have hI := HK.out
                rw [hx] at hI
                have HI2 : Hid (.bad 0 = R) := hI
                have A4 := M2.out.tk.beside hb (by omega) (by omega)
                obtain ⟨d0, d1, d2, d3, d4, d5, d6, d7⟩ := A4.cells
                have df := A4.free
                have A5 := Lib.hid A4
                have HB := Lib.hid (M2.out.bs.trans (hb.mono (by omega)))
                clear A4 hb hI
                go_wp2
                obtain rfl := HI2.out
                refine tok_ret (by rfl) (by rfl) (by rfl) (by rfl) (TokAt.set A5.out) ?_
                exact ⟨0, ⟨_, _, _, _, _, _, _, _, _, _, rfl⟩, fun h => absurd h (by decide), Keeps.of_beside (Beside.tok8 HB.out (Nat.le_refl _)) (.inl rfl)⟩
          · by_cases h13 : c = 13
            · subst h13
              obtain rfl : n = 1 := by have := rn_ascii (s := s) (i := j) (by rw [HC.out]; show 13 < 128; omega); rw [HC.out] at this; exact this.2.1
              obtain ⟨i0, hi0, hz0, hz1', hz2'⟩ := info_parts infoU
              have hI := HJ.out
              rw [if_neg (by omega), if_neg (by omega)] at hI
              first | rw [if_pos trivial] at hI | rw [if_pos rfl] at hI
              have HK := Lib.hid hI
              clear hI h36 h96 h92 HJ
              go_wp2_with fail
              refine (ahead_any L s (j + 1) 0 (j + 1) 0 rfl rfl nl out (.slice (some ⟨g, 0, none⟩) (m + 1) cap) _ M2.out.lx (by omega) (by omega)).mono ?_
              rintro e w2 ⟨rfl, q, rfl⟩
              rw [hq7]
              by_cases h10 : q7 = 10
              · subst h10
                have hjs := bt_some (s := s) (i := j + 1) (by omega)
                have hI := HK.out
                rw [if_pos hq7] at hI
                have HK := Lib.hid hI
                obtain ⟨W4, hW4⟩ : ∃ W4, (w1.setCell ⟨L, 1, none⟩ (.int .i64 ((j + 1 : Nat) : Int))).drewN q = W4 := ⟨_, rfl⟩
                have M4 : Hid (Mid w L s nl out (.slice (some ⟨g, 0, none⟩) (m + 1) cap) w.heap.size (j + 1) W4) := by rw [← hW4]; exact M2.out.drewN q
                have R4 : Hid (Row W4 (w.heap.size + 1) (.slice p n0 c0) u) := by rw [← hW4]; exact Row.drewN R2.out q
                have hz4 : w.heap.size + 1 ≤ W4.heap.size := by rw [← hW4]; show w.heap.size + 1 ≤ (w1.setCell ⟨L, 1, none⟩ (.int .i64 ((j + 1 : Nat) : Int))).heap.size; rw [HZ2.out]; exact hz1
                rw [hW4]
                have c4 : W4.cell? ⟨L, 1, none⟩ = some (.int .i64 ((j : Int) + 1)) := M4.out.lx.cell1
                have f4 := M4.out.lx.free 1
                have M5 : Hid (Mid w L s nl out (.slice (some ⟨g, 0, none⟩) (m + 1) cap) w.heap.size (j + 1 + 1) (W4.setCell ⟨L, 1, none⟩ (.int .i64 ((j : Int) + 1 + 1)))) := M4.out.set1 (j + 1 + 1)
                have RX : Hid (Row (W4.setCell ⟨L, 1, none⟩ (.int .i64 ((j : Int) + 1 + 1))) (w.heap.size + 1) (.slice p n0 c0) u) := Row.set_below R4.out (a := ⟨L, 1, none⟩) (by show L < w.heap.size + 1; omega) _
                have hz7 : (W4.setCell ⟨L, 1, none⟩ (.int .i64 ((j : Int) + 1 + 1))).heap.size = W4.heap.size := by simp [World.setCell]
                have HZ7 := Lib.hid hz7
                clear hW4 hI hz7
                go_wp2_with (at_builtin; refine wpList_append_own _ rfl _ _ 22 rfl (w.heap.size + 1) 35 i0 (.int .u16 0) 1 2 Tryz.underlying22 hi0 hz0 hz1' hz2' rfl (by decide) _ _ _ rfl (World.ownsRow.alloc RX.out _) ⟨W4.heap.size, 0, none⟩ 1 1 [.int .u16 10] rfl rfl ?_ ?_ ?_ ?_ ?_ ?_; go_must (rw [← HZ7.out]; exact cell_one_new _ _ _); (intro u hu; simp at hu; subst hu; rfl); (unfold maxLen; omega); omega; (have := HZ7.out; simp at this ⊢; omega); intro v' w4 hown hgrow _)
                have hb5 : Below (w.heap.size + 1) (W4.setCell ⟨L, 1, none⟩ (.int .i64 ((j : Int) + 1 + 1))) w4 := ((Below.refl (w.heap.size + 1) _).alloc (by rw [HZ7.out]; exact hz4) _).grown hgrow (by have := HZ7.out; simp at this ⊢; omega) RX.out.lt
                have hz6 : w.heap.size + 1 ≤ w4.heap.size := by have := hb5.size; rw [HZ7.out] at this; omega
                exact ⟨⟨j + 1 + 1, f, u ++ [10], by omega, by omega, by omega, by simp; omega, HK.out, M5.out.on2 (M5.out.lx.below hb5 (by omega)) (.of_below hb5) (by omega) (by omega), Row.of hown (by simp) (by rw [List.map_append]; rfl), by omega⟩, meas P0.out (M5.out.lx.below hb5 (by omega)).posOf (by omega) (by omega)⟩
              · have hI := HK.out
                rw [if_neg (by rw [hq7]; exact h10)] at hI
                have HK := Lib.hid hI
                have g10 : ((q7 : Int) == 10) = false := by simpa using (by omega : ¬ (q7 : Int) = 10)
                obtain ⟨W5, hW5⟩ : ∃ W5, (w1.setCell ⟨L, 1, none⟩ (.int .i64 ((j + 1 : Nat) : Int))).drewN q = W5 := ⟨_, rfl⟩
                have M5 : Hid (Mid w L s nl out (.slice (some ⟨g, 0, none⟩) (m + 1) cap) w.heap.size (j + 1) W5) := by rw [← hW5]; exact M2.out.drewN q
                have RX : Hid (Row W5 (w.heap.size + 1) (.slice p n0 c0) u) := by rw [← hW5]; exact Row.drewN R2.out q
                have hW5z : w.heap.size + 1 ≤ W5.heap.size := by rw [← hW5]; show w.heap.size + 1 ≤ (w1.setCell ⟨L, 1, none⟩ (.int .i64 ((j + 1 : Nat) : Int))).heap.size; rw [HZ2.out]; exact hz1
                rw [hW5]
                clear hW5 hI h10
                have hz5 : w.heap.size + 1 ≤ W5.heap.size := hW5z
                go_wp2_with (at_builtin; refine wpList_append_own _ rfl _ _ 22 rfl (w.heap.size + 1) 35 i0 (.int .u16 0) 1 2 Tryz.underlying22 hi0 hz0 hz1' hz2' rfl (by decide) _ _ _ rfl (World.ownsRow.alloc RX.out _) ⟨W5.heap.size, 0, none⟩ 1 1 [.int .u16 10] rfl rfl ?_ ?_ ?_ ?_ ?_ ?_; exact cell_one_new _ _ _; (intro u hu; simp at hu; subst hu; rfl); (unfold maxLen; omega); omega; (simp; omega); intro v' w4 hown hgrow _)
                have hb5 : Below (w.heap.size + 1) W5 w4 := ((Below.refl (w.heap.size + 1) W5).alloc hz5 _).grown hgrow (by simp; omega) RX.out.lt
                have hz6 := hb5.size
                exact ⟨⟨j + 1, f, u ++ [10], by omega, by omega, by omega, by simp; omega, HK.out, M5.out.on2 (M5.out.lx.below hb5 (by omega)) (.of_below hb5) (by omega) (by omega), Row.of hown (by simp) (by rw [List.map_append]; rfl), by omega⟩, meas P0.out (M5.out.lx.below hb5 (by omega)).posOf (by omega) (by omega)⟩
            · have hI := HJ.out
              have g92 : ((c : Int) == 92) = false := by simpa using (by omega : ¬ (c : Int) = 92)
              have g13 : ((c : Int) == 13) = false := by simpa using (by omega : ¬ (c : Int) = 13)
              rw [if_neg (by rw [hq7]; exact h36), if_neg h92, if_neg h13] at hI
              have HK := Lib.hid hI
              have g36 : ((c : Int) == 36) = false ∨ (((c : Int) == 36) = true ∧ ((q7 : Int) == 123) = false) := by
                by_cases e : c = 36
                · exact .inr ⟨by rw [e]; rfl, by simpa using (by omega : ¬ (q7 : Int) = 123)⟩
                · exact .inl (by simpa using (by omega : ¬ (c : Int) = 36))
              clear hI h36 h96 h92 h13 HJ
              rcases g36 with g36 | ⟨g36, g123⟩
              · go_wp2_with fail
                refine (units_any (w.heap.size + 1) _ u c _ R2.out hc (by omega) (by rw [HZ2.out]; exact hz1)).mono ?_
                rintro e w3 ⟨v3, rfl, hr, hb⟩
                have M4 := Lib.hid (M2.out.on2 (M2.out.lx.below hb (by omega)) (.of_below hb) (by omega) (by omega))
                have R4 := Lib.hid hr
                have hz4 : w.heap.size + 1 ≤ w3.heap.size := by
                  have h1 := hb.size
                  have h2 : w.heap.size + 1 ≤ (w1.setCell ⟨L, 1, none⟩ (.int .i64 ((j + n : Nat) : Int))).heap.size := by rw [HZ2.out]; exact hz1
                  exact Nat.le_trans h2 h1
                have hul := unitsOf_len c
                clear hr hb
                go_wp2
                exact ⟨⟨j + n, f, u ++ unitsOf c, by omega, hn2, by omega, by simp; omega, HK.out, M4.out, R4.out, hz4⟩, meas P0.out M4.out.lx.posOf (by omega) hn2⟩
              · go_wp2_with fail
                refine (ahead_any L s (j + n) 0 (j + n) 0 rfl rfl nl out (.slice (some ⟨g, 0, none⟩) (m + 1) cap) _ M2.out.lx (by omega) (by omega)).mono ?_
                rintro e w2 ⟨rfl, q, rfl⟩
                rw [hq7]
                go_wp2_with fail
                refine (units_any (w.heap.size + 1) _ u c _ (R2.out.drewN q) hc (by omega) (by show w.heap.size + 1 ≤ (w1.setCell ⟨L, 1, none⟩ (.int .i64 ((j + n : Nat) : Int))).heap.size; rw [HZ2.out]; exact hz1)).mono ?_
                rintro e w3 ⟨v3, rfl, hr, hb⟩
                have M4 := Lib.hid ((M2.out.drewN q).on2 ((M2.out.drewN q).lx.below hb (by omega)) (.of_below hb) (by omega) (by omega))
                have R4 := Lib.hid hr
                have hz4 : w.heap.size + 1 ≤ w3.heap.size := by
                  have h1 := hb.size
                  have h2 : w.heap.size + 1 ≤ (w1.setCell ⟨L, 1, none⟩ (.int .i64 ((j + n : Nat) : Int))).heap.size := by rw [HZ2.out]; exact hz1
                  exact Nat.le_trans h2 h1
                have hul := unitsOf_len c
                clear hr hb
                go_wp2
                exact ⟨⟨j + n, f, u ++ unitsOf c, by omega, hn2, by omega, by simp; omega, HK.out, M4.out, R4.out, hz4⟩, meas P0.out M4.out.lx.posOf (by omega) hn2⟩
    · obtain rfl : j = s.size := by omega
      rw [if_neg (Nat.lt_irrefl _), rn_end (Nat.le_refl _)] at hh
      have hI := HTP.out
      unfold tplF at hI
      rw [if_pos (Nat.le_refl _)] at hI
      have HI := Lib.hid hI
      clear hI HTP
      go_wp2_with fail
      refine hh.mono ?_
      clear hh
      rintro e w1 ⟨rfl, hb1⟩
      have hbs := Beside.of_below (L := L) hb1
      have A4 := (MR.out.off hbs).2
      obtain ⟨d0, d1, d2, d3, d4, d5, d6, d7⟩ := A4.cells
      have df := A4.free
      have A5 := Lib.hid A4
      have HB := Lib.hid (MR.out.off hbs).1
      clear A4 hb1 hbs
      go_wp2
      obtain rfl := HI.out
      refine tok_ret (by rfl) (by rfl) (by rfl) (by rfl) (TokAt.set A5.out) ?_
      exact ⟨2, ⟨_, _, _, _, _, _, _, _, _, _, rfl⟩, fun h => absurd h (by decide), Keeps.of_beside (Beside.tok8 HB.out (Nat.le_refl _)) (.inl rfl)⟩
end Go.Proofs.YthknielnhmoobaaGreatDoor
