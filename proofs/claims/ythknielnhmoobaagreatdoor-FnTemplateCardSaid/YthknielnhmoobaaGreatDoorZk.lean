/- The walk of the reference's lines: a text in which each line ends with one byte. -/
import Derived.Test.YthknielnhmoobaaGreatDoorZj
import Derived.Laws.IdiomStrings
import Derived.Laws.BytesArg
namespace Go.Proofs.YthknielnhmoobaaGreatDoor
open Go.RowKit Go.Lib

/-- The text of a list of bytes. -/
def textOf (l : List Nat) : ByteArray := ⟨(l.map UInt8.ofNat).toArray⟩
theorem textOf_size (l : List Nat) : (textOf l).size = l.length := by
  show (l.map UInt8.ofNat).toArray.size = _
  rw [List.size_toArray, List.length_map]
def u8v (n : Nat) : Value := .int .u8 n
/-- A slice of bytes that the call owns, from block base on. -/
def BRow (w : World) (base : Nat) (v : Value) (xs : List Nat) : Prop := w.ownsRow base 5 1 v xs.length (xs.map u8v)
theorem infoB : (Tryz.prog.info? 5).map (fun i => (i.zero, i.size, i.bytes)) = some (some (.int .u8 0), 1, 1) := by kernel_rfl
theorem BRow.of {w1 : World} {base n : Nat} {v' : Value} {xs : List Nat} {news : List Value} (h : w1.ownsRow base 5 1 v' n news) (hn : n = xs.length) (hnews : news = xs.map u8v) : BRow w1 base v' xs := by
  subst hn; subst hnews; exact h
theorem BRow.lt {w : World} {base : Nat} {v : Value} {xs : List Nat} (h : BRow w base v xs) : ∀ k, v.ownBlock = some k → base ≤ k := fun k hk => (World.ownsRow.lt h k hk).1
theorem BRow.conv {w : World} {base : Nat} {v : Value} {xs : List Nat} (h : BRow w base v xs) (hb : ∀ b ∈ xs, b < 256) : (convert 111 9 v).run Tryz.prog w = .ok (.string (textOf xs)) w := by
  rcases h.2 with ⟨rfl, hn⟩ | ⟨g, cap, cur, rfl, hg⟩
  · have : xs = [] := List.length_eq_zero_iff.1 hn
    subst this
    exact run_convert_bytes_nil w 111 5 Tryz.underlying111 Tryz.underlying5 0 0 9 Tryz.underlying9
  · have := run_convert_bytes_back (P := Tryz.prog) w 111 9 5 ⟨g, 0, none⟩ cap (xs.map UInt8.ofNat) Tryz.underlying111 Tryz.underlying5 Tryz.underlying9 (fun j hj => by
      rw [List.length_map] at hj
      have hc := World.ownsRow.cells h (g := g) rfl j (u8v xs[j]) (by rw [List.getElem?_map, List.getElem?_eq_getElem hj]; rfl)
      rw [hc]
      simp only [List.getElem_map, u8v]
      rw [u8n (hb _ (List.getElem_mem hj))])
    rw [List.length_map] at this
    exact this
theorem linesF_lt (s : ByteArray) (e k : Nat) : ∀ i, ∀ b ∈ linesF s e k i, b < 256 := by
  induction k with
  | zero => intro i b hb; simp [linesF] at hb
  | succ k ih =>
    intro i b hb
    simp only [linesF] at hb
    split at hb
    · simp at hb
    · split at hb
      · rcases List.mem_cons.1 hb with rfl | h
        · exact bt_lt' _ _
        · exact ih _ _ h
      · split at hb
        · rcases List.mem_cons.1 hb with rfl | h
          · omega
          · exact ih _ _ h
        · exact ih _ _ hb
theorem byte_index (s : ByteArray) (j : Nat) : ∀ hj : j < s.size, (s[j]'hj).toNat = bt s j := by
  intro hj
  unfold bt
  rw [if_pos hj, Utf8W.get!_of_lt _ _ hj]
theorem linesF_end (s : ByteArray) (e k i : Nat) (h : e ≤ i) : linesF s e k i = [] := by
  cases k with
  | zero => rfl
  | succ k => simp only [linesF]; rw [if_pos h]
set_option maxRecDepth 100000 in
set_option maxHeartbeats 2000000 in
theorem lines_any (s : ByteArray) (w : World) (hs : s.size ≤ 1048576) :
    Calls Tryz.prog 40 #[.string s] w fun e w' => e = .returned (.string (textOf (linesF s s.size s.size 0))) ∧ Below w.heap.size w w' := by
  obtain ⟨i0, hi0, hz0, hz1, hz2⟩ := info_parts infoB
  obtain ⟨R, hR⟩ : ∃ R, linesF s s.size s.size 0 = R := ⟨_, rfl⟩
  have hR2 : ∀ b ∈ R, b < 256 := by rw [← hR]; exact linesF_lt _ _ _ _
  rw [hR]
  have HR := Lib.hid hR
  have HR2 := Lib.hid hR2
  clear hR hR2
  go_enter Tryz.func40, Tryz.ntmps40
  go_wp2
  go_loopw [3, 7] (fun v c wr => ∃ (k : Nat) (xs : List Nat), c = .int .i64 k ∧ k ≤ s.size ∧ xs.length ≤ k ∧ BRow wr w.heap.size v xs ∧ xs ++ linesF s s.size (s.size - k) k = R ∧ Below w.heap.size w wr) (fun _ c _ => s.size - (RowKit.intOf c).toNat)
  case atStart => exact ⟨0, [], rfl, by omega, by simp, World.ownsRow_nil _ _ _ _, HR.out, Below.refl _ _⟩
  case round =>
    obtain ⟨k, xs, rfl, hk, hxs, hrow, heq, hbl⟩ := hrel
    have RR := Lib.hid hrow
    have HE := Lib.hid heq
    have HB := Lib.hid hbl
    clear hrow heq hbl
    by_cases hlt : k < s.size
    · have hbi := byte_index s k hlt
      have hbi2 := byte_index s (k + 1)
      have hz : w.heap.size ≤ wr.heap.size := HB.out.size
      obtain ⟨f, hf⟩ : ∃ f, s.size - k = f + 1 := ⟨s.size - k - 1, by omega⟩
      have hE := HE.out
      rw [hf, linesF, if_neg (by omega)] at hE
      by_cases h13 : bt s k = 13
      · have g13 : (((s[k]'hlt).toNat : Int) != 13) = false := by rw [hbi, h13]; rfl
        rw [if_neg (by omega)] at hE
        by_cases h10 : k + 1 = s.size ∨ bt s (k + 1) ≠ 10
        · rw [if_pos h10] at hE
          have HE2 := Lib.hid hE
          have g10 : (((k : Int) + 1 == (s.size : Int)) = true) ∨ (((k : Int) + 1 == (s.size : Int)) = false ∧ ∃ hk1 : k + 1 < s.size, (((s[k + 1]'hk1).toNat : Int) != 10) = true) := by
            by_cases he : k + 1 = s.size
            · exact .inl (by simpa using (by omega : (k : Int) + 1 = (s.size : Int)))
            · have hk1 : k + 1 < s.size := by omega
              refine .inr ⟨by simpa using (by omega : ¬ (k : Int) + 1 = (s.size : Int)), hk1, ?_⟩
              rw [hbi2 hk1]
              have : bt s (k + 1) ≠ 10 := h10.resolve_left he
              simpa using (by omega : ¬ (bt s (k + 1) : Int) = 10)
          clear hbi hbi2 hE h10
          rcases g10 with g10 | ⟨g10, hk1, g11⟩
          · go_wp2_with (at_builtin; refine wpList_append_own _ rfl _ _ 111 rfl w.heap.size 5 i0 (.int .u8 0) 1 1 Tryz.underlying111 hi0 hz0 hz1 hz2 rfl (by decide) _ _ _ rfl (World.ownsRow.alloc RR.out _) ⟨wr.heap.size, 0, none⟩ 1 1 [.int .u8 10] rfl rfl ?_ ?_ ?_ ?_ ?_ ?_; exact cell_one_new _ _ _; (intro u hu; simp at hu; subst hu; rfl); (unfold maxLen; omega); omega; (simp; omega); intro v' w2 hown hgrow _)
            case roundEnd =>
              refine ⟨⟨k + 1, xs ++ [10], by go_num, by omega, by simp; omega, BRow.of hown (by simp) ?_, ?_, ((HB.out).alloc hz _).grown hgrow (by simp; omega) RR.out.lt⟩, by simp [RowKit.intOf]; omega⟩
              · rw [List.map_append]; rfl
              · rw [List.append_assoc, show s.size - (k + 1) = f by omega]; exact HE2.out
          · go_wp2_with (at_builtin; refine wpList_append_own _ rfl _ _ 111 rfl w.heap.size 5 i0 (.int .u8 0) 1 1 Tryz.underlying111 hi0 hz0 hz1 hz2 rfl (by decide) _ _ _ rfl (World.ownsRow.alloc RR.out _) ⟨wr.heap.size, 0, none⟩ 1 1 [.int .u8 10] rfl rfl ?_ ?_ ?_ ?_ ?_ ?_; exact cell_one_new _ _ _; (intro u hu; simp at hu; subst hu; rfl); (unfold maxLen; omega); omega; (simp; omega); intro v' w2 hown hgrow _)
            case roundEnd =>
              refine ⟨⟨k + 1, xs ++ [10], by go_num, by omega, by simp; omega, BRow.of hown (by simp) ?_, ?_, ((HB.out).alloc hz _).grown hgrow (by simp; omega) RR.out.lt⟩, by simp [RowKit.intOf]; omega⟩
              · rw [List.map_append]; rfl
              · rw [List.append_assoc, show s.size - (k + 1) = f by omega]; exact HE2.out
        · have hk1 : k + 1 < s.size := by omega
          have hb10 : bt s (k + 1) = 10 := by omega
          have g10 : ((k : Int) + 1 == (s.size : Int)) = false := by simpa using (by omega : ¬ (k : Int) + 1 = (s.size : Int))
          have g11 : (((s[k + 1]'hk1).toNat : Int) != 10) = false := by rw [hbi2 hk1, hb10]; rfl
          rw [if_neg h10] at hE
          have HE2 := Lib.hid hE
          clear hbi hbi2 hE h10
          go_wp2
          case roundEnd =>
            refine ⟨⟨k + 1, xs, by go_num, by omega, by omega, RR.out, ?_, HB.out⟩, by simp [RowKit.intOf]; omega⟩
            rw [show s.size - (k + 1) = f by omega]; exact HE2.out
      · have g13 : (((s[k]'hlt).toNat : Int) != 13) = true := by rw [hbi]; simpa using (by omega : ¬ (bt s k : Int) = 13)
        rw [if_pos h13] at hE
        have HE2 := Lib.hid hE
        have hb2 : ((s[k]'hlt).toNat : Int) = (bt s k : Int) := by rw [hbi]
        have HB2 := Lib.hid hb2
        clear hbi hbi2 hE hb2
        go_wp2_with (at_builtin; refine wpList_append_own _ rfl _ _ 111 rfl w.heap.size 5 i0 (.int .u8 0) 1 1 Tryz.underlying111 hi0 hz0 hz1 hz2 rfl (by decide) _ _ _ rfl (World.ownsRow.alloc RR.out _) ⟨wr.heap.size, 0, none⟩ 1 1 [.int .u8 ((s[k]'hlt).toNat : Int)] rfl rfl ?_ ?_ ?_ ?_ ?_ ?_; exact cell_one_new _ _ _; (intro u hu; simp at hu; subst hu; rfl); (unfold maxLen; omega); omega; (simp; omega); intro v' w2 hown hgrow _)
        case roundEnd =>
          refine ⟨⟨k + 1, xs ++ [bt s k], by go_num, by omega, by simp; omega, BRow.of hown (by simp) ?_, ?_, ((HB.out).alloc hz _).grown hgrow (by simp; omega) RR.out.lt⟩, by simp [RowKit.intOf]; omega⟩
          · rw [List.map_append]; simp only [List.map_cons, List.map_nil, u8v]; rw [HB2.out]
          · rw [List.append_assoc, show s.size - (k + 1) = f by omega]; exact HE2.out
    · obtain rfl : k = s.size := by omega
      have hE := HE.out
      rw [linesF_end _ _ _ _ (Nat.le_refl _), List.append_nil] at hE
      subst hE
      have hcv := RR.out.conv HR2.out
      go_wp2
      go_ret
      exact ⟨rfl, HB.out⟩
end Go.Proofs.YthknielnhmoobaaGreatDoor
