/- Go's cooked and raw contents of a template: one line feed for each end of a line. The walk of CookedAndRawTemplateContents. -/
import Derived.Test.YthknielnhmoobaaGreatDoorTq
import Derived.Test.YthknielnhmoobaaGreatDoorHc
import Derived.Test.YthknielnhmoobaaGreatDoorZl
import Derived.Test.YthknielnhmoobaaGreatDoorShelfV
namespace Go.Proofs.YthknielnhmoobaaGreatDoor
open Go.RowKit Go.Lib

theorem idx_any (s : ByteArray) (c : Int) (w : World) : Calls Tryz.prog 31 #[.string s, .int .u8 c] w fun e w' => e = .returned (.int .i64 (Lib.indexByte s.data.toList c.toNat.toUInt8)) ∧ w' = w :=
  Any.strings_IndexByte Tryz.lays137 s c w
theorem indexByte_none (l : List UInt8) (c : UInt8) (h : Lib.indexByte l c = -1) : ∀ b ∈ l, b ≠ c := by
  induction l with
  | nil => intro b hb; cases hb
  | cons x l ih =>
    intro b hb
    unfold Lib.indexByte at h
    have hg := Lib.indexByte_ge l c
    split at h
    · cases h
    · rename_i hx
      split at h
      · rename_i hy
        rcases List.mem_cons.1 hb with rfl | hb
        · simpa using hx
        · exact ih (by simpa using hy) b hb
      · rename_i hy
        have : Lib.indexByte l c ≠ -1 := by simpa using hy
        omega
/-- The bytes of a text. -/
theorem linesF_plain (s : ByteArray) (k : Nat) : ∀ i, s.size = i + k → (∀ j, j < s.size → bt s j ≠ 13) → linesF s s.size k i = (s.data.toList.drop i).map UInt8.toNat := by
  induction k with
  | zero =>
    intro i h _
    have : s.data.toList.length = s.size := Array.length_toList
    rw [List.drop_of_length_le (by omega)]
    rfl
  | succ k ih =>
    intro i h hne
    have hl : s.data.toList.length = s.size := Array.length_toList
    have hi : i < s.size := by omega
    rw [linesF, if_neg (by omega), if_pos (hne i hi), ih (i + 1) (by omega) hne, List.drop_eq_getElem_cons (i := i) (by omega)]
    simp only [List.map_cons]
    congr 1
    rw [← byte_index s i hi]
    rfl
theorem textOf_same (s : ByteArray) (h : ∀ j, j < s.size → bt s j ≠ 13) : textOf (linesF s s.size s.size 0) = s := by
  rw [linesF_plain s s.size 0 (by omega) h]
  unfold textOf
  rw [List.drop_zero, List.map_map]
  have e : (UInt8.ofNat ∘ UInt8.toNat) = id := by funext b; simp
  rw [e, List.map_id]
theorem noCR (s : ByteArray) (h : Lib.indexByte s.data.toList 13 = -1) : ∀ j, j < s.size → bt s j ≠ 13 := by
  intro j hj e
  have hm : s[j] ∈ s.data.toList := by
    have : s[j] = s.data[j] := rfl
    rw [this]
    exact Array.mem_toList_iff.2 (Array.getElem_mem hj)
  have := indexByte_none _ _ h _ hm
  rw [← byte_index s j hj] at e
  apply this
  have := congrArg UInt8.ofNat e
  simpa using this
end Go.Proofs.YthknielnhmoobaaGreatDoor
namespace Go.Proofs.YthknielnhmoobaaGreatDoor
open Go.RowKit Go.Lib

theorem wp_named {P : Program} {c : Code} {Q : Exit → Act → World → Prop} {a : Act} {w : World} (h : ∀ W, W = w → c.wp P Q a W) : c.wp P Q a w := h w rfl
/-- The raw text of a template: one line feed for each end of a line. -/
def rawOf (s : ByteArray) : ByteArray := textOf (linesF s s.size s.size 0)
/-- Go's lexer stands at a template without substitutions. -/
structure AtTpl (w : World) (X : Nat) (s : ByteArray) (n : Nat) : Prop where
  tok : w.cell? ⟨X, 69, none⟩ = some (.int .u8 3)
  text : w.cell? ⟨X, 14, none⟩ = some (.string s)
  start : w.cell? ⟨X, 53, none⟩ = some (.int .i64 0)
  stop : w.cell? ⟨X, 54, none⟩ = some (.int .i64 ((n : Int) + 2))
  json : w.cell? ⟨X, 68, none⟩ = some (.int .u8 2)
  lt : X < w.heap.size
theorem AtTpl.of_block {w w' : World} {X n : Nat} {s : ByteArray} (h : AtTpl w X s n) (e : w'.heap[X]? = w.heap[X]?) (hz : w.heap.size ≤ w'.heap.size) : AtTpl w' X s n :=
  ⟨(World.cell?_of_block e).trans h.tok, (World.cell?_of_block e).trans h.text, (World.cell?_of_block e).trans h.start, (World.cell?_of_block e).trans h.stop, (World.cell?_of_block e).trans h.json, Nat.lt_of_lt_of_le h.lt hz⟩
/-- The bytes of a raw text under way, in block G. -/
structure Raw (W w : World) (G N : Nat) (inner : ByteArray) (R : List Nat) (en i : Nat) : Prop where
  row : ∃ cur : Array Value, w.heap[G]? = some (.cells cur 5 (N, N + 1)) ∧ cur.size = N ∧ (∀ k, i ≤ k → k < inner.size → cur[k]? = some (.int .u8 (bt inner k : Int))) ∧
    ∃ xs : List Nat, xs.length = en ∧ (∀ k (hk : k < xs.length), cur[k]? = some (.int .u8 (xs[k] : Int))) ∧ xs ++ linesF inner inner.size (inner.size - i) i = R
  below : Below G W w
  n : inner.size ≤ N
theorem Raw.cell {W w : World} {G N : Nat} {inner : ByteArray} {R : List Nat} {en i : Nat} (h : Raw W w G N inner R en i) (k : Nat) (h1 : i ≤ k) (h2 : k < inner.size) : w.cell? ⟨G, k, none⟩ = some (.int .u8 (bt inner k : Int)) := by
  obtain ⟨cur, a, b, c, _⟩ := h.row
  rw [cell_of_row w G k cur 5 (N, N + 1) a]
  exact c k h1 h2
theorem Raw.put {W w : World} {G N : Nat} {inner : ByteArray} {R : List Nat} {en i i' x : Nat} (h : Raw W w G N inner R en i) (hen : en ≤ i) (hi : i < i') (hi2 : i' ≤ inner.size) (hx : linesF inner inner.size (inner.size - i) i = x :: linesF inner inner.size (inner.size - i') i') :
    Raw W (w.setCell ⟨G, en, none⟩ (.int .u8 (x : Int))) G N inner R (en + 1) i' := by
  obtain ⟨cur, a, b, c, xs, d, e, f⟩ := h.row
  have hn := h.n
  refine ⟨⟨cur.setIfInBounds en (.int .u8 (x : Int)), set_cells a en _, by rw [Array.size_setIfInBounds]; exact b, fun k h1 h2 => ?_, xs ++ [x], by simp [d], fun k hk => ?_, ?_⟩, h.below.setCell (Nat.le_refl _) _, h.n⟩
  · rw [Array.getElem?_setIfInBounds_ne (by omega)]; exact c k (by omega) h2
  · by_cases hk2 : k < xs.length
    · rw [Array.getElem?_setIfInBounds_ne (by omega), e k hk2, List.getElem_append_left hk2]
    · have : k = en := by simp at hk; omega
      subst this
      rw [Array.getElem?_setIfInBounds_self_of_lt (by omega)]
      simp [d]
  · rw [List.append_assoc, List.singleton_append, ← hx]; exact f
theorem Raw.conv {W w : World} {G N : Nat} {inner : ByteArray} {R : List Nat} {en : Nat} (h : Raw W w G N inner R en inner.size) (hR : ∀ b ∈ R, b < 256) (cap : Nat) : (convert 111 9 (.slice (some ⟨G, 0, none⟩) en cap)).run Tryz.prog w = .ok (.string (textOf R)) w := by
  obtain ⟨cur, a, b, c, xs, d, e, f⟩ := h.row
  rw [linesF_end _ _ _ _ (Nat.le_refl _), List.append_nil] at f
  subst f
  subst d
  have := run_convert_bytes_back (P := Tryz.prog) w 111 9 5 ⟨G, 0, none⟩ cap (xs.map UInt8.ofNat) Tryz.underlying111 Tryz.underlying5 Tryz.underlying9 (fun j hj => by
    rw [List.length_map] at hj
    have hadd : (⟨G, 0, none⟩ : Addr).add j = ⟨G, j, none⟩ := by unfold Addr.add; split <;> simp_all
    rw [hadd, cell_of_row w G j cur 5 (N, N + 1) a, e j hj]
    simp only [List.getElem_map]
    rw [u8n (hR _ (List.getElem_mem hj))])
  rw [List.length_map] at this
  exact this
theorem line_byte {s : ByteArray} {i q : Nat} (h : i < s.size) (hq : bt s i = q) (h13 : q ≠ 13) : linesF s s.size (s.size - i) i = q :: linesF s s.size (s.size - (i + 1)) (i + 1) := by
  obtain ⟨f, hf⟩ : ∃ f, s.size - i = f + 1 := ⟨s.size - i - 1, by omega⟩
  rw [hf, show s.size - (i + 1) = f by omega, linesF, if_neg (by omega), if_pos (by omega), hq]
theorem line_cr {s : ByteArray} {i : Nat} (h : i < s.size) (hq : bt s i = 13) (h10 : i + 1 = s.size ∨ bt s (i + 1) ≠ 10) : linesF s s.size (s.size - i) i = 10 :: linesF s s.size (s.size - (i + 1)) (i + 1) := by
  obtain ⟨f, hf⟩ : ∃ f, s.size - i = f + 1 := ⟨s.size - i - 1, by omega⟩
  rw [hf, show s.size - (i + 1) = f by omega, linesF, if_neg (by omega), if_neg (by omega), if_pos h10]
theorem line_crlf {s : ByteArray} {i : Nat} (h : i + 1 < s.size) (hq : bt s i = 13) (h10 : bt s (i + 1) = 10) : linesF s s.size (s.size - i) i = 10 :: linesF s s.size (s.size - (i + 2)) (i + 2) := by
  obtain ⟨f, hf⟩ : ∃ f, s.size - i = f + 1 := ⟨s.size - i - 1, by omega⟩
  rw [hf, linesF, if_neg (by omega), if_neg (by omega), if_neg (by omega), ← line_byte h h10 (by omega), show s.size - (i + 1) = f by omega]
set_option maxRecDepth 100000 in
set_option maxHeartbeats 2000000 in
theorem cooked_any (X B : Nat) (inner s : ByteArray) (w : World) (r : List Nat) (h : AtTpl w X s inner.size) (hT : Tabs B w) (hB : B ≤ w.heap.size) (hs : inner.size ≤ 1048576) (he : s.extract 1 (inner.size + 1) = inner) (hsz : s.size = inner.size + 2)
    (ht : tteF (rawOf inner) ((rawOf inner).size + 1) 0 [] = .right r) (hr : (rawOf inner).size ≤ 1048576) :
    Calls Tryz.prog 14 #[.pointer (some ⟨X, 0, none⟩)] w fun e w' => ∃ v, e = .returned (.tuple #[v, .string (rawOf inner)]) ∧ v ≠ .slice none 0 0 ∧ Row w' w.heap.size v r ∧ Below w.heap.size w w' := by
  have hXw := h.lt
  have H := Lib.hid h
  have HT := Lib.hid hT
  have HR := Lib.hid ht
  have c69 := h.tok
  have c14 := h.text
  have c53 := h.start
  have c54 := h.stop
  have e1 : IntKind.i64.wrap ((inner.size : Int) + 2 - 1) = (inner.size : Int) + 1 := by rw [IntWalk.i64_in _ (by omega)]; omega
  have e2 : (inner.size : Int) + 1 ≤ (s.size : Int) := by omega
  have e3 : (1 : Int) ≤ (inner.size : Int) + 1 := by omega
  have e4 : ((inner.size : Int) + 1).toNat = inner.size + 1 := by omega
  have e5 : (inner.size : Int) + 2 - 1 = (inner.size : Int) + 1 := by omega
  clear h hT ht
  go_enter Tryz.func14, Tryz.ntmps14
  go_wp2_with (go_quiet (fail))
  refine (idx_any inner 13 _).mono ?_
  rintro e w1 ⟨rfl, rfl⟩
  rw [show (13 : Int).toNat.toUInt8 = 13 from rfl]
  obtain ⟨Z, hZ⟩ : ∃ Z, Lib.indexByte inner.data.toList 13 = Z := ⟨_, rfl⟩
  rw [hZ]
  by_cases hm : Z = -1
  · subst hm
    have hraw : rawOf inner = inner := textOf_same _ (noCR _ hZ)
    rw [hraw] at HR
    go_wp2_with fail
    refine (tte_right (X := X) (st := 1) (rep := false) (B := B) (by exact ⟨HT.out.below ((Below.refl B w).drewN' _) (Nat.le_refl _), hB, by omega, by omega, H.out.json, H.out.lt⟩) HR.out).mono ?_
    rintro e w3 ⟨v, rfl, hn, hrow, hb⟩
    go_wp2
    go_ret2
    exact ⟨v, by rw [hraw]; rfl, hn, hrow, hb.undrawn⟩
  · have g : (Z != -1) = true := by simpa using hm
    have hcv := fun V => run_bytes_of_string (P := Tryz.prog) V 9 111 5 inner Tryz.underlying9 Tryz.underlying111 Tryz.underlying5
    have hgc := grownCap_ge (w.drewN nq) inner.size 0 5
    go_wp2_with fail
    obtain ⟨cap, hcap⟩ : ∃ cap, grownCap (w.drewN nq) inner.size 0 5 = cap := ⟨_, rfl⟩
    rw [hcap] at hgc
    rw [hcap]
    refine wp_named fun W5 hW5 => ?_
    obtain ⟨R, hR⟩ : ∃ R, linesF inner inner.size inner.size 0 = R := ⟨_, rfl⟩
    have hRb : ∀ b ∈ R, b < 256 := by rw [← hR]; exact linesF_lt _ _ _ _
    have hN : (bytesRow inner cap).size = cap := by
      unfold bytesRow
      rw [Array.size_append, Array.size_map, Array.size_replicate]
      have : inner.data.size = inner.size := rfl
      omega
    have hX5 : AtTpl W5 X s inner.size := by
      refine H.out.of_block ?_ (by rw [hW5]; simp)
      rw [hW5, Below.heap_alloc _ _ _ (show X < (w.drewN (nq + 1)).heap.size from H.out.lt)]
      rfl
    have hb5 : Below w.heap.size w W5 := by rw [hW5]; exact ((Below.refl w.heap.size w).drewN' (nq + 1)).alloc (Nat.le_refl _) _
    have hraw0 : Raw w W5 w.heap.size cap inner R 0 0 := by
      refine ⟨⟨bytesRow inner cap, ?_, hN, fun k _ hk => ?_, [], rfl, fun k hk => by simp at hk, by rw [List.nil_append]; exact hR⟩, hb5, hgc⟩
      · rw [hW5, hN]; exact heap_alloc_new (w.drewN (nq + 1)) _
      · unfold bytesRow
        rw [Array.getElem?_append_left (by rw [Array.size_map]; exact hk), Array.getElem?_map]
        have hk2 : k < inner.data.size := hk
        rw [Array.getElem?_eq_getElem hk2]
        rw [← byte_index inner k hk]
        rfl
    have HW5 := Lib.hid hraw0
    have HX5 := Lib.hid hX5
    have HRb := Lib.hid hRb
    have HR0 := Lib.hid hR
    clear hW5 hX5 hraw0 hb5 hN hcv hRb hR c69 c14 c53 c54 hcap
    go_loopw [6, 7] (fun vE vI wr => ∃ en i : Nat, vE = .int .i64 en ∧ vI = .int .i64 i ∧ en ≤ i ∧ i ≤ inner.size ∧ Raw w wr w.heap.size cap inner R en i ∧ AtTpl wr X s inner.size) (fun _ v _ => inner.size - (RowKit.intOf v).toNat)
    case atStart => exact ⟨0, 0, rfl, rfl, Nat.le_refl _, Nat.zero_le _, HW5.out, HX5.out⟩
    case round =>
      obtain ⟨en, i, rfl, rfl, hei, hi, hw, hx⟩ := hrel
      have HW := Lib.hid hw
      have HX := Lib.hid hx
      clear hw hx HW5 HX5
      by_cases hlt : i < inner.size
      · have k0 := HW.out.cell i (Nat.le_refl _) hlt
        obtain ⟨cur, hcur, hcs, _⟩ := HW.out.row
        have kE : (wr.cell? ⟨w.heap.size, en, none⟩).isSome = true := by rw [cell_of_row wr w.heap.size en cur 5 (cap, cap + 1) hcur, Array.getElem?_eq_getElem (by omega)]; rfl
        have fE : wr.frozen? ⟨w.heap.size, en, none⟩ = false := by simp [World.frozen?, hcur]; omega
        obtain ⟨old, kE2⟩ := Option.isSome_iff_exists.1 kE
        clear hcur hcs kE
        have hb := bt_lt' inner i
        obtain ⟨q, hq⟩ : ∃ q, bt inner i = q := ⟨_, rfl⟩
        rw [hq] at k0 hb
        by_cases h13 : q = 13
        · subst h13
          by_cases hi1 : i + 1 < inner.size
          · have k1 := HW.out.cell (i + 1) (by omega) hi1
            obtain ⟨q1, hq1⟩ : ∃ q1, bt inner (i + 1) = q1 := ⟨_, rfl⟩
            rw [hq1] at k1
            by_cases h10 : q1 = 10
            · subst h10
              have g1 : (i : Int) + 1 < (inner.size : Int) := by omega
              go_wp2
              case roundEnd => exact ⟨⟨en + 1, i + 2, by go_num, by go_num, by omega, by omega, HW.out.put hei (by omega) (by omega) (line_crlf hi1 hq hq1), HX.out.of_block (Below.heap_setCell _ _ _ _ (by show X ≠ w.heap.size; omega)) (by simp [World.setCell])⟩, by simp [RowKit.intOf]; omega⟩
            · have g10 : ((q1 : Int) == 10) = false := by simpa using (by omega : ¬ (q1 : Int) = 10)
              have g1 : (i : Int) + 1 < (inner.size : Int) := by omega
              go_wp2
              case roundEnd => exact ⟨⟨en + 1, i + 1, by go_num, by go_num, by omega, by omega, HW.out.put hei (by omega) (by omega) (line_cr hlt hq (.inr (by rw [hq1]; exact h10))), HX.out.of_block (Below.heap_setCell _ _ _ _ (by show X ≠ w.heap.size; omega)) (by simp [World.setCell])⟩, by simp [RowKit.intOf]; omega⟩
          · have g1 : ¬ ((i : Int) + 1 < (inner.size : Int)) := by omega
            go_wp2
            case roundEnd => exact ⟨⟨en + 1, i + 1, by go_num, by go_num, by omega, by omega, HW.out.put hei (by omega) (by omega) (line_cr hlt hq (.inl (by omega))), HX.out.of_block (Below.heap_setCell _ _ _ _ (by show X ≠ w.heap.size; omega)) (by simp [World.setCell])⟩, by simp [RowKit.intOf]; omega⟩
        · have g13 : ((q : Int) == 13) = false := by simpa using (by omega : ¬ (q : Int) = 13)
          go_wp2
          case roundEnd => exact ⟨⟨en + 1, i + 1, by go_num, by go_num, by omega, by omega, HW.out.put hei (by omega) (by omega) (line_byte hlt hq h13), HX.out.of_block (Below.heap_setCell _ _ _ _ (by show X ≠ w.heap.size; omega)) (by simp [World.setCell])⟩, by simp [RowKit.intOf]; omega⟩
      · obtain rfl : i = inner.size := by omega
        have hcv := HW.out.conv HRb.out cap
        have g1 : (en : Int) ≤ (cap : Int) := by omega
        have g2 : en ≤ cap := by omega
        have g3 : (0 : Int) ≤ (en : Int) := by omega
        have c53 := HX.out.start
        have hRR : textOf R = rawOf inner := by unfold rawOf; rw [HR0.out]
        rw [hRR] at hcv
        obtain ⟨T, hTT⟩ : ∃ T, rawOf inner = T := ⟨_, rfl⟩
        rw [hTT] at hcv HR hr
        have hE : TEnv X 1 T wr B := ⟨HT.out.below HW.out.below hB, Nat.le_trans hB HW.out.below.size, Nat.le_trans hr (by decide), by decide, HX.out.json, HX.out.lt⟩
        have HE := Lib.hid (tte_right (rep := false) hE HR.out)
        have HTT := Lib.hid hTT
        clear hE hRR hTT
        go_wp2_with fail
        refine HE.out.mono ?_
        rintro e w3 ⟨v, rfl, hn, hrow, hb⟩
        go_wp2
        go_ret2
        exact ⟨v, by rw [HTT.out]; rfl, hn, hrow.mono HW.out.below.size, HW.out.below.trans (hb.mono HW.out.below.size)⟩
end Go.Proofs.YthknielnhmoobaaGreatDoor
