/- The reference's Hex. -/
import Derived.Test.YtolgapijpejpoaaDoorFb
namespace Go.Proofs.YtolgapijpejpoaaDoor
open Go.RowKit Go.Lib

def HexPost (n m : Nat) (w : World) (e : Ending) (w' : World) : Prop := ∃ t, e = .returned (.string t) ∧ HexT t n ∧ 1 ≤ t.size ∧ t.size ≤ m ∧ Below w.heap.size w w'
set_option maxHeartbeats 400000 in
theorem ifmtInt_any (n m : Nat) (hm : 1 ≤ m) (hm8 : m ≤ 8) (hn : n < 16 ^ m) (hn2 : n < 4294967296) (w : World) (hc : w.cell? ⟨6, 15, none⟩ = some (.int .u8 4)) :
    Calls Tryd.prog 65 #[.int .i64 (n : Int), .int .i64 16] w (HexPost n m w) := by
  have HN := Lib.hid hn
  clear hn
  have g0 : (0 : Int) ≤ (n : Int) := by omega
  have w1 : IntKind.u64.wrap (n : Int) = (n : Int) := IntWalk.u64_in _ (by omega)
  go_enter Tryd.func65, Tryd.ntmps65
  go_wp2_with (go_at_call 78; refine (fmtBits_any n m hm hm8 HN.out _ hc).mono ?_; rintro e w1 ⟨t, rfl, h1, h2, h3, h4⟩)
  go_ret
  exact ⟨t, rfl, h1, h2, h3, h4⟩
set_option maxHeartbeats 400000 in
theorem fmtInt_any (n m : Nat) (hm : 1 ≤ m) (hm8 : m ≤ 8) (hn : n < 16 ^ m) (hn2 : n < 4294967296) (w : World) (hc : w.cell? ⟨6, 15, none⟩ = some (.int .u8 4)) :
    Calls Tryd.prog 53 #[.int .i64 (n : Int), .int .i64 16] w (HexPost n m w) := by
  have HN := Lib.hid hn
  clear hn
  go_enter Tryd.func53, Tryd.ntmps53
  go_wp2_with (go_at_call 65; refine (ifmtInt_any n m hm hm8 HN.out hn2 _ hc).mono ?_; rintro e w1 ⟨t, rfl, h1, h2, h3, h4⟩)
  go_ret
  exact ⟨t, rfl, h1, h2, h3, h4⟩
def strLen : Value → Nat
  | .string t => t.size
  | _ => 0
theorem bytesL_zero (t : ByteArray) : bytesL (⟨#[48]⟩ ++ t) = 48 :: bytesL t := by rw [bytesL_append]; rfl
theorem HexT.zero {t : ByteArray} {n : Nat} (h : HexT t n) : HexT (⟨#[48]⟩ ++ t) n := by
  unfold HexT at *
  rw [bytesL_zero, hexL_zero]
  exact h
theorem textOf_snoc (l : List Nat) (b : Nat) (hb : b < 128) : textOf l ++ Utf8.encode (b : Int) = textOf (l ++ [b]) := by
  rw [encode_1 hb]
  apply ByteArray.ext
  rw [ByteArray.data_append]
  simp [textOf]
theorem up_lt {b : Nat} (h : b < 128) : upB b < 128 := by unfold upB; split <;> omega
set_option maxRecDepth 100000 in
set_option maxHeartbeats 2000000 in
theorem hexw_any (n m d : Nat) (great : Bool) (hm : 1 ≤ m) (hm8 : m ≤ 8) (hn : n < 16 ^ m) (hn2 : n < 4294967296) (hd : d ≤ m) (w : World) (hc : w.cell? ⟨6, 15, none⟩ = some (.int .u8 4)) :
    Calls Tryd.prog 48 #[.int .i64 (n : Int), .int .i64 (d : Int), .bool great] w fun e w' => ∃ t, e = .returned (.string t) ∧ HexT t n ∧ 1 ≤ t.size ∧ d ≤ t.size ∧ t.size ≤ m ∧ Below w.heap.size w w' := by
  have HN := Lib.hid hn
  clear hn
  go_enter Tryd.func48, Tryd.ntmps48
  go_wp2_with (go_at_call 53; refine (fmtInt_any n m hm hm8 HN.out hn2 _ hc).mono ?_; rintro e w1 ⟨t0, rfl, h1, h2, h3, h4⟩)
  have H1 := Lib.hid h1
  have H4 := Lib.hid h4
  clear h1 h4
  go_loopw [7] (fun v wr => ∃ t : ByteArray, v = .string t ∧ HexT t n ∧ 1 ≤ t.size ∧ t.size ≤ m ∧ wr = w1) (fun v _ => m - strLen v)
  case atStart => exact ⟨t0, rfl, H1.out, h2, h3, rfl⟩
  case round =>
    obtain ⟨t, rfl, ht, ht1, htm, rfl⟩ := hrel
    have HT := Lib.hid ht
    clear ht
    by_cases hlt : t.size < d
    · have g : (t.size : Int) < (d : Int) := by omega
      go_wp2
      go_roundw
      case rel => exact ⟨⟨#[48]⟩ ++ t, rfl, HT.out.zero, by rw [ByteArray.size_append, size1]; omega, by rw [ByteArray.size_append, size1]; omega, trivial⟩
      case measure => simp only [strLen]; rw [ByteArray.size_append, size1]; omega
    · have g : (d : Int) ≤ (t.size : Int) := by omega
      cases great with
      | false =>
        go_wp2
        go_ret
        exact ⟨t, rfl, HT.out, ht1, by omega, htm, H4.out⟩
      | true =>
        go_wp2
        have hall : ∀ b ∈ bytesL t, b < 128 := hexL_lt _ _ _ HT.out
        have hgt : ∀ i (h : i < t.size), bt t i < 128 := fun i h => by rw [← bytesL_get t i h]; exact hall _ (List.getElem_mem _)
        go_loopw [24, 8] (fun c v w2 => ∃ i, i ≤ t.size ∧ c = .int .i64 i ∧ v = .string (textOf (((bytesL t).take i).map upB)) ∧ w2 = wr) (fun c _ _ => t.size - (RowKit.intOf c).toNat)
        case atStart => exact ⟨0, by omega, rfl, rfl, rfl⟩
        case round =>
          obtain ⟨i, hi, rfl, rfl, rfl⟩ := hrel
          by_cases hit : i < t.size
          · have gi : (i : Int) < (t.size : Int) := by omega
            obtain ⟨b, hb⟩ : ∃ b, bt t i = b := ⟨_, rfl⟩
            have hb128 : b < 128 := by rw [← hb]; exact hgt i hit
            have hix : ∀ h : i < t.size, (((t[i]'h).toNat : Nat) : Int) = (b : Int) := fun h => by rw [← hb]; unfold bt; rw [if_pos h, Utf8W.get!_of_lt _ _ h]
            have htake : ((bytesL t).take (i + 1)).map upB = ((bytesL t).take i).map upB ++ [upB b] := by
              rw [List.take_add_one, List.getElem?_eq_getElem (by rw [bytesL_length]; exact hit), bytesL_get t i hit, hb]
              simp
            by_cases h97 : 97 ≤ b
            · obtain ⟨c, rfl⟩ : ∃ c, b = c + 32 := ⟨b - 32, by omega⟩
              have g97 : (97 : Int) ≤ (c : Int) + 32 := by omega
              have hup : upB (c + 32) = c := by unfold upB; rw [if_pos h97]; omega
              rw [hup] at htake
              have ws : IntKind.u8.wrap (c : Int) = (c : Int) := IntWalk.u8_in _ (by omega)
              have hsn := textOf_snoc (((bytesL t).take i).map upB) c (by omega)
              have hsz : (textOf (((bytesL t).take i).map upB)).size + (Utf8.encode (c : Int)).size ≤ 9223372036854775807 := by
                have h1 := encode_le (c : Int)
                rw [textOf_size, List.length_map, List.length_take]
                omega
              rw [← htake] at hsn
              have HS := Lib.hid hsn
              obtain ⟨T, hT⟩ : ∃ T, textOf (((bytesL t).take i).map upB) = T := ⟨_, rfl⟩
              rw [hT] at HS hsz ⊢
              clear hsn htake hall hgt hb hT hup
              go_wp2
              go_roundw
              case rel => exact ⟨i + 1, by omega, by go_num, by rw [← HS.out], trivial⟩
              case measure => simp [RowKit.intOf]; omega
            · have g97 : ¬ (97 : Int) ≤ (b : Int) := by omega
              have gd : decide ((97 : Int) ≤ (b : Int)) = false := decide_eq_false g97
              have hup : upB b = b := by unfold upB; rw [if_neg h97]
              rw [hup] at htake
              have hsn := textOf_snoc (((bytesL t).take i).map upB) b (by omega)
              have hsz : (textOf (((bytesL t).take i).map upB)).size + (Utf8.encode (b : Int)).size ≤ 9223372036854775807 := by
                have h1 := encode_le (b : Int)
                rw [textOf_size, List.length_map, List.length_take]
                omega
              rw [← htake] at hsn
              have HS := Lib.hid hsn
              obtain ⟨T, hT⟩ : ∃ T, textOf (((bytesL t).take i).map upB) = T := ⟨_, rfl⟩
              rw [hT] at HS hsz ⊢
              clear hsn htake hall hgt hb hT hup
              go_wp2
              go_roundw
              case rel => exact ⟨i + 1, by omega, by go_num, by rw [← HS.out], trivial⟩
              case measure => simp [RowKit.intOf]; omega
          · obtain rfl : i = t.size := by omega
            have htk : (bytesL t).take t.size = bytesL t := List.take_of_length_le (by rw [bytesL_length]; omega)
            rw [htk]
            have hup := hexL_up _ _ _ HT.out
            have HU := Lib.hid hup
            clear htk hup hgt
            go_wp2
            go_ret
            refine ⟨_, rfl, ?_, ?_, ?_, ?_, H4.out⟩
            · unfold HexT
              rw [bytesL_textOf _ (fun b hb => by obtain ⟨b', hb', rfl⟩ := List.mem_map.1 hb; have := up_lt (hall b' hb'); omega)]
              exact HU.out
            · rw [textOf_size, List.length_map, bytesL_length]; exact ht1
            · rw [textOf_size, List.length_map, bytesL_length]; omega
            · rw [textOf_size, List.length_map, bytesL_length]; exact htm
end Go.Proofs.YtolgapijpejpoaaDoor
