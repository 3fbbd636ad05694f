/- Runes and bytes, for the decoder of escapes. -/
import Derived.Test.YthknielnhmoobaaGreatDoorTb
import Derived.Test.YthknielnhmoobaaGreatDoorTa
import Derived.Test.YthknielnhmoobaaGreatDoorTf
import Derived.Test.YthknielnhmoobaaGreatDoorTi
namespace Go.Proofs.YthknielnhmoobaaGreatDoor
open Go.RowKit Go.Lib
section
variable {s : ByteArray} {i c n p j : Nat}
theorem bt_lt_size {b : Nat} (h : bt s i = b + 1) : i < s.size := by
  rcases Nat.lt_or_ge i s.size with h' | h'
  · exact h'
  · have : bt s i = 0 := by unfold bt; rw [if_neg (by omega)]
    omega
theorem rune_byte (hrn : rn s i = (c, n)) (h : c < 128) : bt s i = c ∧ i + n = i + 1 := by
  have := rn_ascii (s := s) (i := i) (by rw [hrn]; exact h)
  rw [hrn] at this
  have h3 : n = 1 := this.2.1
  exact ⟨this.1, by omega⟩
theorem nul_next (hrn : rn s i = (c, n)) (hb : ¬ (48 ≤ bt s i ∧ bt s i ≤ 57)) : c < 48 ∨ 57 < c := by
  by_cases h : c < 128
  · have := (rune_byte hrn h).1; omega
  · omega
theorem byte_rune (hrn : rn s i = (c, n)) (h : bt s i = 123) : c = 123 := by
  have := rn_of_byte (s := s) (i := i) (bt_lt_size (b := 122) h) (by omega)
  rw [hrn] at this
  have h2 := congrArg Prod.fst this
  simp only at h2
  omega
theorem digits2_le (h : digitsF s 2 i 0 = some (p, j)) : p ≤ 1114111 := by
  have := (digitsF_le s 2 _ _ _ _ h).2.1
  omega
theorem pointF_max (h : pointF s i = some (p, j)) : p ≤ 1114111 := by
  unfold pointF at h
  split at h
  · exact (braceF_le s _ _ _ _ _ _ (by omega) h).2.1
  · have := (digitsF_le s 4 _ _ _ _ h).2.1
    omega
theorem two_bytes {k : Nat} (h : k + 1 < s.size) (h1 : bt s k = 92) (h2 : bt s (k + 1) = 48) : s.extract k (k + 2) = ⟨#[92, 48]⟩ := by
  have b1 : s.get! k = 92 := by
    unfold bt at h1; rw [if_pos (by omega)] at h1
    exact UInt8.toNat_inj.1 h1
  have b2 : s.get! (k + 1) = 48 := by
    unfold bt at h2; rw [if_pos (by omega)] at h2
    exact UInt8.toNat_inj.1 h2
  rw [Utf8W.get!_of_lt _ _ (by omega)] at b1
  rw [Utf8W.get!_of_lt _ _ h] at b2
  apply ByteArray.ext
  apply Array.ext
  · have hz : (s.extract k (k + 2)).size = 2 := by rw [ByteArray.size_extract]; omega
    exact hz
  · intro j hj1 hj2
    simp at hj2
    have : j = 0 ∨ j = 1 := by omega
    rcases this with rfl | rfl
    · have b1' : s.data[k]'(by have := h; simp only [ByteArray.size] at this; omega) = 92 := b1
      simpa using b1'
    · have b2' : s.data[k + 1]'(by have := h; simp only [ByteArray.size] at this; omega) = 48 := b2
      simpa using b2'
end
end Go.Proofs.YthknielnhmoobaaGreatDoor
