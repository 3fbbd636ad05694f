/- The tables of package utf8, out of what the row lists. -/
import Derived.Test.YthknielnhmoobaaGreatDoorBase
import Derived.Lib.LaidU8T
namespace Go.Proofs.YthknielnhmoobaaGreatDoor
open Go.RowKit Go.Lib

theorem cell0 {w : World} {a : Addr} {v : Value} (h : w.cell? a = some v) : a = ⟨a.block, a.off, none⟩ := by
  have hs : a.spot = none := by
    unfold World.cell? at h
    split at h
    · split at h
      · cases h
      · rename_i h2; simpa using h2
    · cases h
  cases a
  simp at hs
  subst hs
  rfl
theorem u8types : U8Types Tryz.prog Tryz.lays197_ren := ⟨Tryz.underlying5, Tryz.underlying93, Tryz.underlying95, Tryz.underlying96⟩
theorem u8extra : U8Extra Tryz.prog Tryz.lays197_ren := ⟨by kernel_rfl, by kernel_rfl, by kernel_rfl, by kernel_rfl, by kernel_rfl, by kernel_rfl, by kernel_rfl⟩
theorem tabs_of {w : World} (h3 : VarReads Tryz.prog w "unicode/utf8.first" firstData) (h4 : VarReads Tryz.prog w "unicode/utf8.acceptRanges" acceptData) : Tabs w.heap.size w := by
  have h := utf8Tabs_of_readsT u8types u8extra h3 h4
  exact ⟨h, World.block_lt_of_cell? w ⟨1, 2 * 0, none⟩ (h.2 0 (by omega)).1⟩
/-- The numbers of a table's datum. -/
def numsOf {H : Type} : DataW H → List Int
  | .agg es => es.map fun d => match d with | .lit (.int _ n) => n | _ => 0
  | _ => []
end Go.Proofs.YthknielnhmoobaaGreatDoor
