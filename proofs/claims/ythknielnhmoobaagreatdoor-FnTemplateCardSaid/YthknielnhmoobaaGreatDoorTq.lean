/- The contract of Go's decoder of escapes, where the text is right. -/
import Derived.Test.YthknielnhmoobaaGreatDoorTp
namespace Go.Proofs.YthknielnhmoobaaGreatDoor
open Go.RowKit Go.Lib
theorem tte_right {X st : Nat} {s : ByteArray} {rep : Bool} {w : World} {B : Nat} {r : List Nat} (e : TEnv X st s w B) (ht : tteF s (s.size + 1) 0 [] = .right r) :
    Calls Tryz.prog 32 #[.pointer (some ⟨X, 0, none⟩), .int .i64 st, .string s, .bool rep] w fun e w' => ∃ v', e = .returned (.tuple #[v', .bool true, .int .i64 0]) ∧ v' ≠ .slice none 0 0 ∧ Row w' w.heap.size v' r ∧ Below w.heap.size w w' := by
  refine calls_of_wp (c := B29) Tryz.func32 rfl ?_
  rw [show Tryz.f32.ntmps = 567 from rfl, mk_enter 567 _ (by simp)]
  refine tte_body e ht rfl rfl rfl rfl ?_
  intro g w' v' h8 h9 h10 hn hrow hb
  exact fr_ret3 v' (.bool true) (.int .i64 0) rfl h8 h9 h10 ⟨v', rfl, hn, hrow, hb⟩
end Go.Proofs.YthknielnhmoobaaGreatDoor
