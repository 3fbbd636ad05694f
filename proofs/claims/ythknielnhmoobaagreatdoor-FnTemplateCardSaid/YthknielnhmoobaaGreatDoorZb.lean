/- The walks of the reference's small functions of no lexer: what a safe text wants of them. -/
import Derived.Test.YthknielnhmoobaaGreatDoorProg
import Derived.WalkKit
import Derived.WalkSpells
import Derived.Lib.Hide
import Derived.Deep.QuietTactic
import Derived.BigQuiet
import Derived.BigGuardPart
import Derived.WalkSmall
import Derived.Laws.FloatArith
namespace Go.Proofs.YthknielnhmoobaaGreatDoor
open Go.RowKit Go.Lib

/-- An int comes back. -/
def In (e : Ending) : Prop := ∃ d : Int, e = .returned (.int .i64 d)
/-- A float and a Bool come back. -/
def FB (e : Ending) : Prop := ∃ x r, e = .returned (.tuple #[.float .f64 x, .bool r])
/-- A Bool comes back. -/
def Bo (e : Ending) : Prop := ∃ r, e = .returned (.bool r)
theorem toList_inj {a b : ByteArray} (h : a.toList = b.toList) : a = b := by
  rw [ByteArray.toList_eq, ByteArray.toList_eq] at h
  cases a with | mk a => cases b with | mk b => exact congrArg ByteArray.mk (Array.toList_inj.1 h)
set_option maxRecDepth 100000 in
set_option maxHeartbeats 1000000 in
theorem isBegin_any (b : Int) (w : World) : Calls Tryz.prog 21 #[.int .u8 b] w fun e w' => Bo e ∧ w = w' := by
  go_enter Tryz.func21, Tryz.ntmps21
  go_wp2
  all_goals (go_ret; exact ⟨⟨_, rfl⟩, rfl⟩)
set_option maxRecDepth 100000 in
set_option maxHeartbeats 1000000 in
theorem isBlank_any (c : Int) (w : World) : Calls Tryz.prog 18 #[.int .i32 c] w fun e w' => Bo e ∧ w = w' := by
  go_enter Tryz.func18, Tryz.ntmps18
  go_wp2
  all_goals (go_ret; exact ⟨⟨_, rfl⟩, rfl⟩)
set_option maxRecDepth 100000 in
set_option maxHeartbeats 1000000 in
theorem isDigit_weak (b : Int) (w : World) : Calls Tryz.prog 23 #[.int .u8 b] w fun e w' => Bo e ∧ w = w' := by
  go_enter Tryz.func23, Tryz.ntmps23
  go_wp2
  all_goals (go_ret; exact ⟨⟨_, rfl⟩, rfl⟩)
set_option maxRecDepth 100000 in
set_option maxHeartbeats 1000000 in
theorem hex_weak (b : Int) (w : World) : Calls Tryz.prog 63 #[.int .u8 b] w fun e w' => In e ∧ w = w' := by
  go_enter Tryz.func63, Tryz.ntmps63
  go_wp2_with (go_at_call 23; refine (isDigit_weak b _).mono ?_; rintro e w' ⟨⟨r, rfl⟩, rfl⟩; cases r)
  all_goals (go_ret; exact ⟨⟨_, rfl⟩, rfl⟩)
set_option maxRecDepth 100000 in
set_option maxHeartbeats 1000000 in
theorem hasPre2_any (s p : ByteArray) (w : World) : Calls Tryz.prog 16 #[.string s, .string p] w fun e w' => ∃ r, e = .returned (.bool r) ∧ w = w' ∧ (r = true → p.size ≤ s.size ∧ s.extract 0 p.size = p) := by
  go_enter Tryz.func16, Tryz.ntmps16
  go_wp2
  · have h : p.size ≤ s.size := by assumption
    go_ret
    refine ⟨_, rfl, rfl, fun hr => ⟨h, ?_⟩⟩
    have h2 := of_decide_eq_true (by simpa using hr : decide ((s.extract 0 p.size).toList = p.toList) = true)
    exact toList_inj h2
  · go_ret
    exact ⟨_, rfl, rfl, fun hr => by cases hr⟩
set_option maxHeartbeats 1000000 in
theorem hasPre_any (s p : ByteArray) (w : World) : Calls Tryz.prog 10 #[.string s, .string p] w fun e w' => ∃ r, e = .returned (.bool r) ∧ w = w' ∧ (r = true → p.size ≤ s.size ∧ s.extract 0 p.size = p) := by
  go_enter Tryz.func10, Tryz.ntmps10
  go_wp2_with (go_at_call 16; refine (hasPre2_any s p _).mono ?_; rintro e w' ⟨r, rfl, rfl, hr⟩; have HR := Lib.hid hr; clear hr)
  go_ret
  exact ⟨_, rfl, rfl, HR.out⟩
def szOf : Value → Nat | .string s => s.size | _ => 0
set_option maxRecDepth 100000 in
set_option maxHeartbeats 1000000 in
theorem bare_any (s : ByteArray) (w : World) (hs : s.size ≤ 4611686018427387904) : Calls Tryz.prog 55 #[.string s] w fun e w' => ∃ t, e = .returned (.string t) ∧ t.size ≤ s.size ∧ w = w' := by
  go_enter Tryz.func55, Tryz.ntmps55
  go_wp2
  go_loop [0] (fun v => ∃ t : ByteArray, v = .string t ∧ t.size ≤ s.size) (fun v => szOf v)
  case atStart => exact ⟨s, rfl, Nat.le_refl _⟩
  case round =>
    obtain ⟨t, rfl, ht⟩ := hrel
    go_wp2
    case roundEnd => exact ⟨⟨_, rfl, by simp; omega⟩, by simp [szOf]; omega⟩
    all_goals (go_ret; exact ⟨_, rfl, ht, rfl⟩)
set_option maxRecDepth 100000 in
set_option maxHeartbeats 1000000 in
theorem whole_any (s : ByteArray) (b : Int) (w : World) (hs : s.size ≤ 4611686018427387904) : Calls Tryz.prog 54 #[.string s, .int .i64 b] w fun e w' => FB e ∧ w = w' := by
  have hcv : ∀ n w, (convert 3 32 (.int .i64 n)).run Tryz.prog w = .ok (.float .f64 (floatOfInt .f64 n)) w := fun n w => run_convert_int_float w 3 32 .i64 .f64 n rfl rfl
  go_enter Tryz.func54, Tryz.ntmps54
  go_wp2
  go_loop [6, 10] (fun v c => ∃ (n : Int) (k : Nat), v = .int .i64 n ∧ c = .int .i64 k ∧ k ≤ s.size) (fun _ c => s.size - (intOf c).toNat)
  case atStart => exact ⟨0, 0, rfl, rfl, by omega⟩
  case round =>
    obtain ⟨n, k, rfl, rfl, hk⟩ := hrel
    go_wp2_with (go_at_call 63; refine (hex_weak _ _).mono ?_; rintro e w' ⟨⟨d, rfl⟩, rfl⟩)
    case roundEnd => exact ⟨⟨_, k + 1, rfl, by go_num, by omega⟩, by simp [intOf]; omega⟩
    all_goals (go_ret2; exact ⟨⟨_, _, rfl⟩, rfl⟩)

theorem choose_run (q : Question) (w : World) : ∃ r n, (choose q).run Tryz.prog w = .ok r (w.drewN n) := by
  rw [run_choose_drew]
  split
  · exact ⟨_, 0, rfl⟩
  · exact ⟨_, 1, rfl⟩
theorem fmul_run (t : TypeId) (x y : Nat) (w : World) : ∃ r q, (binOp .mul t (.float .f64 x) (.float .f64 y)).run Tryz.prog w = .ok (.float .f64 r) (w.drewN q) := by
  cases h : FloatKind.f64.format.mul x y with
  | some r => exact ⟨r, 0, by simp [binOp, Op.floatArith, h]; rfl⟩
  | none =>
    by_cases hf : (Question.nanBits .f64 x y).forced = true
    · exact ⟨0, 0, by simp [binOp, Op.floatArith, h, hf]; rfl⟩
    · exact ⟨(Question.nanBits .f64 x y).cut (w.tape w.drawn (.nanBits .f64 x y)), 1, by simp [binOp, Op.floatArith, h, hf]; rfl⟩
theorem fquo_run (t : TypeId) (x y : Nat) (w : World) : ∃ r q, (binOp .quo t (.float .f64 x) (.float .f64 y)).run Tryz.prog w = .ok (.float .f64 r) (w.drewN q) := by
  cases h : FloatKind.f64.format.div x y with
  | some r => exact ⟨r, 0, by simp [binOp, Op.floatArith, h]; rfl⟩
  | none =>
    by_cases hf : (Question.nanBits .f64 x y).forced = true
    · exact ⟨0, 0, by simp [binOp, Op.floatArith, h, hf]; rfl⟩
    · exact ⟨(Question.nanBits .f64 x y).cut (w.tape w.drawn (.nanBits .f64 x y)), 1, by simp [binOp, Op.floatArith, h, hf]; rfl⟩
/-- The word of a reserved table. -/
def WordsAt (w : World) (g b o n : Nat) (ws : List ByteArray) : Prop := w.cell? ⟨g, 0, none⟩ = some (.slice (some ⟨b, o, none⟩) n n) ∧ ws.length = n ∧ ∀ i, i < n → w.cell? ⟨b, o + i, none⟩ = some (.string (ws.getD i ByteArray.empty))
set_option maxRecDepth 100000 in
set_option maxHeartbeats 1000000 in
theorem reserve_any (s : ByteArray) (b o n : Nat) (ws : List ByteArray) (w : World) (h : WordsAt w 3 b o n ws) (hn : n ≤ 1000) :
    Calls Tryz.prog 35 #[.string s] w fun e w' => Bo e ∧ w = w' := by
  obtain ⟨hc0, hl, hcell⟩ := h
  go_enter Tryz.func35, Tryz.ntmps35
  go_wp2
  go_loop [7] (fun i => ∃ k : Nat, k ≤ n ∧ i = .int .i64 k) (fun i => n - (intOf i).toNat)
  case atStart => exact ⟨0, by omega, rfl⟩
  case round =>
    obtain ⟨k, hk, rfl⟩ := hrel
    by_cases hlt : k < n
    · have hc := hcell k hlt
      clear hcell
      go_wp2
      case roundEnd => exact ⟨⟨k + 1, by omega, by go_num⟩, by simp [intOf]; omega⟩
      all_goals (go_ret; exact ⟨⟨_, rfl⟩, rfl⟩)
    · have hkn : k = n := by omega
      go_wp2
      all_goals (go_ret; exact ⟨⟨_, rfl⟩, rfl⟩)
set_option maxRecDepth 100000 in
set_option maxHeartbeats 1000000 in
theorem value_any (s f : ByteArray) (p : Int) (b : Bool) (w : World) (hs : s.size ≤ 4194304) (hf : f.size ≤ 4194304) :
    Calls Tryz.prog 56 #[.string s, .string f, .int .i64 p, .bool b] w fun e w' => FB e ∧ ∃ q, w' = w.drewN q := by
  cases b
  · go_enter Tryz.func56, Tryz.ntmps56
    have hml : (s ++ f).size ≤ 4611686018427387904 := by rw [ByteArray.size_append]; omega
    go_wp2_with (first | (go_at_call 54; refine (whole_any _ _ _ (by omega)).mono ?_; rintro e w' ⟨⟨x, r, rfl⟩, rfl⟩) | (go_at_call 55; refine (bare_any _ _ hml).mono ?_; rintro e w' ⟨t, rfl, ht, rfl⟩))
    case inl =>
      obtain ⟨M, hM⟩ : ∃ M, -wrap64 (p - (f.size : Int)) = M := ⟨_, rfl⟩
      simp only [hM]
      go_loopw [13, 49] (fun v c wr => ∃ (y : Nat) (k : Nat) (q : Nat), v = .float .f64 y ∧ c = .int .i64 k ∧ wr = w.drewN q) (fun _ c _ => (M - intOf c).toNat)
      case atStart => exact ⟨_, 0, 0, rfl, rfl, rfl⟩
      case round =>
        obtain ⟨y, k, q, rfl, rfl, rfl⟩ := hrel
        obtain ⟨y2, q2, hm⟩ := fmul_run 32 y 4621819117588971520 (w.drewN q)
        obtain ⟨z1, q3, h1⟩ := fmul_run 32 x y (w.drewN q)
        obtain ⟨z2, q4, h2⟩ := fquo_run 32 x y (w.drewN q)
        go_wp2
        case roundEnd => exact ⟨⟨_, k + 1, _, rfl, by go_num, rfl⟩, by simp [intOf]; omega⟩
        all_goals (go_ret2; exact ⟨⟨_, _, rfl⟩, _, rfl⟩)
    case inr =>
      obtain ⟨M, hM⟩ : ∃ M, wrap64 (p - (f.size : Int)) = M := ⟨_, rfl⟩
      simp only [hM]
      go_loopw [13, 49] (fun v c wr => ∃ (y : Nat) (k : Nat) (q : Nat), v = .float .f64 y ∧ c = .int .i64 k ∧ wr = w.drewN q) (fun _ c _ => (M - intOf c).toNat)
      case atStart => exact ⟨_, 0, 0, rfl, rfl, rfl⟩
      case round =>
        obtain ⟨y, k, q, rfl, rfl, rfl⟩ := hrel
        obtain ⟨y2, q2, hm⟩ := fmul_run 32 y 4621819117588971520 (w.drewN q)
        obtain ⟨z1, q3, h1⟩ := fmul_run 32 x y (w.drewN q)
        obtain ⟨z2, q4, h2⟩ := fquo_run 32 x y (w.drewN q)
        go_wp2
        case roundEnd => exact ⟨⟨_, k + 1, _, rfl, by go_num, rfl⟩, by simp [intOf]; omega⟩
        all_goals (go_ret2; exact ⟨⟨_, _, rfl⟩, _, rfl⟩)
    all_goals (go_ret2; exact ⟨⟨_, _, rfl⟩, 0, rfl⟩)
  · go_enter Tryz.func56, Tryz.ntmps56
    go_wp2_with (go_at_call 54; refine (whole_any _ _ _ (by omega)).mono ?_; rintro e w' ⟨⟨x, r, rfl⟩, rfl⟩)
    all_goals (go_ret2; exact ⟨⟨_, _, rfl⟩, 0, rfl⟩)
end Go.Proofs.YthknielnhmoobaaGreatDoor
