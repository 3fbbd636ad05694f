/-
  NARROWER THAN 'FOR EVERY INPUT', by the rows' own cells (each row's printed sentence says how): FnTemplate: laid.
  DERIVED. THE GIVEN ROWS OF THIS SEAT. 1 by the template 'for every input the law returns true; each argument reads behind the call as it read before'; 0 by the template 'total and deterministic' (their statements: YthknielnhmoobaaGreatDoorTotals.lean).
  GIVEN WITH THE SEED: the statements are not yours to turn. If you find one false, say at which input.
  Laid BY PROGRAM, IN A SANDBOX (cutbox-rows.mjs): the forced cells as the released guide's own fill.sh prints them over the translation 8cb8e67fb90bce9d… (all of the seat's roots in one cut). By AI agents, Wed Nov 11 2026. No macro, syntax, notation, axiom, sorry.
-/
import Derived.Test.YthknielnhmoobaaGreatDoorChecked
import GoSem.PinnedTables
import GoSem.Claim
import GoSem.ClaimJoined
import GoSem.ClaimMapViews
import Derived.JoinedTies
import Derived.KernelRfl
namespace Go.Proofs.YthknielnhmoobaaGreatDoor
/- THE CELL 'sum', in the pinned program and in every row, IS THE sha256 OF THE DUMP (.gsa) THAT YthknielnhmoobaaGreatDoorProg.lean LOADS. Nothing in Lean hashes anything: it is a label: what it is worth is what the hold of that sum in a sandbox is worth. -/
noncomputable def Tryz.pinned : Pinned := { name := "ythknielnhmoobaagreatdoor", sum := "8cb8e67fb90bce9dbcbaa3f18700cab7c8327326ea897aa85d3405efc8080844", checked := Tryz.checked }
namespace Rows
def none {H : Type} : Left H := { results := [], args := [] }

/- WHAT THE LISTED PACKAGE-LEVEL VARIABLES READ AS WHEN THE CALL BEGINS. Each datum BY PROGRAM (the guide's laid-datum.mjs) off the statement by which the dump's own 'gosem.cut.vars' lays the variable. In a bare row this is a premise. The card (YthknielnhmoobaaGreatDoorCards.lean) ties it to the program's text. -/
def laid_unicode_utf8_acceptRanges {H : Type} : DataW H := .agg [.agg [.lit (.int .u8 128), .lit (.int .u8 191)], .agg [.lit (.int .u8 160), .lit (.int .u8 191)], .agg [.lit (.int .u8 128), .lit (.int .u8 159)], .agg [.lit (.int .u8 144), .lit (.int .u8 191)], .agg [.lit (.int .u8 128), .lit (.int .u8 143)], .agg [.lit (.int .u8 0), .lit (.int .u8 0)], .agg [.lit (.int .u8 0), .lit (.int .u8 0)], .agg [.lit (.int .u8 0), .lit (.int .u8 0)], .agg [.lit (.int .u8 0), .lit (.int .u8 0)], .agg [.lit (.int .u8 0), .lit (.int .u8 0)], .agg [.lit (.int .u8 0), .lit (.int .u8 0)], .agg [.lit (.int .u8 0), .lit (.int .u8 0)], .agg [.lit (.int .u8 0), .lit (.int .u8 0)], .agg [.lit (.int .u8 0), .lit (.int .u8 0)], .agg [.lit (.int .u8 0), .lit (.int .u8 0)], .agg [.lit (.int .u8 0), .lit (.int .u8 0)]]
def laid_scripttokens_spec_words {H : Type} : DataW H := .slice [.lit (.string [98, 114, 101, 97, 107]), .lit (.string [99, 97, 115, 101]), .lit (.string [99, 97, 116, 99, 104]), .lit (.string [99, 108, 97, 115, 115]), .lit (.string [99, 111, 110, 115, 116]), .lit (.string [99, 111, 110, 116, 105, 110, 117, 101]), .lit (.string [100, 101, 98, 117, 103, 103, 101, 114]), .lit (.string [100, 101, 102, 97, 117, 108, 116]), .lit (.string [100, 101, 108, 101, 116, 101]), .lit (.string [100, 111]), .lit (.string [101, 108, 115, 101]), .lit (.string [101, 110, 117, 109]), .lit (.string [101, 120, 112, 111, 114, 116]), .lit (.string [101, 120, 116, 101, 110, 100, 115]), .lit (.string [102, 97, 108, 115, 101]), .lit (.string [102, 105, 110, 97, 108, 108, 121]), .lit (.string [102, 111, 114]), .lit (.string [102, 117, 110, 99, 116, 105, 111, 110]), .lit (.string [105, 102]), .lit (.string [105, 109, 112, 111, 114, 116]), .lit (.string [105, 110]), .lit (.string [105, 110, 115, 116, 97, 110, 99, 101, 111, 102]), .lit (.string [110, 101, 119]), .lit (.string [110, 117, 108, 108]), .lit (.string [114, 101, 116, 117, 114, 110]), .lit (.string [115, 117, 112, 101, 114]), .lit (.string [115, 119, 105, 116, 99, 104]), .lit (.string [116, 104, 105, 115]), .lit (.string [116, 104, 114, 111, 119]), .lit (.string [116, 114, 117, 101]), .lit (.string [116, 114, 121]), .lit (.string [116, 121, 112, 101, 111, 102]), .lit (.string [118, 97, 114]), .lit (.string [118, 111, 105, 100]), .lit (.string [119, 104, 105, 108, 101]), .lit (.string [119, 105, 116, 104])] []
def laid_scripttokens_spec_signs {H : Type} : DataW H := .slice [.lit (.string [62, 62, 62, 61]), .lit (.string [46, 46, 46]), .lit (.string [61, 61, 61]), .lit (.string [33, 61, 61]), .lit (.string [42, 42, 61]), .lit (.string [60, 60, 61]), .lit (.string [62, 62, 61]), .lit (.string [62, 62, 62]), .lit (.string [38, 38, 61]), .lit (.string [124, 124, 61]), .lit (.string [63, 63, 61]), .lit (.string [61, 62]), .lit (.string [61, 61]), .lit (.string [33, 61]), .lit (.string [60, 61]), .lit (.string [62, 61]), .lit (.string [38, 38]), .lit (.string [124, 124]), .lit (.string [63, 63]), .lit (.string [63, 46]), .lit (.string [43, 43]), .lit (.string [45, 45]), .lit (.string [43, 61]), .lit (.string [45, 61]), .lit (.string [42, 61]), .lit (.string [47, 61]), .lit (.string [37, 61]), .lit (.string [38, 61]), .lit (.string [124, 61]), .lit (.string [94, 61]), .lit (.string [60, 60]), .lit (.string [62, 62]), .lit (.string [42, 42]), .lit (.string [123]), .lit (.string [125]), .lit (.string [40]), .lit (.string [41]), .lit (.string [91]), .lit (.string [93]), .lit (.string [59]), .lit (.string [44]), .lit (.string [60]), .lit (.string [62]), .lit (.string [43]), .lit (.string [45]), .lit (.string [42]), .lit (.string [47]), .lit (.string [37]), .lit (.string [38]), .lit (.string [124]), .lit (.string [94]), .lit (.string [33]), .lit (.string [126]), .lit (.string [63]), .lit (.string [58]), .lit (.string [61]), .lit (.string [46]), .lit (.string [64])] []
/-- One of Go's own tables, pinned by name: the form's constant. -/
def laid_unicode_utf8_first : DataW Unit := Go.Pinned.utf8First

/-- 'laws.FnTemplate': WHATEVER THE INPUT: true; the input reads as it did. -/
def fnTemplateSpec : ChangeSpec := { name := "fnTemplate", fn := fun _ => fun
  | [d] => { results := [.lit (.bool true)], args := [d] }
  | _ => none }
def fnTemplateRow : OpenClaim := { program := "ythknielnhmoobaagreatdoor", sum := "8cb8e67fb90bce9dbcbaa3f18700cab7c8327326ea897aa85d3405efc8080844", func := "scripttokens/laws.FnTemplate", spec := "fnTemplate", inPlace := ["(*internal/sync.Mutex).Lock", "internal/race.Disable", "sync/atomic.CompareAndSwapInt32", "internal/race.Enable", "internal/race.Acquire", "(*internal/sync.Mutex).lockSlow", "internal/sync.runtime_canSpin", "internal/sync.runtime_doSpin", "internal/sync.throw", "internal/sync.runtime_nanotime", "internal/sync.runtime_SemacquireMutex", "sync/atomic.AddInt32", "(*internal/sync.Mutex).Unlock", "internal/race.ReleaseMerge", "(*internal/sync.Mutex).unlockSlow", "internal/sync.fatal", "internal/sync.runtime_Semrelease", "internal/bytealg.IndexByteString"], unfollowed := true, recurses := true, named := ["unicode/utf8.first", "unicode/utf8.acceptRanges", "scripttokens/spec.signs", "scripttokens/spec.words"], apart := false, laid := [("unicode/utf8.acceptRanges", laid_unicode_utf8_acceptRanges), ("scripttokens/spec.words", laid_scripttokens_spec_words), ("scripttokens/spec.signs", laid_scripttokens_spec_signs), ("unicode/utf8.first", laid_unicode_utf8_first)] }
def FnTemplateSaid : Prop := fnTemplateRow.holds Tryz.pinned (OpenSpec.ofChange fnTemplateSpec)

/-- ITS FALSE NEIGHBOUR: 'it returns false'. Refute it at one input. -/
def fnTemplateWrong : ChangeSpec := { name := "fnTemplate", fn := fun _ => fun
  | [d] => { results := [.lit (.bool false)], args := [d] }
  | _ => none }
def FnTemplateWrongFalsely : Prop := fnTemplateRow.holds Tryz.pinned (OpenSpec.ofChange fnTemplateWrong)

/- THE SECOND FORM. 'bulk': how many values and letters a reading holds, each counted each time it is reached (what is shared counts as often as it is met; a slice's spare places count too). A statement '..UptoSaid' is the law's where the arguments, and the package variables that the reading takes, are together of bulk at most 1048576: NARROWER than '..Said'. Prove '..Said' where nothing that the law and all that it calls make is longer than what came in: it says more and counts as full. Else prove '..UptoSaid'. A law counts once. -/
mutual
def uptoBulk {H : Type} : DataW H → Nat
  | .lit (.string bytes) => bytes.length + 1
  | .lit _ => 1
  | .nil => 1
  | .ptr d => uptoBulk d + 1
  | .slice elems spare => uptoBulkAll elems + uptoBulkAll spare + 1
  | .agg parts => uptoBulkAll parts + 1
  | .iface _ d => uptoBulk d + 1
  | .map entries => uptoBulkEntries entries + 1
  | .held _ => 1
def uptoBulkAll {H : Type} : List (DataW H) → Nat
  | [] => 0
  | d :: r => uptoBulk d + uptoBulkAll r
def uptoBulkEntries {H : Type} : List (Lit × DataW H) → Nat
  | [] => 0
  | x :: r => uptoBulkEntry x + uptoBulkEntries r
def uptoBulkEntry {H : Type} : Lit × DataW H → Nat
  | (.string bytes, d) => bytes.length + uptoBulk d + 1
  | (_, d) => uptoBulk d + 1
 end
def uptoSmall : (H : Type) → List (DataW H) → Bool := fun _ ds => decide (uptoBulkAll ds ≤ 1048576)
def OpenSpec.upto (s : _root_.Go.ChangeSpec) : _root_.Go.OpenSpec := { _root_.Go.OpenSpec.ofChange s with cond := some uptoSmall }

/-- 'laws.FnTemplate', WHERE WHAT IT READS IS OF BULK AT MOST 1048576: true; the input reads as it did. -/
def fnTemplateUptoRow : OpenClaim := { program := "ythknielnhmoobaagreatdoor", sum := "8cb8e67fb90bce9dbcbaa3f18700cab7c8327326ea897aa85d3405efc8080844", func := "scripttokens/laws.FnTemplate", spec := "fnTemplate", inPlace := ["(*internal/sync.Mutex).Lock", "internal/race.Disable", "sync/atomic.CompareAndSwapInt32", "internal/race.Enable", "internal/race.Acquire", "(*internal/sync.Mutex).lockSlow", "internal/sync.runtime_canSpin", "internal/sync.runtime_doSpin", "internal/sync.throw", "internal/sync.runtime_nanotime", "internal/sync.runtime_SemacquireMutex", "sync/atomic.AddInt32", "(*internal/sync.Mutex).Unlock", "internal/race.ReleaseMerge", "(*internal/sync.Mutex).unlockSlow", "internal/sync.fatal", "internal/sync.runtime_Semrelease", "internal/bytealg.IndexByteString"], unfollowed := true, recurses := true, named := ["unicode/utf8.first", "unicode/utf8.acceptRanges", "scripttokens/spec.signs", "scripttokens/spec.words"], apart := false, laid := [("unicode/utf8.acceptRanges", laid_unicode_utf8_acceptRanges), ("scripttokens/spec.words", laid_scripttokens_spec_words), ("scripttokens/spec.signs", laid_scripttokens_spec_signs), ("unicode/utf8.first", laid_unicode_utf8_first)], narrowed := true }
def FnTemplateUptoSaid : Prop := fnTemplateUptoRow.holds Tryz.pinned (OpenSpec.upto fnTemplateSpec)

end Rows
end Go.Proofs.YthknielnhmoobaaGreatDoor
