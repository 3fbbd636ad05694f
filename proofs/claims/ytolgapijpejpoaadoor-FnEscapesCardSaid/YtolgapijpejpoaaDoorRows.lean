/-
  NARROWER THAN 'FOR EVERY INPUT', by the rows' own cells (each row's printed sentence says how): FnKeyword: laid · FnEscapes: laid · FnEscapesComeBack: laid.
  DERIVED. THE GIVEN ROWS OF THIS SEAT. 3 by the template 'for every input the law returns true; each argument reads behind the call as it read before'; 0 by the template 'total and deterministic' (their statements: YtolgapijpejpoaaDoorTotals.lean).
  GIVEN WITH THE SEED: the statements are not yours to turn. If you find one false, say at which input.
  Laid BY PROGRAM, IN A SANDBOX (cutbox-rows.mjs): the forced cells as the released guide's own fill.sh prints them over the translation 5239b479c526f5a8… (all of the seat's roots in one cut). By AI agents, Wed Nov 11 2026. No macro, syntax, notation, axiom, sorry.
-/
import Derived.Test.YtolgapijpejpoaaDoorChecked
import GoSem.PinnedTables
import GoSem.Claim
import GoSem.ClaimJoined
import GoSem.ClaimMapViews
import Derived.JoinedTies
import Derived.KernelRfl
namespace Go.Proofs.YtolgapijpejpoaaDoor
/- THE CELL 'sum', in the pinned program and in every row, IS THE sha256 OF THE DUMP (.gsa) THAT YtolgapijpejpoaaDoorProg.lean LOADS. Nothing in Lean hashes anything: it is a label: what it is worth is what the hold of that sum in a sandbox is worth. -/
noncomputable def Tryd.pinned : Pinned := { name := "ytolgapijpejpoaadoor", sum := "5239b479c526f5a83645c2d8aaf54326071afa17f73acdbd0d33717c49d1d7cb", checked := Tryd.checked }
namespace Rows
def none {H : Type} : Left H := { results := [], args := [] }

/- WHAT THE LISTED PACKAGE-LEVEL VARIABLES READ AS WHEN THE CALL BEGINS. Each datum BY PROGRAM (the guide's laid-datum.mjs) off the statement by which the dump's own 'gosem.cut.vars' lays the variable. In a bare row this is a premise. The card (YtolgapijpejpoaaDoorCards.lean) ties it to the program's text. -/
def laid_scripttokens_spec_words {H : Type} : DataW H := .slice [.lit (.string [98, 114, 101, 97, 107]), .lit (.string [99, 97, 115, 101]), .lit (.string [99, 97, 116, 99, 104]), .lit (.string [99, 108, 97, 115, 115]), .lit (.string [99, 111, 110, 115, 116]), .lit (.string [99, 111, 110, 116, 105, 110, 117, 101]), .lit (.string [100, 101, 98, 117, 103, 103, 101, 114]), .lit (.string [100, 101, 102, 97, 117, 108, 116]), .lit (.string [100, 101, 108, 101, 116, 101]), .lit (.string [100, 111]), .lit (.string [101, 108, 115, 101]), .lit (.string [101, 110, 117, 109]), .lit (.string [101, 120, 112, 111, 114, 116]), .lit (.string [101, 120, 116, 101, 110, 100, 115]), .lit (.string [102, 97, 108, 115, 101]), .lit (.string [102, 105, 110, 97, 108, 108, 121]), .lit (.string [102, 111, 114]), .lit (.string [102, 117, 110, 99, 116, 105, 111, 110]), .lit (.string [105, 102]), .lit (.string [105, 109, 112, 111, 114, 116]), .lit (.string [105, 110]), .lit (.string [105, 110, 115, 116, 97, 110, 99, 101, 111, 102]), .lit (.string [110, 101, 119]), .lit (.string [110, 117, 108, 108]), .lit (.string [114, 101, 116, 117, 114, 110]), .lit (.string [115, 117, 112, 101, 114]), .lit (.string [115, 119, 105, 116, 99, 104]), .lit (.string [116, 104, 105, 115]), .lit (.string [116, 104, 114, 111, 119]), .lit (.string [116, 114, 117, 101]), .lit (.string [116, 114, 121]), .lit (.string [116, 121, 112, 101, 111, 102]), .lit (.string [118, 97, 114]), .lit (.string [118, 111, 105, 100]), .lit (.string [119, 104, 105, 108, 101]), .lit (.string [119, 105, 116, 104])] []
def laid_scripttokens_pub_esbuild_inner_js_lexer_Keywords {H : Type} : DataW H := .map [(.string [98, 114, 101, 97, 107], .lit (.int .u8 71)), (.string [99, 97, 115, 101], .lit (.int .u8 72)), (.string [99, 97, 116, 99, 104], .lit (.int .u8 73)), (.string [99, 108, 97, 115, 115], .lit (.int .u8 74)), (.string [99, 111, 110, 115, 116], .lit (.int .u8 75)), (.string [99, 111, 110, 116, 105, 110, 117, 101], .lit (.int .u8 76)), (.string [100, 101, 98, 117, 103, 103, 101, 114], .lit (.int .u8 77)), (.string [100, 101, 102, 97, 117, 108, 116], .lit (.int .u8 78)), (.string [100, 101, 108, 101, 116, 101], .lit (.int .u8 79)), (.string [100, 111], .lit (.int .u8 80)), (.string [101, 108, 115, 101], .lit (.int .u8 81)), (.string [101, 110, 117, 109], .lit (.int .u8 82)), (.string [101, 120, 112, 111, 114, 116], .lit (.int .u8 83)), (.string [101, 120, 116, 101, 110, 100, 115], .lit (.int .u8 84)), (.string [102, 97, 108, 115, 101], .lit (.int .u8 85)), (.string [102, 105, 110, 97, 108, 108, 121], .lit (.int .u8 86)), (.string [102, 111, 114], .lit (.int .u8 87)), (.string [102, 117, 110, 99, 116, 105, 111, 110], .lit (.int .u8 88)), (.string [105, 102], .lit (.int .u8 89)), (.string [105, 109, 112, 111, 114, 116], .lit (.int .u8 90)), (.string [105, 110], .lit (.int .u8 91)), (.string [105, 110, 115, 116, 97, 110, 99, 101, 111, 102], .lit (.int .u8 92)), (.string [110, 101, 119], .lit (.int .u8 93)), (.string [110, 117, 108, 108], .lit (.int .u8 94)), (.string [114, 101, 116, 117, 114, 110], .lit (.int .u8 95)), (.string [115, 117, 112, 101, 114], .lit (.int .u8 96)), (.string [115, 119, 105, 116, 99, 104], .lit (.int .u8 97)), (.string [116, 104, 105, 115], .lit (.int .u8 98)), (.string [116, 104, 114, 111, 119], .lit (.int .u8 99)), (.string [116, 114, 117, 101], .lit (.int .u8 100)), (.string [116, 114, 121], .lit (.int .u8 101)), (.string [116, 121, 112, 101, 111, 102], .lit (.int .u8 102)), (.string [118, 97, 114], .lit (.int .u8 103)), (.string [118, 111, 105, 100], .lit (.int .u8 104)), (.string [119, 104, 105, 108, 101], .lit (.int .u8 105)), (.string [119, 105, 116, 104], .lit (.int .u8 106))]
def laid_unicode_utf8_acceptRanges {H : Type} : DataW H := .agg [.agg [.lit (.int .u8 128), .lit (.int .u8 191)], .agg [.lit (.int .u8 160), .lit (.int .u8 191)], .agg [.lit (.int .u8 128), .lit (.int .u8 159)], .agg [.lit (.int .u8 144), .lit (.int .u8 191)], .agg [.lit (.int .u8 128), .lit (.int .u8 143)], .agg [.lit (.int .u8 0), .lit (.int .u8 0)], .agg [.lit (.int .u8 0), .lit (.int .u8 0)], .agg [.lit (.int .u8 0), .lit (.int .u8 0)], .agg [.lit (.int .u8 0), .lit (.int .u8 0)], .agg [.lit (.int .u8 0), .lit (.int .u8 0)], .agg [.lit (.int .u8 0), .lit (.int .u8 0)], .agg [.lit (.int .u8 0), .lit (.int .u8 0)], .agg [.lit (.int .u8 0), .lit (.int .u8 0)], .agg [.lit (.int .u8 0), .lit (.int .u8 0)], .agg [.lit (.int .u8 0), .lit (.int .u8 0)], .agg [.lit (.int .u8 0), .lit (.int .u8 0)]]
/-- One of Go's own tables, pinned by name: the form's constant. -/
def laid_unicode_utf8_first : DataW Unit := Go.Pinned.utf8First
def laid_math_bits_deBruijn32tab {H : Type} : DataW H := .agg [.lit (.int .u8 0), .lit (.int .u8 1), .lit (.int .u8 28), .lit (.int .u8 2), .lit (.int .u8 29), .lit (.int .u8 14), .lit (.int .u8 24), .lit (.int .u8 3), .lit (.int .u8 30), .lit (.int .u8 22), .lit (.int .u8 20), .lit (.int .u8 15), .lit (.int .u8 25), .lit (.int .u8 17), .lit (.int .u8 4), .lit (.int .u8 8), .lit (.int .u8 31), .lit (.int .u8 27), .lit (.int .u8 13), .lit (.int .u8 23), .lit (.int .u8 21), .lit (.int .u8 19), .lit (.int .u8 16), .lit (.int .u8 7), .lit (.int .u8 26), .lit (.int .u8 12), .lit (.int .u8 18), .lit (.int .u8 6), .lit (.int .u8 11), .lit (.int .u8 5), .lit (.int .u8 10), .lit (.int .u8 9)]
def laid_math_bits_deBruijn64tab {H : Type} : DataW H := .agg [.lit (.int .u8 0), .lit (.int .u8 1), .lit (.int .u8 56), .lit (.int .u8 2), .lit (.int .u8 57), .lit (.int .u8 49), .lit (.int .u8 28), .lit (.int .u8 3), .lit (.int .u8 61), .lit (.int .u8 58), .lit (.int .u8 42), .lit (.int .u8 50), .lit (.int .u8 38), .lit (.int .u8 29), .lit (.int .u8 17), .lit (.int .u8 4), .lit (.int .u8 62), .lit (.int .u8 47), .lit (.int .u8 59), .lit (.int .u8 36), .lit (.int .u8 45), .lit (.int .u8 43), .lit (.int .u8 51), .lit (.int .u8 22), .lit (.int .u8 53), .lit (.int .u8 39), .lit (.int .u8 33), .lit (.int .u8 30), .lit (.int .u8 24), .lit (.int .u8 18), .lit (.int .u8 12), .lit (.int .u8 5), .lit (.int .u8 63), .lit (.int .u8 55), .lit (.int .u8 48), .lit (.int .u8 27), .lit (.int .u8 60), .lit (.int .u8 41), .lit (.int .u8 37), .lit (.int .u8 16), .lit (.int .u8 46), .lit (.int .u8 35), .lit (.int .u8 44), .lit (.int .u8 21), .lit (.int .u8 52), .lit (.int .u8 32), .lit (.int .u8 23), .lit (.int .u8 11), .lit (.int .u8 54), .lit (.int .u8 26), .lit (.int .u8 40), .lit (.int .u8 15), .lit (.int .u8 34), .lit (.int .u8 20), .lit (.int .u8 31), .lit (.int .u8 10), .lit (.int .u8 25), .lit (.int .u8 14), .lit (.int .u8 19), .lit (.int .u8 9), .lit (.int .u8 13), .lit (.int .u8 8), .lit (.int .u8 7), .lit (.int .u8 6)]
def laid_internal_strconv_uint64pow10 {H : Type} : DataW H := .agg [.lit (.int .u64 1), .lit (.int .u64 10), .lit (.int .u64 100), .lit (.int .u64 1000), .lit (.int .u64 10000), .lit (.int .u64 100000), .lit (.int .u64 1000000), .lit (.int .u64 10000000), .lit (.int .u64 100000000), .lit (.int .u64 1000000000), .lit (.int .u64 10000000000), .lit (.int .u64 100000000000), .lit (.int .u64 1000000000000), .lit (.int .u64 10000000000000), .lit (.int .u64 100000000000000), .lit (.int .u64 1000000000000000), .lit (.int .u64 10000000000000000), .lit (.int .u64 100000000000000000), .lit (.int .u64 1000000000000000000), .lit (.int .u64 10000000000000000000)]

/-- 'laws.FnKeyword': WHATEVER THE INPUT: true; the input reads as it did. -/
def fnKeywordSpec : ChangeSpec := { name := "fnKeyword", fn := fun _ => fun
  | [d] => { results := [.lit (.bool true)], args := [d] }
  | _ => none }
def fnKeywordRow : OpenClaim := { program := "ytolgapijpejpoaadoor", sum := "5239b479c526f5a83645c2d8aaf54326071afa17f73acdbd0d33717c49d1d7cb", func := "scripttokens/laws.FnKeyword", spec := "fnKeyword", named := ["scripttokens/pub/esbuild/inner/js_lexer.Keywords", "scripttokens/spec.words"], apart := false, laid := [("scripttokens/spec.words", laid_scripttokens_spec_words), ("scripttokens/pub/esbuild/inner/js_lexer.Keywords", laid_scripttokens_pub_esbuild_inner_js_lexer_Keywords)] }
def FnKeywordSaid : Prop := fnKeywordRow.holds Tryd.pinned (OpenSpec.ofChange fnKeywordSpec)

/-- ITS FALSE NEIGHBOUR: 'it returns false'. Refute it at one input. -/
def fnKeywordWrong : ChangeSpec := { name := "fnKeyword", fn := fun _ => fun
  | [d] => { results := [.lit (.bool false)], args := [d] }
  | _ => none }
def FnKeywordWrongFalsely : Prop := fnKeywordRow.holds Tryd.pinned (OpenSpec.ofChange fnKeywordWrong)

/-- 'laws.FnEscapes': WHATEVER THE INPUT: true; the input reads as it did. -/
def fnEscapesSpec : ChangeSpec := { name := "fnEscapes", fn := fun _ => fun
  | [d] => { results := [.lit (.bool true)], args := [d] }
  | _ => none }
def fnEscapesRow : OpenClaim := { program := "ytolgapijpejpoaadoor", sum := "5239b479c526f5a83645c2d8aaf54326071afa17f73acdbd0d33717c49d1d7cb", func := "scripttokens/laws.FnEscapes", spec := "fnEscapes", inPlace := ["(*internal/sync.Mutex).Lock", "internal/race.Disable", "sync/atomic.CompareAndSwapInt32", "internal/race.Enable", "internal/race.Acquire", "(*internal/sync.Mutex).lockSlow", "internal/sync.runtime_canSpin", "internal/sync.runtime_doSpin", "internal/sync.throw", "internal/sync.runtime_nanotime", "internal/sync.runtime_SemacquireMutex", "sync/atomic.AddInt32", "(*internal/sync.Mutex).Unlock", "internal/race.ReleaseMerge", "(*internal/sync.Mutex).unlockSlow", "internal/sync.fatal", "internal/sync.runtime_Semrelease"], unfollowed := true, recurses := true, named := ["unicode/utf8.first", "unicode/utf8.acceptRanges"], apart := false, laid := [("unicode/utf8.acceptRanges", laid_unicode_utf8_acceptRanges), ("unicode/utf8.first", laid_unicode_utf8_first)] }
def FnEscapesSaid : Prop := fnEscapesRow.holds Tryd.pinned (OpenSpec.ofChange fnEscapesSpec)

/-- ITS FALSE NEIGHBOUR: 'it returns false'. Refute it at one input. -/
def fnEscapesWrong : ChangeSpec := { name := "fnEscapes", fn := fun _ => fun
  | [d] => { results := [.lit (.bool false)], args := [d] }
  | _ => none }
def FnEscapesWrongFalsely : Prop := fnEscapesRow.holds Tryd.pinned (OpenSpec.ofChange fnEscapesWrong)

/-- 'laws.FnEscapesComeBack': WHATEVER THE INPUT: true; the input reads as it did. -/
def fnEscapesComeBackSpec : ChangeSpec := { name := "fnEscapesComeBack", fn := fun _ => fun
  | [d1, d2] => { results := [.lit (.bool true)], args := [d1, d2] }
  | _ => none }
def fnEscapesComeBackRow : OpenClaim := { program := "ytolgapijpejpoaadoor", sum := "5239b479c526f5a83645c2d8aaf54326071afa17f73acdbd0d33717c49d1d7cb", func := "scripttokens/laws.FnEscapesComeBack", spec := "fnEscapesComeBack", inPlace := ["(*internal/sync.Mutex).Lock", "internal/race.Disable", "sync/atomic.CompareAndSwapInt32", "internal/race.Enable", "internal/race.Acquire", "(*internal/sync.Mutex).lockSlow", "internal/sync.runtime_canSpin", "internal/sync.runtime_doSpin", "internal/sync.throw", "internal/sync.runtime_nanotime", "internal/sync.runtime_SemacquireMutex", "sync/atomic.AddInt32", "(*internal/sync.Mutex).Unlock", "internal/race.ReleaseMerge", "(*internal/sync.Mutex).unlockSlow", "internal/sync.fatal", "internal/sync.runtime_Semrelease"], unfollowed := true, recurses := true, named := ["internal/strconv.uint64pow10", "math/bits.deBruijn32tab", "math/bits.deBruijn64tab", "unicode/utf8.first", "unicode/utf8.acceptRanges"], apart := false, laid := [("math/bits.deBruijn32tab", laid_math_bits_deBruijn32tab), ("math/bits.deBruijn64tab", laid_math_bits_deBruijn64tab), ("internal/strconv.uint64pow10", laid_internal_strconv_uint64pow10), ("unicode/utf8.acceptRanges", laid_unicode_utf8_acceptRanges), ("unicode/utf8.first", laid_unicode_utf8_first)] }
def FnEscapesComeBackSaid : Prop := fnEscapesComeBackRow.holds Tryd.pinned (OpenSpec.ofChange fnEscapesComeBackSpec)

/-- ITS FALSE NEIGHBOUR: 'it returns false'. Refute it at one input. -/
def fnEscapesComeBackWrong : ChangeSpec := { name := "fnEscapesComeBack", fn := fun _ => fun
  | [d1, d2] => { results := [.lit (.bool false)], args := [d1, d2] }
  | _ => none }
def FnEscapesComeBackWrongFalsely : Prop := fnEscapesComeBackRow.holds Tryd.pinned (OpenSpec.ofChange fnEscapesComeBackWrong)

/- THE SECOND FORM. 'bulk': how many values and letters a reading holds, each counted each time it is reached (what is shared counts as often as it is met; a slice's spare places count too). A statement '..UptoSaid' is the law's where the arguments, and the package variables that the reading takes, are together of bulk at most 1048576: NARROWER than '..Said'. Prove '..Said' where nothing that the law and all that it calls make is longer than what came in: it says more and counts as full. Else prove '..UptoSaid'. A law counts once. -/
mutual
def uptoBulk {H : Type} : DataW H → Nat
  | .lit (.string bytes) => bytes.length + 1
  | .lit _ => 1
  | .nil => 1
  | .ptr d => uptoBulk d + 1
  | .slice elems spare => uptoBulkAll elems + uptoBulkAll spare + 1
  | .agg parts => uptoBulkAll parts + 1
  | .iface _ d => uptoBulk d + 1
  | .map entries => uptoBulkEntries entries + 1
  | .held _ => 1
def uptoBulkAll {H : Type} : List (DataW H) → Nat
  | [] => 0
  | d :: r => uptoBulk d + uptoBulkAll r
def uptoBulkEntries {H : Type} : List (Lit × DataW H) → Nat
  | [] => 0
  | x :: r => uptoBulkEntry x + uptoBulkEntries r
def uptoBulkEntry {H : Type} : Lit × DataW H → Nat
  | (.string bytes, d) => bytes.length + uptoBulk d + 1
  | (_, d) => uptoBulk d + 1
 end
def uptoSmall : (H : Type) → List (DataW H) → Bool := fun _ ds => decide (uptoBulkAll ds ≤ 1048576)
def OpenSpec.upto (s : _root_.Go.ChangeSpec) : _root_.Go.OpenSpec := { _root_.Go.OpenSpec.ofChange s with cond := some uptoSmall }

/-- 'laws.FnKeyword', WHERE WHAT IT READS IS OF BULK AT MOST 1048576: true; the input reads as it did. -/
def fnKeywordUptoRow : OpenClaim := { program := "ytolgapijpejpoaadoor", sum := "5239b479c526f5a83645c2d8aaf54326071afa17f73acdbd0d33717c49d1d7cb", func := "scripttokens/laws.FnKeyword", spec := "fnKeyword", named := ["scripttokens/pub/esbuild/inner/js_lexer.Keywords", "scripttokens/spec.words"], apart := false, laid := [("scripttokens/spec.words", laid_scripttokens_spec_words), ("scripttokens/pub/esbuild/inner/js_lexer.Keywords", laid_scripttokens_pub_esbuild_inner_js_lexer_Keywords)], narrowed := true }
def FnKeywordUptoSaid : Prop := fnKeywordUptoRow.holds Tryd.pinned (OpenSpec.upto fnKeywordSpec)

/-- 'laws.FnEscapes', WHERE WHAT IT READS IS OF BULK AT MOST 1048576: true; the input reads as it did. -/
def fnEscapesUptoRow : OpenClaim := { program := "ytolgapijpejpoaadoor", sum := "5239b479c526f5a83645c2d8aaf54326071afa17f73acdbd0d33717c49d1d7cb", func := "scripttokens/laws.FnEscapes", spec := "fnEscapes", inPlace := ["(*internal/sync.Mutex).Lock", "internal/race.Disable", "sync/atomic.CompareAndSwapInt32", "internal/race.Enable", "internal/race.Acquire", "(*internal/sync.Mutex).lockSlow", "internal/sync.runtime_canSpin", "internal/sync.runtime_doSpin", "internal/sync.throw", "internal/sync.runtime_nanotime", "internal/sync.runtime_SemacquireMutex", "sync/atomic.AddInt32", "(*internal/sync.Mutex).Unlock", "internal/race.ReleaseMerge", "(*internal/sync.Mutex).unlockSlow", "internal/sync.fatal", "internal/sync.runtime_Semrelease"], unfollowed := true, recurses := true, named := ["unicode/utf8.first", "unicode/utf8.acceptRanges"], apart := false, laid := [("unicode/utf8.acceptRanges", laid_unicode_utf8_acceptRanges), ("unicode/utf8.first", laid_unicode_utf8_first)], narrowed := true }
def FnEscapesUptoSaid : Prop := fnEscapesUptoRow.holds Tryd.pinned (OpenSpec.upto fnEscapesSpec)

/-- 'laws.FnEscapesComeBack', WHERE WHAT IT READS IS OF BULK AT MOST 1048576: true; the input reads as it did. -/
def fnEscapesComeBackUptoRow : OpenClaim := { program := "ytolgapijpejpoaadoor", sum := "5239b479c526f5a83645c2d8aaf54326071afa17f73acdbd0d33717c49d1d7cb", func := "scripttokens/laws.FnEscapesComeBack", spec := "fnEscapesComeBack", inPlace := ["(*internal/sync.Mutex).Lock", "internal/race.Disable", "sync/atomic.CompareAndSwapInt32", "internal/race.Enable", "internal/race.Acquire", "(*internal/sync.Mutex).lockSlow", "internal/sync.runtime_canSpin", "internal/sync.runtime_doSpin", "internal/sync.throw", "internal/sync.runtime_nanotime", "internal/sync.runtime_SemacquireMutex", "sync/atomic.AddInt32", "(*internal/sync.Mutex).Unlock", "internal/race.ReleaseMerge", "(*internal/sync.Mutex).unlockSlow", "internal/sync.fatal", "internal/sync.runtime_Semrelease"], unfollowed := true, recurses := true, named := ["internal/strconv.uint64pow10", "math/bits.deBruijn32tab", "math/bits.deBruijn64tab", "unicode/utf8.first", "unicode/utf8.acceptRanges"], apart := false, laid := [("math/bits.deBruijn32tab", laid_math_bits_deBruijn32tab), ("math/bits.deBruijn64tab", laid_math_bits_deBruijn64tab), ("internal/strconv.uint64pow10", laid_internal_strconv_uint64pow10), ("unicode/utf8.acceptRanges", laid_unicode_utf8_acceptRanges), ("unicode/utf8.first", laid_unicode_utf8_first)], narrowed := true }
def FnEscapesComeBackUptoSaid : Prop := fnEscapesComeBackUptoRow.holds Tryd.pinned (OpenSpec.upto fnEscapesComeBackSpec)

end Rows
end Go.Proofs.YtolgapijpejpoaaDoor
