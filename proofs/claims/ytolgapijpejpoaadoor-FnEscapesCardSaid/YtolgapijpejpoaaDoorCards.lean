/-
  DERIVED. GIVEN WITH THE SEED: THE CARDS: each row of YtolgapijpejpoaaDoorRows.lean that lists a variable, with what it lists TIED to the program's text (the seventh form; the later family's looks); each row that meets fmt, with fmt's text TOLD by the authors' own Lean function (tested against real Go, not proved from fmt's source: count such statements apart). THE CARD IS WHAT COUNTS. Prove the row's statement (the work); the ties are given (YtolgapijpejpoaaDoorTie.lean); close each card by the builder's one call (the guide's Derived/Test/ToyasCard.lean, 'card_holds'). Laid BY PROGRAM, IN A SANDBOX (cutbox-door.mjs). By AI agents, Wed Nov 11 2026. No macro, syntax, notation, axiom, sorry.
-/
import Derived.Test.YtolgapijpejpoaaDoorRows
import GoSem.ClaimSeven
namespace Go.Proofs.YtolgapijpejpoaaDoor
namespace Rows

/-- THE TIED CARD OF 'laws.FnKeyword'. -/
def fnKeywordCard : Claim7 := { stood := { row := fnKeywordRow, standIns := [], harness := (true, "7533bcb1f69264fbdea17fe3794ba51a49fa67d3bc29123ad418b8a1bf146cc8"), looks := true }, kinds := [], alts := [], laidByText := true, laidKinds := [.data, .mapped], laidTests := true, laidLooks := .later }
def FnKeywordCardSaid : Prop := Claim7.holds Tryd.pinned (.plain (OpenSpec.ofChange fnKeywordSpec)) fnKeywordCard

/-- THE TIED CARD OF 'laws.FnEscapes'. -/
def fnEscapesCard : Claim7 := { stood := { row := fnEscapesRow, standIns := [], harness := (true, "7533bcb1f69264fbdea17fe3794ba51a49fa67d3bc29123ad418b8a1bf146cc8"), looks := true }, kinds := [], alts := [], laidByText := true, laidKinds := [.data, .pinned], laidTests := true, laidLooks := .later }
def FnEscapesCardSaid : Prop := Claim7.holds Tryd.pinned (.plain (OpenSpec.ofChange fnEscapesSpec)) fnEscapesCard

/-- THE TIED CARD OF 'laws.FnEscapesComeBack'. -/
def fnEscapesComeBackCard : Claim7 := { stood := { row := fnEscapesComeBackRow, standIns := [], harness := (true, "7533bcb1f69264fbdea17fe3794ba51a49fa67d3bc29123ad418b8a1bf146cc8"), looks := true }, kinds := [], alts := [], laidByText := true, laidKinds := [.data, .data, .data, .data, .pinned], laidTests := true, laidLooks := .later }
def FnEscapesComeBackCardSaid : Prop := Claim7.holds Tryd.pinned (.plain (OpenSpec.ofChange fnEscapesComeBackSpec)) fnEscapesComeBackCard

/-- THE SECOND FORM's CARD OF 'laws.FnKeyword'. -/
def fnKeywordUptoCard : Claim7 := { stood := { row := fnKeywordUptoRow, standIns := [], harness := (true, "7533bcb1f69264fbdea17fe3794ba51a49fa67d3bc29123ad418b8a1bf146cc8"), looks := true }, kinds := [], alts := [], laidByText := true, laidKinds := [.data, .mapped], laidTests := true, laidLooks := .later }
def FnKeywordUptoCardSaid : Prop := Claim7.holds Tryd.pinned (.plain (OpenSpec.upto fnKeywordSpec)) fnKeywordUptoCard

/-- THE SECOND FORM's CARD OF 'laws.FnEscapes'. -/
def fnEscapesUptoCard : Claim7 := { stood := { row := fnEscapesUptoRow, standIns := [], harness := (true, "7533bcb1f69264fbdea17fe3794ba51a49fa67d3bc29123ad418b8a1bf146cc8"), looks := true }, kinds := [], alts := [], laidByText := true, laidKinds := [.data, .pinned], laidTests := true, laidLooks := .later }
def FnEscapesUptoCardSaid : Prop := Claim7.holds Tryd.pinned (.plain (OpenSpec.upto fnEscapesSpec)) fnEscapesUptoCard

/-- THE SECOND FORM's CARD OF 'laws.FnEscapesComeBack'. -/
def fnEscapesComeBackUptoCard : Claim7 := { stood := { row := fnEscapesComeBackUptoRow, standIns := [], harness := (true, "7533bcb1f69264fbdea17fe3794ba51a49fa67d3bc29123ad418b8a1bf146cc8"), looks := true }, kinds := [], alts := [], laidByText := true, laidKinds := [.data, .data, .data, .data, .pinned], laidTests := true, laidLooks := .later }
def FnEscapesComeBackUptoCardSaid : Prop := Claim7.holds Tryd.pinned (.plain (OpenSpec.upto fnEscapesComeBackSpec)) fnEscapesComeBackUptoCard
end Rows
end Go.Proofs.YtolgapijpejpoaaDoor
