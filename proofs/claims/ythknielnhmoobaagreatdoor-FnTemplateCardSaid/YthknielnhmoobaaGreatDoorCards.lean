/-
  DERIVED. GIVEN WITH THE SEED: THE CARDS: each row of YthknielnhmoobaaGreatDoorRows.lean that lists a variable, with what it lists TIED to the program's text (the seventh form; the later family's looks); each row that meets fmt, with fmt's text TOLD by the authors' own Lean function (tested against real Go, not proved from fmt's source: count such statements apart). THE CARD IS WHAT COUNTS. Prove the row's statement (the work); the ties are given (YthknielnhmoobaaGreatDoorTie.lean); close each card by the builder's one call (the guide's Derived/Test/ToyasCard.lean, 'card_holds'). Laid BY PROGRAM, IN A SANDBOX (cutbox-door.mjs). By AI agents, Wed Nov 11 2026. No macro, syntax, notation, axiom, sorry.
-/
import Derived.Test.YthknielnhmoobaaGreatDoorRows
import GoSem.ClaimSeven
namespace Go.Proofs.YthknielnhmoobaaGreatDoor
namespace Rows

/-- THE TIED CARD OF 'laws.FnTemplate'. -/
def fnTemplateCard : Claim7 := { stood := { row := fnTemplateRow, standIns := [], harness := (true, "ce1b9e6282af65d299c74af3b3be6eef70a15b16e675c950773f216d87bab277"), looks := false }, kinds := [], alts := [], laidByText := true, laidKinds := [.data, .data, .data, .pinned], laidTests := true, laidLooks := .later }
def FnTemplateCardSaid : Prop := Claim7.holds Tryz.pinned (.plain (OpenSpec.ofChange fnTemplateSpec)) fnTemplateCard

/-- THE SECOND FORM's CARD OF 'laws.FnTemplate'. -/
def fnTemplateUptoCard : Claim7 := { stood := { row := fnTemplateUptoRow, standIns := [], harness := (true, "ce1b9e6282af65d299c74af3b3be6eef70a15b16e675c950773f216d87bab277"), looks := false }, kinds := [], alts := [], laidByText := true, laidKinds := [.data, .data, .data, .pinned], laidTests := true, laidLooks := .later }
def FnTemplateUptoCardSaid : Prop := Claim7.holds Tryz.pinned (.plain (OpenSpec.upto fnTemplateSpec)) fnTemplateUptoCard
end Rows
end Go.Proofs.YthknielnhmoobaaGreatDoor
