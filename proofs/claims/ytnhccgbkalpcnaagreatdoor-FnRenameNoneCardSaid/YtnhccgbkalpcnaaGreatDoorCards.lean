/-
  DERIVED. GIVEN WITH THE SEED: THE CARDS: each row of YtnhccgbkalpcnaaGreatDoorRows.lean that lists a variable, with what it lists TIED to the program's text (the seventh form; the later family's looks); each row that meets fmt, with fmt's text TOLD by the authors' own Lean function (tested against real Go, not proved from fmt's source: count such statements apart). THE CARD IS WHAT COUNTS. Prove the row's statement (the work); the ties are given (YtnhccgbkalpcnaaGreatDoorTie.lean); close each card by the builder's one call (the guide's Derived/Test/ToyasCard.lean, 'card_holds'). Laid BY PROGRAM, IN A SANDBOX (cutbox-door.mjs). By AI agents, Wed Nov 11 2026. No macro, syntax, notation, axiom, sorry.
-/
import Derived.Test.YtnhccgbkalpcnaaGreatDoorRows
import GoSem.ClaimSeven
namespace Go.Proofs.YtnhccgbkalpcnaaGreatDoor
namespace Rows

/-- THE TIED CARD OF 'laws.FnWalk'. -/
def fnWalkCard : Claim7 := { stood := { row := fnWalkRow, standIns := [], harness := (true, "f3c873f0342fd7c6a935b252c77dbe9eab8d52faa3740a14ff509d4be4e598a8"), looks := true }, kinds := [], alts := [], laidByText := true, laidKinds := [.data, .data], laidTests := true, laidLooks := .later }
def FnWalkCardSaid : Prop := Claim7.holds Tryz.pinned (.plain (OpenSpec.ofChange fnWalkSpec)) fnWalkCard

/-- THE TIED CARD OF 'laws.FnRename'. -/
def fnRenameCard : Claim7 := { stood := { row := fnRenameRow, standIns := [], harness := (true, "f3c873f0342fd7c6a935b252c77dbe9eab8d52faa3740a14ff509d4be4e598a8"), looks := true }, kinds := [], alts := [], laidByText := true, laidKinds := [.data, .data], laidTests := true, laidLooks := .later }
def FnRenameCardSaid : Prop := Claim7.holds Tryz.pinned (.plain (OpenSpec.ofChange fnRenameSpec)) fnRenameCard

/-- THE TIED CARD OF 'laws.FnRenameNone'. -/
def fnRenameNoneCard : Claim7 := { stood := { row := fnRenameNoneRow, standIns := [], harness := (true, "f3c873f0342fd7c6a935b252c77dbe9eab8d52faa3740a14ff509d4be4e598a8"), looks := true }, kinds := [], alts := [], laidByText := true, laidKinds := [.data, .data], laidTests := true, laidLooks := .later }
def FnRenameNoneCardSaid : Prop := Claim7.holds Tryz.pinned (.plain (OpenSpec.ofChange fnRenameNoneSpec)) fnRenameNoneCard

/-- THE SECOND FORM's CARD OF 'laws.FnWalk'. -/
def fnWalkUptoCard : Claim7 := { stood := { row := fnWalkUptoRow, standIns := [], harness := (true, "f3c873f0342fd7c6a935b252c77dbe9eab8d52faa3740a14ff509d4be4e598a8"), looks := true }, kinds := [], alts := [], laidByText := true, laidKinds := [.data, .data], laidTests := true, laidLooks := .later }
def FnWalkUptoCardSaid : Prop := Claim7.holds Tryz.pinned (.plain (OpenSpec.upto fnWalkSpec)) fnWalkUptoCard

/-- THE SECOND FORM's CARD OF 'laws.FnRename'. -/
def fnRenameUptoCard : Claim7 := { stood := { row := fnRenameUptoRow, standIns := [], harness := (true, "f3c873f0342fd7c6a935b252c77dbe9eab8d52faa3740a14ff509d4be4e598a8"), looks := true }, kinds := [], alts := [], laidByText := true, laidKinds := [.data, .data], laidTests := true, laidLooks := .later }
def FnRenameUptoCardSaid : Prop := Claim7.holds Tryz.pinned (.plain (OpenSpec.upto fnRenameSpec)) fnRenameUptoCard

/-- THE SECOND FORM's CARD OF 'laws.FnRenameNone'. -/
def fnRenameNoneUptoCard : Claim7 := { stood := { row := fnRenameNoneUptoRow, standIns := [], harness := (true, "f3c873f0342fd7c6a935b252c77dbe9eab8d52faa3740a14ff509d4be4e598a8"), looks := true }, kinds := [], alts := [], laidByText := true, laidKinds := [.data, .data], laidTests := true, laidLooks := .later }
def FnRenameNoneUptoCardSaid : Prop := Claim7.holds Tryz.pinned (.plain (OpenSpec.upto fnRenameNoneSpec)) fnRenameNoneUptoCard
end Rows
end Go.Proofs.YtnhccgbkalpcnaaGreatDoor
