/-
  DERIVED. GIVEN WITH THE SEED: THE CARDS: each row of YtdlkgbgenmpkiaaGreatDoorRows.lean that lists a variable, with what it lists TIED to the program's text (the seventh form; the later family's looks); each row that meets fmt, with fmt's text TOLD by the authors' own Lean function (tested against real Go, not proved from fmt's source: count such statements apart). THE CARD IS WHAT COUNTS. Prove the row's statement (the work); the ties are given (YtdlkgbgenmpkiaaGreatDoorTie.lean); close each card by the builder's one call (the guide's Derived/Test/ToyasCard.lean, 'card_holds'). Laid BY PROGRAM, IN A SANDBOX (cutbox-door.mjs). By AI agents, Wed Nov 11 2026. No macro, syntax, notation, axiom, sorry.
-/
import Derived.Test.YtdlkgbgenmpkiaaGreatDoorRows
import GoSem.ClaimSeven
namespace Go.Proofs.YtdlkgbgenmpkiaaGreatDoor
namespace Rows

/-- THE TIED CARD OF 'laws.FnAsString'. -/
def fnAsStringCard : Claim7 := { stood := { row := fnAsStringRow, standIns := [], harness := (true, "fed5b7cbfbdcf41cae1d255ef65df76ae00692cc6e349c658f1698c61630ff88"), looks := true }, kinds := [], alts := [], laidByText := true, laidKinds := [.data, .data, .data, .data, .data], laidTests := true, laidLooks := .later }
def FnAsStringCardSaid : Prop := Claim7.holds Tryz.pinned (.plain (OpenSpec.ofChange fnAsStringSpec)) fnAsStringCard

/-- THE SECOND FORM's CARD OF 'laws.FnAsString'. -/
def fnAsStringUptoCard : Claim7 := { stood := { row := fnAsStringUptoRow, standIns := [], harness := (true, "fed5b7cbfbdcf41cae1d255ef65df76ae00692cc6e349c658f1698c61630ff88"), looks := true }, kinds := [], alts := [], laidByText := true, laidKinds := [.data, .data, .data, .data, .data], laidTests := true, laidLooks := .later }
def FnAsStringUptoCardSaid : Prop := Claim7.holds Tryz.pinned (.plain (OpenSpec.upto fnAsStringSpec)) fnAsStringUptoCard
end Rows
end Go.Proofs.YtdlkgbgenmpkiaaGreatDoor
