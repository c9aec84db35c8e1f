/-
  DERIVED. GIVEN WITH THE SEED: THE CARDS: each row of YtkmeckimmfbkiaaGreatDoorRows.lean that lists a variable, with what it lists TIED to the program's text (the seventh form; the later family's looks); each row that meets fmt, with fmt's text TOLD by the authors' own Lean function (tested against real Go, not proved from fmt's source: count such statements apart). THE CARD IS WHAT COUNTS. Prove the row's statement (the work); the ties are given (YtkmeckimmfbkiaaGreatDoorTie.lean); close each card by the builder's one call (the guide's Derived/Test/ToyasCard.lean, 'card_holds'). Laid BY PROGRAM, IN A SANDBOX (cutbox-door.mjs). By AI agents, Wed Nov 11 2026. No macro, syntax, notation, axiom, sorry.
-/
import Derived.Test.YtkmeckimmfbkiaaGreatDoorRows
import GoSem.ClaimSeven
namespace Go.Proofs.YtkmeckimmfbkiaaGreatDoor
namespace Rows

/-- THE TIED CARD OF 'laws.FnHas'. -/
def fnHasCard : Claim7 := { stood := { row := fnHasRow, standIns := [], harness := (true, "c0c5bff3a04ad65617ebe7165b0b82470ed26b4dc935de1fe5c3128c49157fea"), looks := true }, kinds := [], alts := [], laidByText := true, laidKinds := [.data, .data, .data, .data, .data, .data, .pinned], laidTests := true, laidLooks := .later }
def FnHasCardSaid : Prop := Claim7.holds Tryz.pinned (.plain (OpenSpec.ofChange fnHasSpec)) fnHasCard

/-- THE SECOND FORM's CARD OF 'laws.FnHas'. -/
def fnHasUptoCard : Claim7 := { stood := { row := fnHasUptoRow, standIns := [], harness := (true, "c0c5bff3a04ad65617ebe7165b0b82470ed26b4dc935de1fe5c3128c49157fea"), looks := true }, kinds := [], alts := [], laidByText := true, laidKinds := [.data, .data, .data, .data, .data, .data, .pinned], laidTests := true, laidLooks := .later }
def FnHasUptoCardSaid : Prop := Claim7.holds Tryz.pinned (.plain (OpenSpec.upto fnHasSpec)) fnHasUptoCard
end Rows
end Go.Proofs.YtkmeckimmfbkiaaGreatDoor
