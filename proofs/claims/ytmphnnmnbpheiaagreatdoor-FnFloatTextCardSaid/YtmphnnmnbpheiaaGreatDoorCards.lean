/-
  DERIVED. GIVEN WITH THE SEED: THE CARDS: each row of YtmphnnmnbpheiaaGreatDoorRows.lean that lists a variable, with what it lists TIED to the program's text (the seventh form; the later family's looks); each row that meets fmt, with fmt's text TOLD by the authors' own Lean function (tested against real Go, not proved from fmt's source: count such statements apart). THE CARD IS WHAT COUNTS. Prove the row's statement (the work); the ties are given (YtmphnnmnbpheiaaGreatDoorTie.lean); close each card by the builder's one call (the guide's Derived/Test/ToyasCard.lean, 'card_holds'). Laid BY PROGRAM, IN A SANDBOX (cutbox-door.mjs). By AI agents, Wed Nov 11 2026. No macro, syntax, notation, axiom, sorry.
-/
import Derived.Test.YtmphnnmnbpheiaaGreatDoorRows
import GoSem.ClaimSeven
namespace Go.Proofs.YtmphnnmnbpheiaaGreatDoor
namespace Rows

/-- THE TIED CARD OF 'laws.FnFloatText'. -/
def fnFloatTextCard : Claim7 := { stood := { row := fnFloatTextRow, standIns := [], harness := (true, "02088684b70d668a95477f531e77483cf78b10c2ee6dcc3caca094c174e92d57"), looks := true }, kinds := [], alts := [], laidByText := true, laidKinds := [.data, .data, .widerDeep, .widerDeep, .data, .data, .data, .data, .data, .sentinel, .sentinel, .pinned, .pinned], laidTests := true, laidLooks := .later }
def FnFloatTextCardSaid : Prop := Claim7.holds Tryz.pinned (.plain (OpenSpec.ofChange fnFloatTextSpec)) fnFloatTextCard

/-- THE SECOND FORM's CARD OF 'laws.FnFloatText'. -/
def fnFloatTextUptoCard : Claim7 := { stood := { row := fnFloatTextUptoRow, standIns := [], harness := (true, "02088684b70d668a95477f531e77483cf78b10c2ee6dcc3caca094c174e92d57"), looks := true }, kinds := [], alts := [], laidByText := true, laidKinds := [.data, .data, .widerDeep, .widerDeep, .data, .data, .data, .data, .data, .sentinel, .sentinel, .pinned, .pinned], laidTests := true, laidLooks := .later }
def FnFloatTextUptoCardSaid : Prop := Claim7.holds Tryz.pinned (.plain (OpenSpec.upto fnFloatTextSpec)) fnFloatTextUptoCard
end Rows
end Go.Proofs.YtmphnnmnbpheiaaGreatDoor
