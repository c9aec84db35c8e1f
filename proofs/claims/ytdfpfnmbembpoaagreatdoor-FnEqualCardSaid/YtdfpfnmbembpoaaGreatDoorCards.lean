/-
  DERIVED. GIVEN WITH THE SEED: THE CARDS: each row of YtdfpfnmbembpoaaGreatDoorRows.lean that lists a variable, with what it lists TIED to the program's text (the seventh form; the later family's looks); each row that meets fmt, with fmt's text TOLD by the authors' own Lean function (tested against real Go, not proved from fmt's source: count such statements apart). THE CARD IS WHAT COUNTS. Prove the row's statement (the work); the ties are given (YtdfpfnmbembpoaaGreatDoorTie.lean); close each card by the builder's one call (the guide's Derived/Test/ToyasCard.lean, 'card_holds'). Laid BY PROGRAM, IN A SANDBOX (cutbox-door.mjs). By AI agents, Wed Nov 11 2026. No macro, syntax, notation, axiom, sorry.
-/
import Derived.Test.YtdfpfnmbembpoaaGreatDoorRows
import GoSem.ClaimSeven
namespace Go.Proofs.YtdfpfnmbembpoaaGreatDoor
namespace Rows

/-- THE TIED CARD OF 'laws.FnEqual'. -/
def fnEqualCard : Claim7 := { stood := { row := fnEqualRow, standIns := [], harness := (true, "40da9725f291b86153a4d673c4f840aeba7f38e5affff38c7c660725b3dffe53"), looks := true }, kinds := [], alts := [], laidByText := true, laidKinds := [.data, .data, .data, .data, .data], laidTests := true, laidLooks := .later }
def FnEqualCardSaid : Prop := Claim7.holds Tryz.pinned (.plain (OpenSpec.ofChange fnEqualSpec)) fnEqualCard

/-- THE TIED CARD OF 'laws.FnLen'. -/
def fnLenCard : Claim7 := { stood := { row := fnLenRow, standIns := [], harness := (true, "40da9725f291b86153a4d673c4f840aeba7f38e5affff38c7c660725b3dffe53"), looks := true }, kinds := [], alts := [], laidByText := true, laidKinds := [.data, .data, .data, .data, .data], laidTests := true, laidLooks := .later }
def FnLenCardSaid : Prop := Claim7.holds Tryz.pinned (.plain (OpenSpec.ofChange fnLenSpec)) fnLenCard

/-- THE SECOND FORM's CARD OF 'laws.FnEqual'. -/
def fnEqualUptoCard : Claim7 := { stood := { row := fnEqualUptoRow, standIns := [], harness := (true, "40da9725f291b86153a4d673c4f840aeba7f38e5affff38c7c660725b3dffe53"), looks := true }, kinds := [], alts := [], laidByText := true, laidKinds := [.data, .data, .data, .data, .data], laidTests := true, laidLooks := .later }
def FnEqualUptoCardSaid : Prop := Claim7.holds Tryz.pinned (.plain (OpenSpec.upto fnEqualSpec)) fnEqualUptoCard

/-- THE SECOND FORM's CARD OF 'laws.FnLen'. -/
def fnLenUptoCard : Claim7 := { stood := { row := fnLenUptoRow, standIns := [], harness := (true, "40da9725f291b86153a4d673c4f840aeba7f38e5affff38c7c660725b3dffe53"), looks := true }, kinds := [], alts := [], laidByText := true, laidKinds := [.data, .data, .data, .data, .data], laidTests := true, laidLooks := .later }
def FnLenUptoCardSaid : Prop := Claim7.holds Tryz.pinned (.plain (OpenSpec.upto fnLenSpec)) fnLenUptoCard
end Rows
end Go.Proofs.YtdfpfnmbembpoaaGreatDoor
