/-
  DERIVED. GIVEN WITH THE SEED: THE CARDS: each row of YtjanndmmhjnpcaaDoorRows.lean that lists a variable, with what it lists TIED to the program's text (the seventh form; the later family's looks); each row that meets fmt, with fmt's text TOLD by the authors' own Lean function (tested against real Go, not proved from fmt's source: count such statements apart). THE CARD IS WHAT COUNTS. Prove the row's statement (the work); the ties are given (YtjanndmmhjnpcaaDoorTie.lean); close each card by the builder's one call (the guide's Derived/Test/ToyasCard.lean, 'card_holds'). Laid BY PROGRAM, IN A SANDBOX (cutbox-door.mjs). By AI agents, Wed Nov 11 2026. No macro, syntax, notation, axiom, sorry.
-/
import Derived.Test.YtjanndmmhjnpcaaDoorRows
import GoSem.ClaimSeven
namespace Go.Proofs.YtjanndmmhjnpcaaDoor
namespace Rows

/-- THE TIED CARD OF 'laws.FnQCNever'. -/
def fnQCNeverCard : Claim7 := { stood := { row := fnQCNeverRow, standIns := [], harness := (true, "4e698394104bb3b5f16c4e8b8db1b8a3c7074ee280b5c955197b643a417b0162"), looks := true }, kinds := [], alts := [], laidByText := true, laidKinds := [.sentinel, .sentinel, .sentinel], laidTests := true, laidLooks := .later }
def FnQCNeverCardSaid : Prop := Claim7.holds Tryd.pinned (.plain (OpenSpec.ofChange fnQCNeverSpec)) fnQCNeverCard

/-- THE TIED CARD OF 'laws.FnQCPlays'. -/
def fnQCPlaysCard : Claim7 := { stood := { row := fnQCPlaysRow, standIns := [], harness := (true, "4e698394104bb3b5f16c4e8b8db1b8a3c7074ee280b5c955197b643a417b0162"), looks := true }, kinds := [], alts := [], laidByText := true, laidKinds := [.sentinel, .sentinel, .sentinel], laidTests := true, laidLooks := .later }
def FnQCPlaysCardSaid : Prop := Claim7.holds Tryd.pinned (.plain (OpenSpec.ofChange fnQCPlaysSpec)) fnQCPlaysCard

/-- THE SECOND FORM's CARD OF 'laws.FnQCNever'. -/
def fnQCNeverUptoCard : Claim7 := { stood := { row := fnQCNeverUptoRow, standIns := [], harness := (true, "4e698394104bb3b5f16c4e8b8db1b8a3c7074ee280b5c955197b643a417b0162"), looks := true }, kinds := [], alts := [], laidByText := true, laidKinds := [.sentinel, .sentinel, .sentinel], laidTests := true, laidLooks := .later }
def FnQCNeverUptoCardSaid : Prop := Claim7.holds Tryd.pinned (.plain (OpenSpec.upto fnQCNeverSpec)) fnQCNeverUptoCard

/-- THE SECOND FORM's CARD OF 'laws.FnQCPlays'. -/
def fnQCPlaysUptoCard : Claim7 := { stood := { row := fnQCPlaysUptoRow, standIns := [], harness := (true, "4e698394104bb3b5f16c4e8b8db1b8a3c7074ee280b5c955197b643a417b0162"), looks := true }, kinds := [], alts := [], laidByText := true, laidKinds := [.sentinel, .sentinel, .sentinel], laidTests := true, laidLooks := .later }
def FnQCPlaysUptoCardSaid : Prop := Claim7.holds Tryd.pinned (.plain (OpenSpec.upto fnQCPlaysSpec)) fnQCPlaysUptoCard
end Rows
end Go.Proofs.YtjanndmmhjnpcaaDoor
