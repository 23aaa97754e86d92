/-
  DERIVED. GIVEN WITH THE SEED: THE CARDS: each row of YtpjifimjoinnnaaDoorRows.lean that lists a variable, with what it lists TIED to the program's text (the seventh form; the later family's looks); each row that meets fmt, with fmt's text TOLD by the authors' own Lean function (tested against real Go, not proved from fmt's source: count such statements apart). THE CARD IS WHAT COUNTS. Prove the row's statement (the work); the ties are given (YtpjifimjoinnnaaDoorTie.lean); close each card by the builder's one call (the guide's Derived/Test/ToyasCard.lean, 'card_holds'). Laid BY PROGRAM, IN A SANDBOX (cutbox-door.mjs). By AI agents, Wed Nov 11 2026. No macro, syntax, notation, axiom, sorry.
-/
import Derived.Test.YtpjifimjoinnnaaDoorRows
import GoSem.ClaimSeven
namespace Go.Proofs.YtpjifimjoinnnaaDoor
namespace Rows

/-- THE TIED CARD OF 'laws.FnFCPlay'. -/
def fnFCPlayCard : Claim7 := { stood := { row := fnFCPlayRow, standIns := [], harness := (true, "906b0fb2676bfa911cd02c0b58743eca9996815dcab33ca30d252e7f8d1abdbc"), looks := true }, kinds := [], alts := [], laidByText := true, laidKinds := [.sentinel, .sentinel, .sentinel], laidTests := true, laidLooks := .later }
def FnFCPlayCardSaid : Prop := Claim7.holds Tryd.pinned (.plain (OpenSpec.ofChange fnFCPlaySpec)) fnFCPlayCard

/-- THE SECOND FORM's CARD OF 'laws.FnFCPlay'. -/
def fnFCPlayUptoCard : Claim7 := { stood := { row := fnFCPlayUptoRow, standIns := [], harness := (true, "906b0fb2676bfa911cd02c0b58743eca9996815dcab33ca30d252e7f8d1abdbc"), looks := true }, kinds := [], alts := [], laidByText := true, laidKinds := [.sentinel, .sentinel, .sentinel], laidTests := true, laidLooks := .later }
def FnFCPlayUptoCardSaid : Prop := Claim7.holds Tryd.pinned (.plain (OpenSpec.upto fnFCPlaySpec)) fnFCPlayUptoCard
end Rows
end Go.Proofs.YtpjifimjoinnnaaDoor
