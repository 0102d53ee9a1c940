/-
  DERIVED. GIVEN WITH THE SEED: THE CARDS: each row of YtjpahogldfmaeabDoorRows.lean that lists a variable, with what it lists TIED to the program's text (the seventh form; the later family's looks); each row that meets fmt, with fmt's text TOLD by the authors' own Lean function (tested against real Go, not proved from fmt's source: count such statements apart). THE CARD IS WHAT COUNTS. Prove the row's statement (the work); the ties are given (YtjpahogldfmaeabDoorTie.lean); close each card by the builder's one call (the guide's Derived/Test/ToyasCard.lean, 'card_holds'). Laid BY PROGRAM, IN A SANDBOX (cutbox-door.mjs). By AI agents, Wed Nov 11 2026. No macro, syntax, notation, axiom, sorry.
-/
import Derived.Test.YtjpahogldfmaeabDoorRows
import GoSem.ClaimSeven
namespace Go.Proofs.YtjpahogldfmaeabDoor
namespace Rows

/-- THE TIED CARD OF 'laws.FnAttributesFit'. -/
def fnAttributesFitCard : Claim7 := { stood := { row := fnAttributesFitRow, standIns := [], harness := (true, "1ed1a1ecccfcbb85142965bad0daf92638d35cca874b493477a73f27a57a73d5"), looks := false }, kinds := [], alts := [], laidByText := true, laidKinds := [.data], laidTests := true, laidLooks := .later }
def FnAttributesFitCardSaid : Prop := Claim7.holds Tryd.pinned (.plain (OpenSpec.ofChange fnAttributesFitSpec)) fnAttributesFitCard

/-- THE SECOND FORM's CARD OF 'laws.FnAttributesFit'. -/
def fnAttributesFitUptoCard : Claim7 := { stood := { row := fnAttributesFitUptoRow, standIns := [], harness := (true, "1ed1a1ecccfcbb85142965bad0daf92638d35cca874b493477a73f27a57a73d5"), looks := false }, kinds := [], alts := [], laidByText := true, laidKinds := [.data], laidTests := true, laidLooks := .later }
def FnAttributesFitUptoCardSaid : Prop := Claim7.holds Tryd.pinned (.plain (OpenSpec.upto fnAttributesFitSpec)) fnAttributesFitUptoCard
end Rows
end Go.Proofs.YtjpahogldfmaeabDoor
