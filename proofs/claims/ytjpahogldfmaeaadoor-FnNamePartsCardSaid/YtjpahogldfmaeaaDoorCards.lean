/-
  DERIVED. GIVEN WITH THE SEED: THE CARDS: each row of YtjpahogldfmaeaaDoorRows.lean that lists a variable, with what it lists TIED to the program's text (the seventh form; the later family's looks); each row that meets fmt, with fmt's text TOLD by the authors' own Lean function (tested against real Go, not proved from fmt's source: count such statements apart). THE CARD IS WHAT COUNTS. Prove the row's statement (the work); the ties are given (YtjpahogldfmaeaaDoorTie.lean); close each card by the builder's one call (the guide's Derived/Test/ToyasCard.lean, 'card_holds'). Laid BY PROGRAM, IN A SANDBOX (cutbox-door.mjs). By AI agents, Wed Nov 11 2026. No macro, syntax, notation, axiom, sorry.
-/
import Derived.Test.YtjpahogldfmaeaaDoorRows
import GoSem.ClaimSeven
namespace Go.Proofs.YtjpahogldfmaeaaDoor
namespace Rows

/-- THE TIED CARD OF 'laws.FnNameParts'. -/
def fnNamePartsCard : Claim7 := { stood := { row := fnNamePartsRow, standIns := [], harness := (true, "c2f07b26a49edeba2cd1f54fe5422b3e249345cca05934c6c17db3fa6997e70b"), looks := false }, kinds := [], alts := [], laidByText := true, laidKinds := [.data], laidTests := true, laidLooks := .later }
def FnNamePartsCardSaid : Prop := Claim7.holds Tryd.pinned (.plain (OpenSpec.ofChange fnNamePartsSpec)) fnNamePartsCard

/-- THE SECOND FORM's CARD OF 'laws.FnNameParts'. -/
def fnNamePartsUptoCard : Claim7 := { stood := { row := fnNamePartsUptoRow, standIns := [], harness := (true, "c2f07b26a49edeba2cd1f54fe5422b3e249345cca05934c6c17db3fa6997e70b"), looks := false }, kinds := [], alts := [], laidByText := true, laidKinds := [.data], laidTests := true, laidLooks := .later }
def FnNamePartsUptoCardSaid : Prop := Claim7.holds Tryd.pinned (.plain (OpenSpec.upto fnNamePartsSpec)) fnNamePartsUptoCard
end Rows
end Go.Proofs.YtjpahogldfmaeaaDoor
