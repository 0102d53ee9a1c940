/-
  DERIVED. GIVEN WITH THE SEED: THE CARDS: each row of YtfanlhkpblemgaaDoorRows.lean that lists a variable, with what it lists TIED to the program's text (the seventh form; the later family's looks); each row that meets fmt, with fmt's text TOLD by the authors' own Lean function (tested against real Go, not proved from fmt's source: count such statements apart). THE CARD IS WHAT COUNTS. Prove the row's statement (the work); the ties are given (YtfanlhkpblemgaaDoorTie.lean); close each card by the builder's one call (the guide's Derived/Test/ToyasCard.lean, 'card_holds'). Laid BY PROGRAM, IN A SANDBOX (cutbox-door.mjs). By AI agents, Wed Nov 11 2026. No macro, syntax, notation, axiom, sorry.
-/
import Derived.Test.YtfanlhkpblemgaaDoorRows
import GoSem.ClaimSeven
namespace Go.Proofs.YtfanlhkpblemgaaDoor
namespace Rows

/-- THE TIED CARD OF 'laws.FnContainsIn'. -/
def fnContainsInCard : Claim7 := { stood := { row := fnContainsInRow, standIns := [], harness := (true, "3de51281863d2a21f48494b674a7a115d17ee82bc20d4f6f939b36ccb2b68b09"), looks := true }, kinds := [], alts := [], laidByText := true, laidKinds := [.sentinel, .sentinel, .sentinel], laidTests := true, laidLooks := .later }
def FnContainsInCardSaid : Prop := Claim7.holds Tryd.pinned (.plain (OpenSpec.ofChange fnContainsInSpec)) fnContainsInCard

/-- THE TIED CARD OF 'laws.FnRealPath'. -/
def fnRealPathCard : Claim7 := { stood := { row := fnRealPathRow, standIns := [], harness := (true, "3de51281863d2a21f48494b674a7a115d17ee82bc20d4f6f939b36ccb2b68b09"), looks := true }, kinds := [], alts := [], laidByText := true, laidKinds := [.sentinel, .sentinel, .sentinel, .sentinel, .sentinel, .sentinel, .sentinel, .sentinel, .sentinel, .sentinel, .sentinel], laidTests := true, laidLooks := .later }
def FnRealPathCardSaid : Prop := Claim7.holds Tryd.pinned (.plain (OpenSpec.ofChange fnRealPathSpec)) fnRealPathCard

/-- THE TIED CARD OF 'laws.FnRealPathForms'. -/
def fnRealPathFormsCard : Claim7 := { stood := { row := fnRealPathFormsRow, standIns := [], harness := (true, "3de51281863d2a21f48494b674a7a115d17ee82bc20d4f6f939b36ccb2b68b09"), looks := true }, kinds := [], alts := [], laidByText := true, laidKinds := [.sentinel, .sentinel, .sentinel, .sentinel, .sentinel, .sentinel, .sentinel, .sentinel, .sentinel, .sentinel, .sentinel], laidTests := true, laidLooks := .later }
def FnRealPathFormsCardSaid : Prop := Claim7.holds Tryd.pinned (.plain (OpenSpec.ofChange fnRealPathFormsSpec)) fnRealPathFormsCard

/-- THE TIED CARD OF 'laws.FnVerityBack'. -/
def fnVerityBackCard : Claim7 := { stood := { row := fnVerityBackRow, standIns := [], harness := (true, "3de51281863d2a21f48494b674a7a115d17ee82bc20d4f6f939b36ccb2b68b09"), looks := true }, kinds := [], alts := [], laidByText := true, laidKinds := [.sentinel, .sentinel, .sentinel, .sentinel], laidTests := true, laidLooks := .later }
def FnVerityBackCardSaid : Prop := Claim7.holds Tryd.pinned (.plain (OpenSpec.ofChange fnVerityBackSpec)) fnVerityBackCard

/-- THE SECOND FORM's CARD OF 'laws.FnContainsIn'. -/
def fnContainsInUptoCard : Claim7 := { stood := { row := fnContainsInUptoRow, standIns := [], harness := (true, "3de51281863d2a21f48494b674a7a115d17ee82bc20d4f6f939b36ccb2b68b09"), looks := true }, kinds := [], alts := [], laidByText := true, laidKinds := [.sentinel, .sentinel, .sentinel], laidTests := true, laidLooks := .later }
def FnContainsInUptoCardSaid : Prop := Claim7.holds Tryd.pinned (.plain (OpenSpec.upto fnContainsInSpec)) fnContainsInUptoCard

/-- THE SECOND FORM's CARD OF 'laws.FnRealPath'. -/
def fnRealPathUptoCard : Claim7 := { stood := { row := fnRealPathUptoRow, standIns := [], harness := (true, "3de51281863d2a21f48494b674a7a115d17ee82bc20d4f6f939b36ccb2b68b09"), looks := true }, kinds := [], alts := [], laidByText := true, laidKinds := [.sentinel, .sentinel, .sentinel, .sentinel, .sentinel, .sentinel, .sentinel, .sentinel, .sentinel, .sentinel, .sentinel], laidTests := true, laidLooks := .later }
def FnRealPathUptoCardSaid : Prop := Claim7.holds Tryd.pinned (.plain (OpenSpec.upto fnRealPathSpec)) fnRealPathUptoCard

/-- THE SECOND FORM's CARD OF 'laws.FnRealPathForms'. -/
def fnRealPathFormsUptoCard : Claim7 := { stood := { row := fnRealPathFormsUptoRow, standIns := [], harness := (true, "3de51281863d2a21f48494b674a7a115d17ee82bc20d4f6f939b36ccb2b68b09"), looks := true }, kinds := [], alts := [], laidByText := true, laidKinds := [.sentinel, .sentinel, .sentinel, .sentinel, .sentinel, .sentinel, .sentinel, .sentinel, .sentinel, .sentinel, .sentinel], laidTests := true, laidLooks := .later }
def FnRealPathFormsUptoCardSaid : Prop := Claim7.holds Tryd.pinned (.plain (OpenSpec.upto fnRealPathFormsSpec)) fnRealPathFormsUptoCard

/-- THE SECOND FORM's CARD OF 'laws.FnVerityBack'. -/
def fnVerityBackUptoCard : Claim7 := { stood := { row := fnVerityBackUptoRow, standIns := [], harness := (true, "3de51281863d2a21f48494b674a7a115d17ee82bc20d4f6f939b36ccb2b68b09"), looks := true }, kinds := [], alts := [], laidByText := true, laidKinds := [.sentinel, .sentinel, .sentinel, .sentinel], laidTests := true, laidLooks := .later }
def FnVerityBackUptoCardSaid : Prop := Claim7.holds Tryd.pinned (.plain (OpenSpec.upto fnVerityBackSpec)) fnVerityBackUptoCard
end Rows
end Go.Proofs.YtfanlhkpblemgaaDoor
