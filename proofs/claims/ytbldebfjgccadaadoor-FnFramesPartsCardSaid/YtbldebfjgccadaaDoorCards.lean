/-
  DERIVED. GIVEN WITH THE SEED: THE CARDS: each row of YtbldebfjgccadaaDoorRows.lean that lists a variable, with what it lists TIED to the program's text (the seventh form; the later family's looks); each row that meets fmt, with fmt's text TOLD by the authors' own Lean function (tested against real Go, not proved from fmt's source: count such statements apart). THE CARD IS WHAT COUNTS. Prove the row's statement (the work); the ties are given (YtbldebfjgccadaaDoorTie.lean); close each card by the builder's one call (the guide's Derived/Test/ToyasCard.lean, 'card_holds'). Laid BY PROGRAM, IN A SANDBOX (cutbox-door.mjs). By AI agents, Wed Nov 11 2026. No macro, syntax, notation, axiom, sorry.
-/
import Derived.Test.YtbldebfjgccadaaDoorRows
import GoSem.ClaimSeven
namespace Go.Proofs.YtbldebfjgccadaaDoor
namespace Rows

/-- THE TIED CARD OF 'laws.FnFrames'. -/
def fnFramesCard : Claim7 := { stood := { row := fnFramesRow, standIns := [], harness := (true, "f10f60896888c5f623cbf59794c595dcfd9364930567f94c82d327e62526643d"), looks := false }, kinds := [], alts := [], laidByText := true, laidKinds := [.data, .sentinel, .pinned], laidTests := true, laidLooks := .later }
def FnFramesCardSaid : Prop := Claim7.holds Tryd.pinned (.plain (OpenSpec.ofChange fnFramesSpec)) fnFramesCard

/-- THE TIED CARD OF 'laws.FnFramesCuts'. -/
def fnFramesCutsCard : Claim7 := { stood := { row := fnFramesCutsRow, standIns := [], harness := (true, "f10f60896888c5f623cbf59794c595dcfd9364930567f94c82d327e62526643d"), looks := false }, kinds := [], alts := [], laidByText := true, laidKinds := [.data, .sentinel, .pinned], laidTests := true, laidLooks := .later }
def FnFramesCutsCardSaid : Prop := Claim7.holds Tryd.pinned (.plain (OpenSpec.ofChange fnFramesCutsSpec)) fnFramesCutsCard

/-- THE TIED CARD OF 'laws.FnFramesParts'. -/
def fnFramesPartsCard : Claim7 := { stood := { row := fnFramesPartsRow, standIns := [], harness := (true, "f10f60896888c5f623cbf59794c595dcfd9364930567f94c82d327e62526643d"), looks := false }, kinds := [], alts := [], laidByText := true, laidKinds := [.data, .sentinel, .pinned], laidTests := true, laidLooks := .later }
def FnFramesPartsCardSaid : Prop := Claim7.holds Tryd.pinned (.plain (OpenSpec.ofChange fnFramesPartsSpec)) fnFramesPartsCard

/-- THE SECOND FORM's CARD OF 'laws.FnFrames'. -/
def fnFramesUptoCard : Claim7 := { stood := { row := fnFramesUptoRow, standIns := [], harness := (true, "f10f60896888c5f623cbf59794c595dcfd9364930567f94c82d327e62526643d"), looks := false }, kinds := [], alts := [], laidByText := true, laidKinds := [.data, .sentinel, .pinned], laidTests := true, laidLooks := .later }
def FnFramesUptoCardSaid : Prop := Claim7.holds Tryd.pinned (.plain (OpenSpec.upto fnFramesSpec)) fnFramesUptoCard

/-- THE SECOND FORM's CARD OF 'laws.FnFramesCuts'. -/
def fnFramesCutsUptoCard : Claim7 := { stood := { row := fnFramesCutsUptoRow, standIns := [], harness := (true, "f10f60896888c5f623cbf59794c595dcfd9364930567f94c82d327e62526643d"), looks := false }, kinds := [], alts := [], laidByText := true, laidKinds := [.data, .sentinel, .pinned], laidTests := true, laidLooks := .later }
def FnFramesCutsUptoCardSaid : Prop := Claim7.holds Tryd.pinned (.plain (OpenSpec.upto fnFramesCutsSpec)) fnFramesCutsUptoCard

/-- THE SECOND FORM's CARD OF 'laws.FnFramesParts'. -/
def fnFramesPartsUptoCard : Claim7 := { stood := { row := fnFramesPartsUptoRow, standIns := [], harness := (true, "f10f60896888c5f623cbf59794c595dcfd9364930567f94c82d327e62526643d"), looks := false }, kinds := [], alts := [], laidByText := true, laidKinds := [.data, .sentinel, .pinned], laidTests := true, laidLooks := .later }
def FnFramesPartsUptoCardSaid : Prop := Claim7.holds Tryd.pinned (.plain (OpenSpec.upto fnFramesPartsSpec)) fnFramesPartsUptoCard
end Rows
end Go.Proofs.YtbldebfjgccadaaDoor
