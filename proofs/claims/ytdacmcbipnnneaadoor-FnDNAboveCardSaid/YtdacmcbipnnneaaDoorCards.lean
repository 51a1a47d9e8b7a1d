/-
  DERIVED. GIVEN WITH THE SEED: THE CARDS: each row of YtdacmcbipnnneaaDoorRows.lean that lists a variable, with what it lists TIED to the program's text (the seventh form; the later family's looks); each row that meets fmt, with fmt's text TOLD by the authors' own Lean function (tested against real Go, not proved from fmt's source: count such statements apart). THE CARD IS WHAT COUNTS. Prove the row's statement (the work); the ties are given (YtdacmcbipnnneaaDoorTie.lean); close each card by the builder's one call (the guide's Derived/Test/ToyasCard.lean, 'card_holds'). Laid BY PROGRAM, IN A SANDBOX (cutbox-door.mjs). By AI agents, Wed Nov 11 2026. No macro, syntax, notation, axiom, sorry.
-/
import Derived.Test.YtdacmcbipnnneaaDoorRows
import GoSem.ClaimSeven
namespace Go.Proofs.YtdacmcbipnnneaaDoor
namespace Rows

/-- THE TIED CARD OF 'laws.FnDNBack'. -/
def fnDNBackCard : Claim7 := { stood := { row := fnDNBackRow, standIns := [], harness := (true, "8f29bf107cce43b0c93fdf2f6c37287ed848246f7ac328f0a4ad60c7460d25e6"), looks := false }, kinds := [], alts := [], laidByText := true, laidKinds := [.sentinel], laidTests := true, laidLooks := .later }
def FnDNBackCardSaid : Prop := Claim7.holds Tryd.pinned (.plain (OpenSpec.ofChange fnDNBackSpec)) fnDNBackCard

/-- THE TIED CARD OF 'laws.FnDNEqual'. -/
def fnDNEqualCard : Claim7 := { stood := { row := fnDNEqualRow, standIns := [], harness := (true, "8f29bf107cce43b0c93fdf2f6c37287ed848246f7ac328f0a4ad60c7460d25e6"), looks := false }, kinds := [], alts := [], laidByText := true, laidKinds := [.sentinel], laidTests := true, laidLooks := .later }
def FnDNEqualCardSaid : Prop := Claim7.holds Tryd.pinned (.plain (OpenSpec.ofChange fnDNEqualSpec)) fnDNEqualCard

/-- THE TIED CARD OF 'laws.FnDNAbove'. -/
def fnDNAboveCard : Claim7 := { stood := { row := fnDNAboveRow, standIns := [], harness := (true, "8f29bf107cce43b0c93fdf2f6c37287ed848246f7ac328f0a4ad60c7460d25e6"), looks := false }, kinds := [], alts := [], laidByText := true, laidKinds := [.sentinel], laidTests := true, laidLooks := .later }
def FnDNAboveCardSaid : Prop := Claim7.holds Tryd.pinned (.plain (OpenSpec.ofChange fnDNAboveSpec)) fnDNAboveCard

/-- THE TIED CARD OF 'laws.FnDNMatch'. -/
def fnDNMatchCard : Claim7 := { stood := { row := fnDNMatchRow, standIns := [], harness := (true, "8f29bf107cce43b0c93fdf2f6c37287ed848246f7ac328f0a4ad60c7460d25e6"), looks := false }, kinds := [], alts := [], laidByText := true, laidKinds := [.sentinel], laidTests := true, laidLooks := .later }
def FnDNMatchCardSaid : Prop := Claim7.holds Tryd.pinned (.plain (OpenSpec.ofChange fnDNMatchSpec)) fnDNMatchCard

/-- THE SECOND FORM's CARD OF 'laws.FnDNBack'. -/
def fnDNBackUptoCard : Claim7 := { stood := { row := fnDNBackUptoRow, standIns := [], harness := (true, "8f29bf107cce43b0c93fdf2f6c37287ed848246f7ac328f0a4ad60c7460d25e6"), looks := false }, kinds := [], alts := [], laidByText := true, laidKinds := [.sentinel], laidTests := true, laidLooks := .later }
def FnDNBackUptoCardSaid : Prop := Claim7.holds Tryd.pinned (.plain (OpenSpec.upto fnDNBackSpec)) fnDNBackUptoCard

/-- THE SECOND FORM's CARD OF 'laws.FnDNEqual'. -/
def fnDNEqualUptoCard : Claim7 := { stood := { row := fnDNEqualUptoRow, standIns := [], harness := (true, "8f29bf107cce43b0c93fdf2f6c37287ed848246f7ac328f0a4ad60c7460d25e6"), looks := false }, kinds := [], alts := [], laidByText := true, laidKinds := [.sentinel], laidTests := true, laidLooks := .later }
def FnDNEqualUptoCardSaid : Prop := Claim7.holds Tryd.pinned (.plain (OpenSpec.upto fnDNEqualSpec)) fnDNEqualUptoCard

/-- THE SECOND FORM's CARD OF 'laws.FnDNAbove'. -/
def fnDNAboveUptoCard : Claim7 := { stood := { row := fnDNAboveUptoRow, standIns := [], harness := (true, "8f29bf107cce43b0c93fdf2f6c37287ed848246f7ac328f0a4ad60c7460d25e6"), looks := false }, kinds := [], alts := [], laidByText := true, laidKinds := [.sentinel], laidTests := true, laidLooks := .later }
def FnDNAboveUptoCardSaid : Prop := Claim7.holds Tryd.pinned (.plain (OpenSpec.upto fnDNAboveSpec)) fnDNAboveUptoCard

/-- THE SECOND FORM's CARD OF 'laws.FnDNMatch'. -/
def fnDNMatchUptoCard : Claim7 := { stood := { row := fnDNMatchUptoRow, standIns := [], harness := (true, "8f29bf107cce43b0c93fdf2f6c37287ed848246f7ac328f0a4ad60c7460d25e6"), looks := false }, kinds := [], alts := [], laidByText := true, laidKinds := [.sentinel], laidTests := true, laidLooks := .later }
def FnDNMatchUptoCardSaid : Prop := Claim7.holds Tryd.pinned (.plain (OpenSpec.upto fnDNMatchSpec)) fnDNMatchUptoCard
end Rows
end Go.Proofs.YtdacmcbipnnneaaDoor
