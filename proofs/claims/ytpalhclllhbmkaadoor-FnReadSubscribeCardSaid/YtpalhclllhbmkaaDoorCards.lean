/-
  DERIVED. GIVEN WITH THE SEED: THE CARDS: each row of YtpalhclllhbmkaaDoorRows.lean that lists a variable, with what it lists TIED to the program's text (the seventh form; the later family's looks); each row that meets fmt, with fmt's text TOLD by the authors' own Lean function (tested against real Go, not proved from fmt's source: count such statements apart). THE CARD IS WHAT COUNTS. Prove the row's statement (the work); the ties are given (YtpalhclllhbmkaaDoorTie.lean); close each card by the builder's one call (the guide's Derived/Test/ToyasCard.lean, 'card_holds'). Laid BY PROGRAM, IN A SANDBOX (cutbox-door.mjs). By AI agents, Wed Nov 11 2026. No macro, syntax, notation, axiom, sorry.
-/
import Derived.Test.YtpalhclllhbmkaaDoorRows
import GoSem.ClaimSeven
namespace Go.Proofs.YtpalhclllhbmkaaDoor
namespace Rows

/-- THE TIED CARD OF 'laws.FnRemaining'. -/
def fnRemainingCard : Claim7 := { stood := { row := fnRemainingRow, standIns := [], harness := (true, "d9a0ff82bf7949b53da3716e0842d129ec9b475d5ee2e848f96f4ff96dbe3633"), looks := false }, kinds := [], alts := [], laidByText := true, laidKinds := [.sentinel, .sentinel], laidTests := true, laidLooks := .later }
def FnRemainingCardSaid : Prop := Claim7.holds Tryd.pinned (.plain (OpenSpec.ofChange fnRemainingSpec)) fnRemainingCard

/-- THE TIED CARD OF 'laws.FnPublishCut'. -/
def fnPublishCutCard : Claim7 := { stood := { row := fnPublishCutRow, standIns := [], harness := (true, "d9a0ff82bf7949b53da3716e0842d129ec9b475d5ee2e848f96f4ff96dbe3633"), looks := false }, kinds := [], alts := [], laidByText := true, laidKinds := [.data, .sentinel, .sentinel, .sentinel, .pinned], laidTests := true, laidLooks := .later }
def FnPublishCutCardSaid : Prop := Claim7.holds Tryd.pinned (.plain (OpenSpec.ofChange fnPublishCutSpec)) fnPublishCutCard

/-- THE TIED CARD OF 'laws.FnReadPublish'. -/
def fnReadPublishCard : Claim7 := { stood := { row := fnReadPublishRow, standIns := [], harness := (true, "d9a0ff82bf7949b53da3716e0842d129ec9b475d5ee2e848f96f4ff96dbe3633"), looks := false }, kinds := [], alts := [], laidByText := true, laidKinds := [.data, .sentinel, .sentinel, .sentinel, .pinned], laidTests := true, laidLooks := .later }
def FnReadPublishCardSaid : Prop := Claim7.holds Tryd.pinned (.plain (OpenSpec.ofChange fnReadPublishSpec)) fnReadPublishCard

/-- THE TIED CARD OF 'laws.FnReadSubscribe'. -/
def fnReadSubscribeCard : Claim7 := { stood := { row := fnReadSubscribeRow, standIns := [], harness := (true, "d9a0ff82bf7949b53da3716e0842d129ec9b475d5ee2e848f96f4ff96dbe3633"), looks := false }, kinds := [], alts := [], laidByText := true, laidKinds := [.data, .sentinel, .sentinel, .sentinel, .sentinel, .sentinel, .pinned], laidTests := true, laidLooks := .later }
def FnReadSubscribeCardSaid : Prop := Claim7.holds Tryd.pinned (.plain (OpenSpec.ofChange fnReadSubscribeSpec)) fnReadSubscribeCard

/-- THE TIED CARD OF 'laws.FnSubscribeBack'. -/
def fnSubscribeBackCard : Claim7 := { stood := { row := fnSubscribeBackRow, standIns := [], harness := (true, "d9a0ff82bf7949b53da3716e0842d129ec9b475d5ee2e848f96f4ff96dbe3633"), looks := false }, kinds := [], alts := [], laidByText := true, laidKinds := [.data, .sentinel, .sentinel, .sentinel, .sentinel, .sentinel, .pinned], laidTests := true, laidLooks := .later }
def FnSubscribeBackCardSaid : Prop := Claim7.holds Tryd.pinned (.plain (OpenSpec.ofChange fnSubscribeBackSpec)) fnSubscribeBackCard

/-- THE SECOND FORM's CARD OF 'laws.FnRemaining'. -/
def fnRemainingUptoCard : Claim7 := { stood := { row := fnRemainingUptoRow, standIns := [], harness := (true, "d9a0ff82bf7949b53da3716e0842d129ec9b475d5ee2e848f96f4ff96dbe3633"), looks := false }, kinds := [], alts := [], laidByText := true, laidKinds := [.sentinel, .sentinel], laidTests := true, laidLooks := .later }
def FnRemainingUptoCardSaid : Prop := Claim7.holds Tryd.pinned (.plain (OpenSpec.upto fnRemainingSpec)) fnRemainingUptoCard

/-- THE SECOND FORM's CARD OF 'laws.FnPublishCut'. -/
def fnPublishCutUptoCard : Claim7 := { stood := { row := fnPublishCutUptoRow, standIns := [], harness := (true, "d9a0ff82bf7949b53da3716e0842d129ec9b475d5ee2e848f96f4ff96dbe3633"), looks := false }, kinds := [], alts := [], laidByText := true, laidKinds := [.data, .sentinel, .sentinel, .sentinel, .pinned], laidTests := true, laidLooks := .later }
def FnPublishCutUptoCardSaid : Prop := Claim7.holds Tryd.pinned (.plain (OpenSpec.upto fnPublishCutSpec)) fnPublishCutUptoCard

/-- THE SECOND FORM's CARD OF 'laws.FnReadPublish'. -/
def fnReadPublishUptoCard : Claim7 := { stood := { row := fnReadPublishUptoRow, standIns := [], harness := (true, "d9a0ff82bf7949b53da3716e0842d129ec9b475d5ee2e848f96f4ff96dbe3633"), looks := false }, kinds := [], alts := [], laidByText := true, laidKinds := [.data, .sentinel, .sentinel, .sentinel, .pinned], laidTests := true, laidLooks := .later }
def FnReadPublishUptoCardSaid : Prop := Claim7.holds Tryd.pinned (.plain (OpenSpec.upto fnReadPublishSpec)) fnReadPublishUptoCard

/-- THE SECOND FORM's CARD OF 'laws.FnReadSubscribe'. -/
def fnReadSubscribeUptoCard : Claim7 := { stood := { row := fnReadSubscribeUptoRow, standIns := [], harness := (true, "d9a0ff82bf7949b53da3716e0842d129ec9b475d5ee2e848f96f4ff96dbe3633"), looks := false }, kinds := [], alts := [], laidByText := true, laidKinds := [.data, .sentinel, .sentinel, .sentinel, .sentinel, .sentinel, .pinned], laidTests := true, laidLooks := .later }
def FnReadSubscribeUptoCardSaid : Prop := Claim7.holds Tryd.pinned (.plain (OpenSpec.upto fnReadSubscribeSpec)) fnReadSubscribeUptoCard

/-- THE SECOND FORM's CARD OF 'laws.FnSubscribeBack'. -/
def fnSubscribeBackUptoCard : Claim7 := { stood := { row := fnSubscribeBackUptoRow, standIns := [], harness := (true, "d9a0ff82bf7949b53da3716e0842d129ec9b475d5ee2e848f96f4ff96dbe3633"), looks := false }, kinds := [], alts := [], laidByText := true, laidKinds := [.data, .sentinel, .sentinel, .sentinel, .sentinel, .sentinel, .pinned], laidTests := true, laidLooks := .later }
def FnSubscribeBackUptoCardSaid : Prop := Claim7.holds Tryd.pinned (.plain (OpenSpec.upto fnSubscribeBackSpec)) fnSubscribeBackUptoCard
end Rows
end Go.Proofs.YtpalhclllhbmkaaDoor
