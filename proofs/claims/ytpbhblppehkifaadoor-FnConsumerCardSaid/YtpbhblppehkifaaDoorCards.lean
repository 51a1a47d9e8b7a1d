/-
  DERIVED. GIVEN WITH THE SEED: THE CARDS: each row of YtpbhblppehkifaaDoorRows.lean that lists a variable, with what it lists TIED to the program's text (the seventh form; the later family's looks); each row that meets fmt, with fmt's text TOLD by the authors' own Lean function (tested against real Go, not proved from fmt's source: count such statements apart). THE CARD IS WHAT COUNTS. Prove the row's statement (the work); the ties are given (YtpbhblppehkifaaDoorTie.lean); close each card by the builder's one call (the guide's Derived/Test/ToyasCard.lean, 'card_holds'). Laid BY PROGRAM, IN A SANDBOX (cutbox-door.mjs). By AI agents, Wed Nov 11 2026. No macro, syntax, notation, axiom, sorry.
-/
import Derived.Test.YtpbhblppehkifaaDoorRows
import GoSem.ClaimSeven
namespace Go.Proofs.YtpbhblppehkifaaDoor
namespace Rows

/-- THE TIED CARD OF 'laws.FnConsumer'. -/
def fnConsumerCard : Claim7 := { stood := { row := fnConsumerRow, standIns := [], harness := (true, "71baac021e65d1f5b5dfa33bb080481ab9b564bf14a9e3887f3d5ba14b1f4731"), looks := false }, kinds := [], alts := [], laidByText := true, laidKinds := [.sentinel, .sentinel, .sentinel, .sentinel], laidTests := true, laidLooks := .later }
def FnConsumerCardSaid : Prop := Claim7.holds Tryd.pinned (.plain (OpenSpec.ofChange fnConsumerSpec)) fnConsumerCard

/-- THE TIED CARD OF 'laws.FnConsumerAll'. -/
def fnConsumerAllCard : Claim7 := { stood := { row := fnConsumerAllRow, standIns := [], harness := (true, "71baac021e65d1f5b5dfa33bb080481ab9b564bf14a9e3887f3d5ba14b1f4731"), looks := false }, kinds := [], alts := [], laidByText := true, laidKinds := [.sentinel, .sentinel, .sentinel, .sentinel], laidTests := true, laidLooks := .later }
def FnConsumerAllCardSaid : Prop := Claim7.holds Tryd.pinned (.plain (OpenSpec.ofChange fnConsumerAllSpec)) fnConsumerAllCard

/-- THE TIED CARD OF 'laws.FnConsumerNone'. -/
def fnConsumerNoneCard : Claim7 := { stood := { row := fnConsumerNoneRow, standIns := [], harness := (true, "71baac021e65d1f5b5dfa33bb080481ab9b564bf14a9e3887f3d5ba14b1f4731"), looks := false }, kinds := [], alts := [], laidByText := true, laidKinds := [.sentinel, .sentinel, .sentinel, .sentinel], laidTests := true, laidLooks := .later }
def FnConsumerNoneCardSaid : Prop := Claim7.holds Tryd.pinned (.plain (OpenSpec.ofChange fnConsumerNoneSpec)) fnConsumerNoneCard

/-- THE TIED CARD OF 'laws.FnConsumerReset'. -/
def fnConsumerResetCard : Claim7 := { stood := { row := fnConsumerResetRow, standIns := [], harness := (true, "71baac021e65d1f5b5dfa33bb080481ab9b564bf14a9e3887f3d5ba14b1f4731"), looks := false }, kinds := [], alts := [], laidByText := true, laidKinds := [.sentinel, .sentinel, .sentinel, .sentinel], laidTests := true, laidLooks := .later }
def FnConsumerResetCardSaid : Prop := Claim7.holds Tryd.pinned (.plain (OpenSpec.ofChange fnConsumerResetSpec)) fnConsumerResetCard

/-- THE SECOND FORM's CARD OF 'laws.FnConsumer'. -/
def fnConsumerUptoCard : Claim7 := { stood := { row := fnConsumerUptoRow, standIns := [], harness := (true, "71baac021e65d1f5b5dfa33bb080481ab9b564bf14a9e3887f3d5ba14b1f4731"), looks := false }, kinds := [], alts := [], laidByText := true, laidKinds := [.sentinel, .sentinel, .sentinel, .sentinel], laidTests := true, laidLooks := .later }
def FnConsumerUptoCardSaid : Prop := Claim7.holds Tryd.pinned (.plain (OpenSpec.upto fnConsumerSpec)) fnConsumerUptoCard

/-- THE SECOND FORM's CARD OF 'laws.FnConsumerAll'. -/
def fnConsumerAllUptoCard : Claim7 := { stood := { row := fnConsumerAllUptoRow, standIns := [], harness := (true, "71baac021e65d1f5b5dfa33bb080481ab9b564bf14a9e3887f3d5ba14b1f4731"), looks := false }, kinds := [], alts := [], laidByText := true, laidKinds := [.sentinel, .sentinel, .sentinel, .sentinel], laidTests := true, laidLooks := .later }
def FnConsumerAllUptoCardSaid : Prop := Claim7.holds Tryd.pinned (.plain (OpenSpec.upto fnConsumerAllSpec)) fnConsumerAllUptoCard

/-- THE SECOND FORM's CARD OF 'laws.FnConsumerNone'. -/
def fnConsumerNoneUptoCard : Claim7 := { stood := { row := fnConsumerNoneUptoRow, standIns := [], harness := (true, "71baac021e65d1f5b5dfa33bb080481ab9b564bf14a9e3887f3d5ba14b1f4731"), looks := false }, kinds := [], alts := [], laidByText := true, laidKinds := [.sentinel, .sentinel, .sentinel, .sentinel], laidTests := true, laidLooks := .later }
def FnConsumerNoneUptoCardSaid : Prop := Claim7.holds Tryd.pinned (.plain (OpenSpec.upto fnConsumerNoneSpec)) fnConsumerNoneUptoCard

/-- THE SECOND FORM's CARD OF 'laws.FnConsumerReset'. -/
def fnConsumerResetUptoCard : Claim7 := { stood := { row := fnConsumerResetUptoRow, standIns := [], harness := (true, "71baac021e65d1f5b5dfa33bb080481ab9b564bf14a9e3887f3d5ba14b1f4731"), looks := false }, kinds := [], alts := [], laidByText := true, laidKinds := [.sentinel, .sentinel, .sentinel, .sentinel], laidTests := true, laidLooks := .later }
def FnConsumerResetUptoCardSaid : Prop := Claim7.holds Tryd.pinned (.plain (OpenSpec.upto fnConsumerResetSpec)) fnConsumerResetUptoCard
end Rows
end Go.Proofs.YtpbhblppehkifaaDoor
