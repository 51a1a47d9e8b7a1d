/-
  DERIVED. GIVEN WITH THE SEED: THE CARDS: each row of YtpiceaehfpljnaaDoorRows.lean that lists a variable, with what it lists TIED to the program's text (the seventh form; the later family's looks); each row that meets fmt, with fmt's text TOLD by the authors' own Lean function (tested against real Go, not proved from fmt's source: count such statements apart). THE CARD IS WHAT COUNTS. Prove the row's statement (the work); the ties are given (YtpiceaehfpljnaaDoorTie.lean); close each card by the builder's one call (the guide's Derived/Test/ToyasCard.lean, 'card_holds'). Laid BY PROGRAM, IN A SANDBOX (cutbox-door.mjs). By AI agents, Wed Nov 11 2026. No macro, syntax, notation, axiom, sorry.
-/
import Derived.Test.YtpiceaehfpljnaaDoorRows
import GoSem.ClaimSeven
namespace Go.Proofs.YtpiceaehfpljnaaDoor
namespace Rows

/-- THE TIED CARD OF 'laws.FnMapPartition'. -/
def fnMapPartitionCard : Claim7 := { stood := { row := fnMapPartitionRow, standIns := [], harness := (true, "d39a512ce573deee94a546ed492a46aa39995e0c65910fb4102c817956172bd9"), looks := true }, kinds := [], alts := [], laidByText := true, laidKinds := [.sentinel, .sentinel, .sentinel, .sentinel, .sentinel, .sentinel, .sentinel, .sentinel, .sentinel, .sentinel], laidTests := true, laidLooks := .later }
def FnMapPartitionCardSaid : Prop := Claim7.holds Tryd.pinned (.plain (OpenSpec.ofChange fnMapPartitionSpec)) fnMapPartitionCard

/-- THE TIED CARD OF 'laws.FnMapWords'. -/
def fnMapWordsCard : Claim7 := { stood := { row := fnMapWordsRow, standIns := [], harness := (true, "d39a512ce573deee94a546ed492a46aa39995e0c65910fb4102c817956172bd9"), looks := true }, kinds := [], alts := [], laidByText := true, laidKinds := [.sentinel, .sentinel, .sentinel, .sentinel, .sentinel, .sentinel, .sentinel, .sentinel, .sentinel, .sentinel], laidTests := true, laidLooks := .later }
def FnMapWordsCardSaid : Prop := Claim7.holds Tryd.pinned (.plain (OpenSpec.ofChange fnMapWordsSpec)) fnMapWordsCard

/-- THE TIED CARD OF 'laws.FnMapWrong'. -/
def fnMapWrongCard : Claim7 := { stood := { row := fnMapWrongRow, standIns := [], harness := (true, "d39a512ce573deee94a546ed492a46aa39995e0c65910fb4102c817956172bd9"), looks := true }, kinds := [], alts := [], laidByText := true, laidKinds := [.sentinel, .sentinel, .sentinel, .sentinel, .sentinel, .sentinel, .sentinel, .sentinel, .sentinel, .sentinel], laidTests := true, laidLooks := .later }
def FnMapWrongCardSaid : Prop := Claim7.holds Tryd.pinned (.plain (OpenSpec.ofChange fnMapWrongSpec)) fnMapWrongCard

/-- THE TIED CARD OF 'laws.FnMapBack'. -/
def fnMapBackCard : Claim7 := { stood := { row := fnMapBackRow, standIns := [], harness := (true, "d39a512ce573deee94a546ed492a46aa39995e0c65910fb4102c817956172bd9"), looks := true }, kinds := [], alts := [], laidByText := true, laidKinds := [.sentinel, .sentinel, .sentinel, .sentinel, .sentinel, .sentinel, .sentinel, .sentinel, .sentinel, .sentinel], laidTests := true, laidLooks := .later }
def FnMapBackCardSaid : Prop := Claim7.holds Tryd.pinned (.plain (OpenSpec.ofChange fnMapBackSpec)) fnMapBackCard

/-- THE SECOND FORM's CARD OF 'laws.FnMapPartition'. -/
def fnMapPartitionUptoCard : Claim7 := { stood := { row := fnMapPartitionUptoRow, standIns := [], harness := (true, "d39a512ce573deee94a546ed492a46aa39995e0c65910fb4102c817956172bd9"), looks := true }, kinds := [], alts := [], laidByText := true, laidKinds := [.sentinel, .sentinel, .sentinel, .sentinel, .sentinel, .sentinel, .sentinel, .sentinel, .sentinel, .sentinel], laidTests := true, laidLooks := .later }
def FnMapPartitionUptoCardSaid : Prop := Claim7.holds Tryd.pinned (.plain (OpenSpec.upto fnMapPartitionSpec)) fnMapPartitionUptoCard

/-- THE SECOND FORM's CARD OF 'laws.FnMapWords'. -/
def fnMapWordsUptoCard : Claim7 := { stood := { row := fnMapWordsUptoRow, standIns := [], harness := (true, "d39a512ce573deee94a546ed492a46aa39995e0c65910fb4102c817956172bd9"), looks := true }, kinds := [], alts := [], laidByText := true, laidKinds := [.sentinel, .sentinel, .sentinel, .sentinel, .sentinel, .sentinel, .sentinel, .sentinel, .sentinel, .sentinel], laidTests := true, laidLooks := .later }
def FnMapWordsUptoCardSaid : Prop := Claim7.holds Tryd.pinned (.plain (OpenSpec.upto fnMapWordsSpec)) fnMapWordsUptoCard

/-- THE SECOND FORM's CARD OF 'laws.FnMapWrong'. -/
def fnMapWrongUptoCard : Claim7 := { stood := { row := fnMapWrongUptoRow, standIns := [], harness := (true, "d39a512ce573deee94a546ed492a46aa39995e0c65910fb4102c817956172bd9"), looks := true }, kinds := [], alts := [], laidByText := true, laidKinds := [.sentinel, .sentinel, .sentinel, .sentinel, .sentinel, .sentinel, .sentinel, .sentinel, .sentinel, .sentinel], laidTests := true, laidLooks := .later }
def FnMapWrongUptoCardSaid : Prop := Claim7.holds Tryd.pinned (.plain (OpenSpec.upto fnMapWrongSpec)) fnMapWrongUptoCard

/-- THE SECOND FORM's CARD OF 'laws.FnMapBack'. -/
def fnMapBackUptoCard : Claim7 := { stood := { row := fnMapBackUptoRow, standIns := [], harness := (true, "d39a512ce573deee94a546ed492a46aa39995e0c65910fb4102c817956172bd9"), looks := true }, kinds := [], alts := [], laidByText := true, laidKinds := [.sentinel, .sentinel, .sentinel, .sentinel, .sentinel, .sentinel, .sentinel, .sentinel, .sentinel, .sentinel], laidTests := true, laidLooks := .later }
def FnMapBackUptoCardSaid : Prop := Claim7.holds Tryd.pinned (.plain (OpenSpec.upto fnMapBackSpec)) fnMapBackUptoCard
end Rows
end Go.Proofs.YtpiceaehfpljnaaDoor
