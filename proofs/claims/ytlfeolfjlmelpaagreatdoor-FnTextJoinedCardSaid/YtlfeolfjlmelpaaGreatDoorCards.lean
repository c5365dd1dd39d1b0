/-
  DERIVED. GIVEN WITH THE SEED: THE CARDS: each row of YtlfeolfjlmelpaaGreatDoorRows.lean that lists a variable, with what it lists TIED to the program's text (the seventh form; the later family's looks); each row that meets fmt, with fmt's text TOLD by the authors' own Lean function (tested against real Go, not proved from fmt's source: count such statements apart). THE CARD IS WHAT COUNTS. Prove the row's statement (the work); the ties are given (YtlfeolfjlmelpaaGreatDoorTie.lean); close each card by the builder's one call (the guide's Derived/Test/ToyasCard.lean, 'card_holds'). Laid BY PROGRAM, IN A SANDBOX (cutbox-door.mjs). By AI agents, Wed Nov 11 2026. No macro, syntax, notation, axiom, sorry.
-/
import Derived.Test.YtlfeolfjlmelpaaGreatDoorRows
import GoSem.ClaimSeven
namespace Go.Proofs.YtlfeolfjlmelpaaGreatDoor
namespace Rows

/-- THE TIED CARD OF 'laws.FnTextHex'. -/
def fnTextHexCard : Claim7 := { stood := { row := fnTextHexRow, standIns := [], harness := (true, "b21b171b9203c5b8a99740dda4cf9af288c385e379f469026bcf4faa27785c40"), looks := true }, kinds := [], alts := [], laidByText := true, laidKinds := [.data, .data, .widerDeep, .widerDeep, .data, .data, .data, .data, .data, .data, .sentinel, .sentinel, .sentinel, .pinned, .pinned, .pinned, .pinned], laidTests := true, laidLooks := .later }
def FnTextHexCardSaid : Prop := Claim7.holds Tryz.pinned (.plain (OpenSpec.ofChange fnTextHexSpec)) fnTextHexCard

/-- THE TIED CARD OF 'laws.FnTextInts'. -/
def fnTextIntsCard : Claim7 := { stood := { row := fnTextIntsRow, standIns := [], harness := (true, "b21b171b9203c5b8a99740dda4cf9af288c385e379f469026bcf4faa27785c40"), looks := true }, kinds := [], alts := [], laidByText := true, laidKinds := [.data, .data, .widerDeep, .widerDeep, .data, .data, .data, .data, .data, .data, .sentinel, .sentinel, .sentinel, .pinned, .pinned, .pinned, .pinned], laidTests := true, laidLooks := .later }
def FnTextIntsCardSaid : Prop := Claim7.holds Tryz.pinned (.plain (OpenSpec.ofChange fnTextIntsSpec)) fnTextIntsCard

/-- THE TIED CARD OF 'laws.FnTextUints'. -/
def fnTextUintsCard : Claim7 := { stood := { row := fnTextUintsRow, standIns := [], harness := (true, "b21b171b9203c5b8a99740dda4cf9af288c385e379f469026bcf4faa27785c40"), looks := true }, kinds := [], alts := [], laidByText := true, laidKinds := [.data, .data, .widerDeep, .widerDeep, .data, .data, .data, .data, .data, .data, .sentinel, .sentinel, .sentinel, .pinned, .pinned, .pinned, .pinned], laidTests := true, laidLooks := .later }
def FnTextUintsCardSaid : Prop := Claim7.holds Tryz.pinned (.plain (OpenSpec.ofChange fnTextUintsSpec)) fnTextUintsCard

/-- THE TIED CARD OF 'laws.FnTextJoined'. -/
def fnTextJoinedCard : Claim7 := { stood := { row := fnTextJoinedRow, standIns := [], harness := (true, "b21b171b9203c5b8a99740dda4cf9af288c385e379f469026bcf4faa27785c40"), looks := true }, kinds := [], alts := [], laidByText := true, laidKinds := [.data, .data, .widerDeep, .widerDeep, .data, .data, .data, .data, .data, .data, .sentinel, .sentinel, .sentinel, .pinned, .pinned, .pinned, .pinned], laidTests := true, laidLooks := .later }
def FnTextJoinedCardSaid : Prop := Claim7.holds Tryz.pinned (.plain (OpenSpec.ofChange fnTextJoinedSpec)) fnTextJoinedCard

/-- THE TIED CARD OF 'laws.FnJsonBack'. -/
def fnJsonBackCard : Claim7 := { stood := { row := fnJsonBackRow, standIns := [], harness := (true, "b21b171b9203c5b8a99740dda4cf9af288c385e379f469026bcf4faa27785c40"), looks := true }, kinds := [], alts := [], laidByText := true, laidKinds := [.data, .data, .widerDeep, .widerDeep, .data, .data, .data, .data, .data, .data, .sentinel, .sentinel, .sentinel, .sentinel, .pinned, .pinned, .pinned], laidTests := true, laidLooks := .later }
def FnJsonBackCardSaid : Prop := Claim7.holds Tryz.pinned (.plain (OpenSpec.ofChange fnJsonBackSpec)) fnJsonBackCard

/-- THE TIED CARD OF 'laws.FnJsonRound'. -/
def fnJsonRoundCard : Claim7 := { stood := { row := fnJsonRoundRow, standIns := [], harness := (true, "b21b171b9203c5b8a99740dda4cf9af288c385e379f469026bcf4faa27785c40"), looks := true }, kinds := [], alts := [], laidByText := true, laidKinds := [.data, .data, .widerDeep, .widerDeep, .data, .data, .data, .data, .data, .data, .sentinel, .sentinel, .sentinel, .sentinel, .pinned, .pinned, .pinned], laidTests := true, laidLooks := .later }
def FnJsonRoundCardSaid : Prop := Claim7.holds Tryz.pinned (.plain (OpenSpec.ofChange fnJsonRoundSpec)) fnJsonRoundCard

/-- THE SECOND FORM's CARD OF 'laws.FnTextHex'. -/
def fnTextHexUptoCard : Claim7 := { stood := { row := fnTextHexUptoRow, standIns := [], harness := (true, "b21b171b9203c5b8a99740dda4cf9af288c385e379f469026bcf4faa27785c40"), looks := true }, kinds := [], alts := [], laidByText := true, laidKinds := [.data, .data, .widerDeep, .widerDeep, .data, .data, .data, .data, .data, .data, .sentinel, .sentinel, .sentinel, .pinned, .pinned, .pinned, .pinned], laidTests := true, laidLooks := .later }
def FnTextHexUptoCardSaid : Prop := Claim7.holds Tryz.pinned (.plain (OpenSpec.upto fnTextHexSpec)) fnTextHexUptoCard

/-- THE SECOND FORM's CARD OF 'laws.FnTextInts'. -/
def fnTextIntsUptoCard : Claim7 := { stood := { row := fnTextIntsUptoRow, standIns := [], harness := (true, "b21b171b9203c5b8a99740dda4cf9af288c385e379f469026bcf4faa27785c40"), looks := true }, kinds := [], alts := [], laidByText := true, laidKinds := [.data, .data, .widerDeep, .widerDeep, .data, .data, .data, .data, .data, .data, .sentinel, .sentinel, .sentinel, .pinned, .pinned, .pinned, .pinned], laidTests := true, laidLooks := .later }
def FnTextIntsUptoCardSaid : Prop := Claim7.holds Tryz.pinned (.plain (OpenSpec.upto fnTextIntsSpec)) fnTextIntsUptoCard

/-- THE SECOND FORM's CARD OF 'laws.FnTextUints'. -/
def fnTextUintsUptoCard : Claim7 := { stood := { row := fnTextUintsUptoRow, standIns := [], harness := (true, "b21b171b9203c5b8a99740dda4cf9af288c385e379f469026bcf4faa27785c40"), looks := true }, kinds := [], alts := [], laidByText := true, laidKinds := [.data, .data, .widerDeep, .widerDeep, .data, .data, .data, .data, .data, .data, .sentinel, .sentinel, .sentinel, .pinned, .pinned, .pinned, .pinned], laidTests := true, laidLooks := .later }
def FnTextUintsUptoCardSaid : Prop := Claim7.holds Tryz.pinned (.plain (OpenSpec.upto fnTextUintsSpec)) fnTextUintsUptoCard

/-- THE SECOND FORM's CARD OF 'laws.FnTextJoined'. -/
def fnTextJoinedUptoCard : Claim7 := { stood := { row := fnTextJoinedUptoRow, standIns := [], harness := (true, "b21b171b9203c5b8a99740dda4cf9af288c385e379f469026bcf4faa27785c40"), looks := true }, kinds := [], alts := [], laidByText := true, laidKinds := [.data, .data, .widerDeep, .widerDeep, .data, .data, .data, .data, .data, .data, .sentinel, .sentinel, .sentinel, .pinned, .pinned, .pinned, .pinned], laidTests := true, laidLooks := .later }
def FnTextJoinedUptoCardSaid : Prop := Claim7.holds Tryz.pinned (.plain (OpenSpec.upto fnTextJoinedSpec)) fnTextJoinedUptoCard

/-- THE SECOND FORM's CARD OF 'laws.FnJsonBack'. -/
def fnJsonBackUptoCard : Claim7 := { stood := { row := fnJsonBackUptoRow, standIns := [], harness := (true, "b21b171b9203c5b8a99740dda4cf9af288c385e379f469026bcf4faa27785c40"), looks := true }, kinds := [], alts := [], laidByText := true, laidKinds := [.data, .data, .widerDeep, .widerDeep, .data, .data, .data, .data, .data, .data, .sentinel, .sentinel, .sentinel, .sentinel, .pinned, .pinned, .pinned], laidTests := true, laidLooks := .later }
def FnJsonBackUptoCardSaid : Prop := Claim7.holds Tryz.pinned (.plain (OpenSpec.upto fnJsonBackSpec)) fnJsonBackUptoCard

/-- THE SECOND FORM's CARD OF 'laws.FnJsonRound'. -/
def fnJsonRoundUptoCard : Claim7 := { stood := { row := fnJsonRoundUptoRow, standIns := [], harness := (true, "b21b171b9203c5b8a99740dda4cf9af288c385e379f469026bcf4faa27785c40"), looks := true }, kinds := [], alts := [], laidByText := true, laidKinds := [.data, .data, .widerDeep, .widerDeep, .data, .data, .data, .data, .data, .data, .sentinel, .sentinel, .sentinel, .sentinel, .pinned, .pinned, .pinned], laidTests := true, laidLooks := .later }
def FnJsonRoundUptoCardSaid : Prop := Claim7.holds Tryz.pinned (.plain (OpenSpec.upto fnJsonRoundSpec)) fnJsonRoundUptoCard
end Rows
end Go.Proofs.YtlfeolfjlmelpaaGreatDoor
