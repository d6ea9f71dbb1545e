/-
  DERIVED. GIVEN WITH THE SEED: THE CARDS: each row of YtjganhmbjffjfaaGreatDoorRows.lean that lists a variable, with what it lists TIED to the program's text (the seventh form; the later family's looks); each row that meets fmt, with fmt's text TOLD by the authors' own Lean function (tested against real Go, not proved from fmt's source: count such statements apart). THE CARD IS WHAT COUNTS. Prove the row's statement (the work); the ties are given (YtjganhmbjffjfaaGreatDoorTie.lean); close each card by the builder's one call (the guide's Derived/Test/ToyasCard.lean, 'card_holds'). Laid BY PROGRAM, IN A SANDBOX (cutbox-door.mjs). By AI agents, Wed Nov 11 2026. No macro, syntax, notation, axiom, sorry.
-/
import Derived.Test.YtjganhmbjffjfaaGreatDoorRows
import GoSem.ClaimSeven
namespace Go.Proofs.YtjganhmbjffjfaaGreatDoor
namespace Rows

/-- THE TIED CARD OF 'laws.FnCanonParts'. -/
def fnCanonPartsCard : Claim7 := { stood := { row := fnCanonPartsRow, standIns := [], harness := (true, "a629147119de596a5d82fee5b4caf6a4767b7d9b550a92c00452b1df7b693d14"), looks := true }, kinds := [], alts := [], laidByText := true, laidKinds := [.data, .data, .widerDeep, .widerDeep, .data, .data, .data, .data, .data, .data, .sentinel, .sentinel, .sentinel, .pinned, .pinned, .pinned], laidTests := true, laidLooks := .later }
def FnCanonPartsCardSaid : Prop := Claim7.holds Tryz.pinned (.plain (OpenSpec.ofChange fnCanonPartsSpec)) fnCanonPartsCard

/-- THE TIED CARD OF 'laws.FnCanonTurned'. -/
def fnCanonTurnedCard : Claim7 := { stood := { row := fnCanonTurnedRow, standIns := [], harness := (true, "a629147119de596a5d82fee5b4caf6a4767b7d9b550a92c00452b1df7b693d14"), looks := true }, kinds := [], alts := [], laidByText := true, laidKinds := [.data, .data, .widerDeep, .widerDeep, .data, .data, .data, .data, .data, .data, .sentinel, .sentinel, .sentinel, .pinned, .pinned, .pinned], laidTests := true, laidLooks := .later }
def FnCanonTurnedCardSaid : Prop := Claim7.holds Tryz.pinned (.plain (OpenSpec.ofChange fnCanonTurnedSpec)) fnCanonTurnedCard

/-- THE TIED CARD OF 'laws.FnExactCanon'. -/
def fnExactCanonCard : Claim7 := { stood := { row := fnExactCanonRow, standIns := [], harness := (true, "a629147119de596a5d82fee5b4caf6a4767b7d9b550a92c00452b1df7b693d14"), looks := true }, kinds := [], alts := [], laidByText := true, laidKinds := [.data, .data, .widerDeep, .widerDeep, .data, .data, .data, .data, .data, .data, .sentinel, .sentinel, .sentinel, .pinned, .pinned, .pinned], laidTests := true, laidLooks := .later }
def FnExactCanonCardSaid : Prop := Claim7.holds Tryz.pinned (.plain (OpenSpec.ofChange fnExactCanonSpec)) fnExactCanonCard

/-- THE TIED CARD OF 'laws.FnThreshold'. -/
def fnThresholdCard : Claim7 := { stood := { row := fnThresholdRow, standIns := [], harness := (true, "a629147119de596a5d82fee5b4caf6a4767b7d9b550a92c00452b1df7b693d14"), looks := true }, kinds := [], alts := [], laidByText := true, laidKinds := [.data, .data, .widerDeep, .widerDeep, .data, .data, .data, .data, .data, .data, .sentinel, .sentinel, .sentinel, .pinned, .pinned, .pinned], laidTests := true, laidLooks := .later }
def FnThresholdCardSaid : Prop := Claim7.holds Tryz.pinned (.plain (OpenSpec.ofChange fnThresholdSpec)) fnThresholdCard

/-- THE TIED CARD OF 'laws.FnDelegateTwice'. -/
def fnDelegateTwiceCard : Claim7 := { stood := { row := fnDelegateTwiceRow, standIns := [], harness := (true, "a629147119de596a5d82fee5b4caf6a4767b7d9b550a92c00452b1df7b693d14"), looks := true }, kinds := [], alts := [], laidByText := true, laidKinds := [.data, .data, .widerDeep, .widerDeep, .data, .data, .data, .data, .data, .data, .sentinel, .sentinel, .sentinel, .pinned, .pinned, .pinned], laidTests := true, laidLooks := .later }
def FnDelegateTwiceCardSaid : Prop := Claim7.holds Tryz.pinned (.plain (OpenSpec.ofChange fnDelegateTwiceSpec)) fnDelegateTwiceCard

/-- THE TIED CARD OF 'laws.FnAddKey'. -/
def fnAddKeyCard : Claim7 := { stood := { row := fnAddKeyRow, standIns := [], harness := (true, "a629147119de596a5d82fee5b4caf6a4767b7d9b550a92c00452b1df7b693d14"), looks := true }, kinds := [], alts := [], laidByText := true, laidKinds := [.data, .data, .widerDeep, .widerDeep, .data, .data, .data, .data, .data, .data, .sentinel, .sentinel, .sentinel, .pinned, .pinned, .pinned], laidTests := true, laidLooks := .later }
def FnAddKeyCardSaid : Prop := Claim7.holds Tryz.pinned (.plain (OpenSpec.ofChange fnAddKeySpec)) fnAddKeyCard

/-- THE SECOND FORM's CARD OF 'laws.FnCanonParts'. -/
def fnCanonPartsUptoCard : Claim7 := { stood := { row := fnCanonPartsUptoRow, standIns := [], harness := (true, "a629147119de596a5d82fee5b4caf6a4767b7d9b550a92c00452b1df7b693d14"), looks := true }, kinds := [], alts := [], laidByText := true, laidKinds := [.data, .data, .widerDeep, .widerDeep, .data, .data, .data, .data, .data, .data, .sentinel, .sentinel, .sentinel, .pinned, .pinned, .pinned], laidTests := true, laidLooks := .later }
def FnCanonPartsUptoCardSaid : Prop := Claim7.holds Tryz.pinned (.plain (OpenSpec.upto fnCanonPartsSpec)) fnCanonPartsUptoCard

/-- THE SECOND FORM's CARD OF 'laws.FnCanonTurned'. -/
def fnCanonTurnedUptoCard : Claim7 := { stood := { row := fnCanonTurnedUptoRow, standIns := [], harness := (true, "a629147119de596a5d82fee5b4caf6a4767b7d9b550a92c00452b1df7b693d14"), looks := true }, kinds := [], alts := [], laidByText := true, laidKinds := [.data, .data, .widerDeep, .widerDeep, .data, .data, .data, .data, .data, .data, .sentinel, .sentinel, .sentinel, .pinned, .pinned, .pinned], laidTests := true, laidLooks := .later }
def FnCanonTurnedUptoCardSaid : Prop := Claim7.holds Tryz.pinned (.plain (OpenSpec.upto fnCanonTurnedSpec)) fnCanonTurnedUptoCard

/-- THE SECOND FORM's CARD OF 'laws.FnExactCanon'. -/
def fnExactCanonUptoCard : Claim7 := { stood := { row := fnExactCanonUptoRow, standIns := [], harness := (true, "a629147119de596a5d82fee5b4caf6a4767b7d9b550a92c00452b1df7b693d14"), looks := true }, kinds := [], alts := [], laidByText := true, laidKinds := [.data, .data, .widerDeep, .widerDeep, .data, .data, .data, .data, .data, .data, .sentinel, .sentinel, .sentinel, .pinned, .pinned, .pinned], laidTests := true, laidLooks := .later }
def FnExactCanonUptoCardSaid : Prop := Claim7.holds Tryz.pinned (.plain (OpenSpec.upto fnExactCanonSpec)) fnExactCanonUptoCard

/-- THE SECOND FORM's CARD OF 'laws.FnThreshold'. -/
def fnThresholdUptoCard : Claim7 := { stood := { row := fnThresholdUptoRow, standIns := [], harness := (true, "a629147119de596a5d82fee5b4caf6a4767b7d9b550a92c00452b1df7b693d14"), looks := true }, kinds := [], alts := [], laidByText := true, laidKinds := [.data, .data, .widerDeep, .widerDeep, .data, .data, .data, .data, .data, .data, .sentinel, .sentinel, .sentinel, .pinned, .pinned, .pinned], laidTests := true, laidLooks := .later }
def FnThresholdUptoCardSaid : Prop := Claim7.holds Tryz.pinned (.plain (OpenSpec.upto fnThresholdSpec)) fnThresholdUptoCard

/-- THE SECOND FORM's CARD OF 'laws.FnDelegateTwice'. -/
def fnDelegateTwiceUptoCard : Claim7 := { stood := { row := fnDelegateTwiceUptoRow, standIns := [], harness := (true, "a629147119de596a5d82fee5b4caf6a4767b7d9b550a92c00452b1df7b693d14"), looks := true }, kinds := [], alts := [], laidByText := true, laidKinds := [.data, .data, .widerDeep, .widerDeep, .data, .data, .data, .data, .data, .data, .sentinel, .sentinel, .sentinel, .pinned, .pinned, .pinned], laidTests := true, laidLooks := .later }
def FnDelegateTwiceUptoCardSaid : Prop := Claim7.holds Tryz.pinned (.plain (OpenSpec.upto fnDelegateTwiceSpec)) fnDelegateTwiceUptoCard

/-- THE SECOND FORM's CARD OF 'laws.FnAddKey'. -/
def fnAddKeyUptoCard : Claim7 := { stood := { row := fnAddKeyUptoRow, standIns := [], harness := (true, "a629147119de596a5d82fee5b4caf6a4767b7d9b550a92c00452b1df7b693d14"), looks := true }, kinds := [], alts := [], laidByText := true, laidKinds := [.data, .data, .widerDeep, .widerDeep, .data, .data, .data, .data, .data, .data, .sentinel, .sentinel, .sentinel, .pinned, .pinned, .pinned], laidTests := true, laidLooks := .later }
def FnAddKeyUptoCardSaid : Prop := Claim7.holds Tryz.pinned (.plain (OpenSpec.upto fnAddKeySpec)) fnAddKeyUptoCard
end Rows
end Go.Proofs.YtjganhmbjffjfaaGreatDoor
