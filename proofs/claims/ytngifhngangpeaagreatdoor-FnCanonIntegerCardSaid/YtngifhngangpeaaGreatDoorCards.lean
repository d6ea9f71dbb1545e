/-
  DERIVED. GIVEN WITH THE SEED: THE CARDS: each row of YtngifhngangpeaaGreatDoorRows.lean that lists a variable, with what it lists TIED to the program's text (the seventh form; the later family's looks); each row that meets fmt, with fmt's text TOLD by the authors' own Lean function (tested against real Go, not proved from fmt's source: count such statements apart). THE CARD IS WHAT COUNTS. Prove the row's statement (the work); the ties are given (YtngifhngangpeaaGreatDoorTie.lean); close each card by the builder's one call (the guide's Derived/Test/ToyasCard.lean, 'card_holds'). Laid BY PROGRAM, IN A SANDBOX (cutbox-door.mjs). By AI agents, Wed Nov 11 2026. No macro, syntax, notation, axiom, sorry.
-/
import Derived.Test.YtngifhngangpeaaGreatDoorRows
import GoSem.ClaimSeven
namespace Go.Proofs.YtngifhngangpeaaGreatDoor
namespace Rows

/-- THE TIED CARD OF 'laws.FnExactPAE'. -/
def fnExactPAECard : Claim7 := { stood := { row := fnExactPAERow, standIns := [], harness := (true, "717241d73763ecd97ebc1dc5bfec5c06fd2167fa4d60ea2e3e06ae8a70052086"), looks := true }, kinds := [], alts := [], laidByText := true, laidKinds := [.data, .data, .widerDeep, .widerDeep, .data, .data, .data, .data, .data, .data, .sentinel, .sentinel, .sentinel, .pinned, .pinned, .pinned], laidTests := true, laidLooks := .later }
def FnExactPAECardSaid : Prop := Claim7.holds Tryz.pinned (.plain (OpenSpec.ofChange fnExactPAESpec)) fnExactPAECard

/-- THE TIED CARD OF 'laws.FnExactErrorIs'. -/
def fnExactErrorIsCard : Claim7 := { stood := { row := fnExactErrorIsRow, standIns := [], harness := (true, "717241d73763ecd97ebc1dc5bfec5c06fd2167fa4d60ea2e3e06ae8a70052086"), looks := true }, kinds := [], alts := [], laidByText := true, laidKinds := [.data, .data, .widerDeep, .widerDeep, .data, .data, .data, .data, .data, .data, .sentinel, .sentinel, .sentinel, .pinned, .pinned, .pinned], laidTests := true, laidLooks := .later }
def FnExactErrorIsCardSaid : Prop := Claim7.holds Tryz.pinned (.plain (OpenSpec.ofChange fnExactErrorIsSpec)) fnExactErrorIsCard

/-- THE TIED CARD OF 'laws.FnCanonInteger'. -/
def fnCanonIntegerCard : Claim7 := { stood := { row := fnCanonIntegerRow, standIns := [], harness := (true, "717241d73763ecd97ebc1dc5bfec5c06fd2167fa4d60ea2e3e06ae8a70052086"), looks := true }, kinds := [], alts := [], laidByText := true, laidKinds := [.data, .data, .widerDeep, .widerDeep, .data, .data, .data, .data, .data, .data, .sentinel, .sentinel, .sentinel, .pinned, .pinned, .pinned], laidTests := true, laidLooks := .later }
def FnCanonIntegerCardSaid : Prop := Claim7.holds Tryz.pinned (.plain (OpenSpec.ofChange fnCanonIntegerSpec)) fnCanonIntegerCard

/-- THE TIED CARD OF 'laws.FnCanonRefuses'. -/
def fnCanonRefusesCard : Claim7 := { stood := { row := fnCanonRefusesRow, standIns := [], harness := (true, "717241d73763ecd97ebc1dc5bfec5c06fd2167fa4d60ea2e3e06ae8a70052086"), looks := true }, kinds := [], alts := [], laidByText := true, laidKinds := [.data, .data, .widerDeep, .widerDeep, .data, .data, .data, .data, .data, .data, .sentinel, .sentinel, .sentinel, .pinned, .pinned, .pinned], laidTests := true, laidLooks := .later }
def FnCanonRefusesCardSaid : Prop := Claim7.holds Tryz.pinned (.plain (OpenSpec.ofChange fnCanonRefusesSpec)) fnCanonRefusesCard

/-- THE TIED CARD OF 'laws.FnCanonParts'. -/
def fnCanonPartsCard : Claim7 := { stood := { row := fnCanonPartsRow, standIns := [], harness := (true, "717241d73763ecd97ebc1dc5bfec5c06fd2167fa4d60ea2e3e06ae8a70052086"), looks := true }, kinds := [], alts := [], laidByText := true, laidKinds := [.data, .data, .widerDeep, .widerDeep, .data, .data, .data, .data, .data, .data, .sentinel, .sentinel, .sentinel, .pinned, .pinned, .pinned], laidTests := true, laidLooks := .later }
def FnCanonPartsCardSaid : Prop := Claim7.holds Tryz.pinned (.plain (OpenSpec.ofChange fnCanonPartsSpec)) fnCanonPartsCard

/-- THE TIED CARD OF 'laws.FnCanonTurned'. -/
def fnCanonTurnedCard : Claim7 := { stood := { row := fnCanonTurnedRow, standIns := [], harness := (true, "717241d73763ecd97ebc1dc5bfec5c06fd2167fa4d60ea2e3e06ae8a70052086"), looks := true }, kinds := [], alts := [], laidByText := true, laidKinds := [.data, .data, .widerDeep, .widerDeep, .data, .data, .data, .data, .data, .data, .sentinel, .sentinel, .sentinel, .pinned, .pinned, .pinned], laidTests := true, laidLooks := .later }
def FnCanonTurnedCardSaid : Prop := Claim7.holds Tryz.pinned (.plain (OpenSpec.ofChange fnCanonTurnedSpec)) fnCanonTurnedCard

/-- THE TIED CARD OF 'laws.FnExactCanon'. -/
def fnExactCanonCard : Claim7 := { stood := { row := fnExactCanonRow, standIns := [], harness := (true, "717241d73763ecd97ebc1dc5bfec5c06fd2167fa4d60ea2e3e06ae8a70052086"), looks := true }, kinds := [], alts := [], laidByText := true, laidKinds := [.data, .data, .widerDeep, .widerDeep, .data, .data, .data, .data, .data, .data, .sentinel, .sentinel, .sentinel, .pinned, .pinned, .pinned], laidTests := true, laidLooks := .later }
def FnExactCanonCardSaid : Prop := Claim7.holds Tryz.pinned (.plain (OpenSpec.ofChange fnExactCanonSpec)) fnExactCanonCard

/-- THE TIED CARD OF 'laws.FnTransformString'. -/
def fnTransformStringCard : Claim7 := { stood := { row := fnTransformStringRow, standIns := [], harness := (true, "717241d73763ecd97ebc1dc5bfec5c06fd2167fa4d60ea2e3e06ae8a70052086"), looks := true }, kinds := [], alts := [], laidByText := true, laidKinds := [.data, .data, .widerDeep, .widerDeep, .data, .data, .data, .data, .data, .data, .sentinel, .sentinel, .sentinel, .pinned, .pinned, .pinned], laidTests := true, laidLooks := .later }
def FnTransformStringCardSaid : Prop := Claim7.holds Tryz.pinned (.plain (OpenSpec.ofChange fnTransformStringSpec)) fnTransformStringCard

/-- THE TIED CARD OF 'laws.FnTransformHalves'. -/
def fnTransformHalvesCard : Claim7 := { stood := { row := fnTransformHalvesRow, standIns := [], harness := (true, "717241d73763ecd97ebc1dc5bfec5c06fd2167fa4d60ea2e3e06ae8a70052086"), looks := true }, kinds := [], alts := [], laidByText := true, laidKinds := [.data, .data, .widerDeep, .widerDeep, .data, .data, .data, .data, .data, .data, .sentinel, .sentinel, .sentinel, .pinned, .pinned, .pinned], laidTests := true, laidLooks := .later }
def FnTransformHalvesCardSaid : Prop := Claim7.holds Tryz.pinned (.plain (OpenSpec.ofChange fnTransformHalvesSpec)) fnTransformHalvesCard

/-- THE SECOND FORM's CARD OF 'laws.FnExactPAE'. -/
def fnExactPAEUptoCard : Claim7 := { stood := { row := fnExactPAEUptoRow, standIns := [], harness := (true, "717241d73763ecd97ebc1dc5bfec5c06fd2167fa4d60ea2e3e06ae8a70052086"), looks := true }, kinds := [], alts := [], laidByText := true, laidKinds := [.data, .data, .widerDeep, .widerDeep, .data, .data, .data, .data, .data, .data, .sentinel, .sentinel, .sentinel, .pinned, .pinned, .pinned], laidTests := true, laidLooks := .later }
def FnExactPAEUptoCardSaid : Prop := Claim7.holds Tryz.pinned (.plain (OpenSpec.upto fnExactPAESpec)) fnExactPAEUptoCard

/-- THE SECOND FORM's CARD OF 'laws.FnExactErrorIs'. -/
def fnExactErrorIsUptoCard : Claim7 := { stood := { row := fnExactErrorIsUptoRow, standIns := [], harness := (true, "717241d73763ecd97ebc1dc5bfec5c06fd2167fa4d60ea2e3e06ae8a70052086"), looks := true }, kinds := [], alts := [], laidByText := true, laidKinds := [.data, .data, .widerDeep, .widerDeep, .data, .data, .data, .data, .data, .data, .sentinel, .sentinel, .sentinel, .pinned, .pinned, .pinned], laidTests := true, laidLooks := .later }
def FnExactErrorIsUptoCardSaid : Prop := Claim7.holds Tryz.pinned (.plain (OpenSpec.upto fnExactErrorIsSpec)) fnExactErrorIsUptoCard

/-- THE SECOND FORM's CARD OF 'laws.FnCanonInteger'. -/
def fnCanonIntegerUptoCard : Claim7 := { stood := { row := fnCanonIntegerUptoRow, standIns := [], harness := (true, "717241d73763ecd97ebc1dc5bfec5c06fd2167fa4d60ea2e3e06ae8a70052086"), looks := true }, kinds := [], alts := [], laidByText := true, laidKinds := [.data, .data, .widerDeep, .widerDeep, .data, .data, .data, .data, .data, .data, .sentinel, .sentinel, .sentinel, .pinned, .pinned, .pinned], laidTests := true, laidLooks := .later }
def FnCanonIntegerUptoCardSaid : Prop := Claim7.holds Tryz.pinned (.plain (OpenSpec.upto fnCanonIntegerSpec)) fnCanonIntegerUptoCard

/-- THE SECOND FORM's CARD OF 'laws.FnCanonRefuses'. -/
def fnCanonRefusesUptoCard : Claim7 := { stood := { row := fnCanonRefusesUptoRow, standIns := [], harness := (true, "717241d73763ecd97ebc1dc5bfec5c06fd2167fa4d60ea2e3e06ae8a70052086"), looks := true }, kinds := [], alts := [], laidByText := true, laidKinds := [.data, .data, .widerDeep, .widerDeep, .data, .data, .data, .data, .data, .data, .sentinel, .sentinel, .sentinel, .pinned, .pinned, .pinned], laidTests := true, laidLooks := .later }
def FnCanonRefusesUptoCardSaid : Prop := Claim7.holds Tryz.pinned (.plain (OpenSpec.upto fnCanonRefusesSpec)) fnCanonRefusesUptoCard

/-- THE SECOND FORM's CARD OF 'laws.FnCanonParts'. -/
def fnCanonPartsUptoCard : Claim7 := { stood := { row := fnCanonPartsUptoRow, standIns := [], harness := (true, "717241d73763ecd97ebc1dc5bfec5c06fd2167fa4d60ea2e3e06ae8a70052086"), looks := true }, kinds := [], alts := [], laidByText := true, laidKinds := [.data, .data, .widerDeep, .widerDeep, .data, .data, .data, .data, .data, .data, .sentinel, .sentinel, .sentinel, .pinned, .pinned, .pinned], laidTests := true, laidLooks := .later }
def FnCanonPartsUptoCardSaid : Prop := Claim7.holds Tryz.pinned (.plain (OpenSpec.upto fnCanonPartsSpec)) fnCanonPartsUptoCard

/-- THE SECOND FORM's CARD OF 'laws.FnCanonTurned'. -/
def fnCanonTurnedUptoCard : Claim7 := { stood := { row := fnCanonTurnedUptoRow, standIns := [], harness := (true, "717241d73763ecd97ebc1dc5bfec5c06fd2167fa4d60ea2e3e06ae8a70052086"), looks := true }, kinds := [], alts := [], laidByText := true, laidKinds := [.data, .data, .widerDeep, .widerDeep, .data, .data, .data, .data, .data, .data, .sentinel, .sentinel, .sentinel, .pinned, .pinned, .pinned], laidTests := true, laidLooks := .later }
def FnCanonTurnedUptoCardSaid : Prop := Claim7.holds Tryz.pinned (.plain (OpenSpec.upto fnCanonTurnedSpec)) fnCanonTurnedUptoCard

/-- THE SECOND FORM's CARD OF 'laws.FnExactCanon'. -/
def fnExactCanonUptoCard : Claim7 := { stood := { row := fnExactCanonUptoRow, standIns := [], harness := (true, "717241d73763ecd97ebc1dc5bfec5c06fd2167fa4d60ea2e3e06ae8a70052086"), looks := true }, kinds := [], alts := [], laidByText := true, laidKinds := [.data, .data, .widerDeep, .widerDeep, .data, .data, .data, .data, .data, .data, .sentinel, .sentinel, .sentinel, .pinned, .pinned, .pinned], laidTests := true, laidLooks := .later }
def FnExactCanonUptoCardSaid : Prop := Claim7.holds Tryz.pinned (.plain (OpenSpec.upto fnExactCanonSpec)) fnExactCanonUptoCard

/-- THE SECOND FORM's CARD OF 'laws.FnTransformString'. -/
def fnTransformStringUptoCard : Claim7 := { stood := { row := fnTransformStringUptoRow, standIns := [], harness := (true, "717241d73763ecd97ebc1dc5bfec5c06fd2167fa4d60ea2e3e06ae8a70052086"), looks := true }, kinds := [], alts := [], laidByText := true, laidKinds := [.data, .data, .widerDeep, .widerDeep, .data, .data, .data, .data, .data, .data, .sentinel, .sentinel, .sentinel, .pinned, .pinned, .pinned], laidTests := true, laidLooks := .later }
def FnTransformStringUptoCardSaid : Prop := Claim7.holds Tryz.pinned (.plain (OpenSpec.upto fnTransformStringSpec)) fnTransformStringUptoCard

/-- THE SECOND FORM's CARD OF 'laws.FnTransformHalves'. -/
def fnTransformHalvesUptoCard : Claim7 := { stood := { row := fnTransformHalvesUptoRow, standIns := [], harness := (true, "717241d73763ecd97ebc1dc5bfec5c06fd2167fa4d60ea2e3e06ae8a70052086"), looks := true }, kinds := [], alts := [], laidByText := true, laidKinds := [.data, .data, .widerDeep, .widerDeep, .data, .data, .data, .data, .data, .data, .sentinel, .sentinel, .sentinel, .pinned, .pinned, .pinned], laidTests := true, laidLooks := .later }
def FnTransformHalvesUptoCardSaid : Prop := Claim7.holds Tryz.pinned (.plain (OpenSpec.upto fnTransformHalvesSpec)) fnTransformHalvesUptoCard
end Rows
end Go.Proofs.YtngifhngangpeaaGreatDoor
