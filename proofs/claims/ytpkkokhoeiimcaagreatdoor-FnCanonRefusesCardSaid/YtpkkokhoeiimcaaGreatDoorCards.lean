/-
  DERIVED. GIVEN WITH THE SEED: THE CARDS: each row of YtpkkokhoeiimcaaGreatDoorRows.lean that lists a variable, with what it lists TIED to the program's text (the seventh form; the later family's looks); each row that meets fmt, with fmt's text TOLD by the authors' own Lean function (tested against real Go, not proved from fmt's source: count such statements apart). THE CARD IS WHAT COUNTS. Prove the row's statement (the work); the ties are given (YtpkkokhoeiimcaaGreatDoorTie.lean); close each card by the builder's one call (the guide's Derived/Test/ToyasCard.lean, 'card_holds'). Laid BY PROGRAM, IN A SANDBOX (cutbox-door.mjs). By AI agents, Wed Nov 11 2026. No macro, syntax, notation, axiom, sorry.
-/
import Derived.Test.YtpkkokhoeiimcaaGreatDoorRows
import GoSem.ClaimSeven
namespace Go.Proofs.YtpkkokhoeiimcaaGreatDoor
namespace Rows

/-- THE TIED CARD OF 'laws.FnTransformString'. -/
def fnTransformStringCard : Claim7 := { stood := { row := fnTransformStringRow, standIns := [], harness := (true, "353220d5c2ae7e7d225d8d857a55baa9fd0367fa59144c0d13823aba7feaa28d"), looks := true }, kinds := [], alts := [], laidByText := true, laidKinds := [.data, .data, .widerDeep, .widerDeep, .data, .data, .data, .data, .data, .data, .sentinel, .sentinel, .sentinel, .pinned, .pinned, .pinned], laidTests := true, laidLooks := .later }
def FnTransformStringCardSaid : Prop := Claim7.holds Tryz.pinned (.plain (OpenSpec.ofChange fnTransformStringSpec)) fnTransformStringCard

/-- THE TIED CARD OF 'laws.FnTransformHalves'. -/
def fnTransformHalvesCard : Claim7 := { stood := { row := fnTransformHalvesRow, standIns := [], harness := (true, "353220d5c2ae7e7d225d8d857a55baa9fd0367fa59144c0d13823aba7feaa28d"), looks := true }, kinds := [], alts := [], laidByText := true, laidKinds := [.data, .data, .widerDeep, .widerDeep, .data, .data, .data, .data, .data, .data, .sentinel, .sentinel, .sentinel, .pinned, .pinned, .pinned], laidTests := true, laidLooks := .later }
def FnTransformHalvesCardSaid : Prop := Claim7.holds Tryz.pinned (.plain (OpenSpec.ofChange fnTransformHalvesSpec)) fnTransformHalvesCard

/-- THE TIED CARD OF 'laws.FnUnique'. -/
def fnUniqueCard : Claim7 := { stood := { row := fnUniqueRow, standIns := [], harness := (true, "353220d5c2ae7e7d225d8d857a55baa9fd0367fa59144c0d13823aba7feaa28d"), looks := true }, kinds := [], alts := [], laidByText := true, laidKinds := [.data, .data, .widerDeep, .widerDeep, .data, .data, .data, .data, .data, .data, .sentinel, .sentinel, .sentinel, .pinned, .pinned, .pinned], laidTests := true, laidLooks := .later }
def FnUniqueCardSaid : Prop := Claim7.holds Tryz.pinned (.plain (OpenSpec.ofChange fnUniqueSpec)) fnUniqueCard

/-- THE TIED CARD OF 'laws.FnCanonRefuses'. -/
def fnCanonRefusesCard : Claim7 := { stood := { row := fnCanonRefusesRow, standIns := [], harness := (true, "353220d5c2ae7e7d225d8d857a55baa9fd0367fa59144c0d13823aba7feaa28d"), looks := true }, kinds := [], alts := [], laidByText := true, laidKinds := [.data, .data, .widerDeep, .widerDeep, .data, .data, .data, .data, .data, .data, .sentinel, .sentinel, .sentinel, .pinned, .pinned, .pinned], laidTests := true, laidLooks := .later }
def FnCanonRefusesCardSaid : Prop := Claim7.holds Tryz.pinned (.plain (OpenSpec.ofChange fnCanonRefusesSpec)) fnCanonRefusesCard

/-- THE TIED CARD OF 'laws.FnHashesEqual'. -/
def fnHashesEqualCard : Claim7 := { stood := { row := fnHashesEqualRow, standIns := [], harness := (true, "353220d5c2ae7e7d225d8d857a55baa9fd0367fa59144c0d13823aba7feaa28d"), looks := true }, kinds := [], alts := [], laidByText := true, laidKinds := [.data, .data, .widerDeep, .widerDeep, .data, .data, .data, .data, .data, .data, .sentinel, .sentinel, .sentinel, .pinned, .pinned, .pinned], laidTests := true, laidLooks := .later }
def FnHashesEqualCardSaid : Prop := Claim7.holds Tryz.pinned (.plain (OpenSpec.ofChange fnHashesEqualSpec)) fnHashesEqualCard

/-- THE TIED CARD OF 'laws.FnCanonParts'. -/
def fnCanonPartsCard : Claim7 := { stood := { row := fnCanonPartsRow, standIns := [], harness := (true, "353220d5c2ae7e7d225d8d857a55baa9fd0367fa59144c0d13823aba7feaa28d"), looks := true }, kinds := [], alts := [], laidByText := true, laidKinds := [.data, .data, .widerDeep, .widerDeep, .data, .data, .data, .data, .data, .data, .sentinel, .sentinel, .sentinel, .pinned, .pinned, .pinned], laidTests := true, laidLooks := .later }
def FnCanonPartsCardSaid : Prop := Claim7.holds Tryz.pinned (.plain (OpenSpec.ofChange fnCanonPartsSpec)) fnCanonPartsCard

/-- THE SECOND FORM's CARD OF 'laws.FnTransformString'. -/
def fnTransformStringUptoCard : Claim7 := { stood := { row := fnTransformStringUptoRow, standIns := [], harness := (true, "353220d5c2ae7e7d225d8d857a55baa9fd0367fa59144c0d13823aba7feaa28d"), looks := true }, kinds := [], alts := [], laidByText := true, laidKinds := [.data, .data, .widerDeep, .widerDeep, .data, .data, .data, .data, .data, .data, .sentinel, .sentinel, .sentinel, .pinned, .pinned, .pinned], laidTests := true, laidLooks := .later }
def FnTransformStringUptoCardSaid : Prop := Claim7.holds Tryz.pinned (.plain (OpenSpec.upto fnTransformStringSpec)) fnTransformStringUptoCard

/-- THE SECOND FORM's CARD OF 'laws.FnTransformHalves'. -/
def fnTransformHalvesUptoCard : Claim7 := { stood := { row := fnTransformHalvesUptoRow, standIns := [], harness := (true, "353220d5c2ae7e7d225d8d857a55baa9fd0367fa59144c0d13823aba7feaa28d"), looks := true }, kinds := [], alts := [], laidByText := true, laidKinds := [.data, .data, .widerDeep, .widerDeep, .data, .data, .data, .data, .data, .data, .sentinel, .sentinel, .sentinel, .pinned, .pinned, .pinned], laidTests := true, laidLooks := .later }
def FnTransformHalvesUptoCardSaid : Prop := Claim7.holds Tryz.pinned (.plain (OpenSpec.upto fnTransformHalvesSpec)) fnTransformHalvesUptoCard

/-- THE SECOND FORM's CARD OF 'laws.FnUnique'. -/
def fnUniqueUptoCard : Claim7 := { stood := { row := fnUniqueUptoRow, standIns := [], harness := (true, "353220d5c2ae7e7d225d8d857a55baa9fd0367fa59144c0d13823aba7feaa28d"), looks := true }, kinds := [], alts := [], laidByText := true, laidKinds := [.data, .data, .widerDeep, .widerDeep, .data, .data, .data, .data, .data, .data, .sentinel, .sentinel, .sentinel, .pinned, .pinned, .pinned], laidTests := true, laidLooks := .later }
def FnUniqueUptoCardSaid : Prop := Claim7.holds Tryz.pinned (.plain (OpenSpec.upto fnUniqueSpec)) fnUniqueUptoCard

/-- THE SECOND FORM's CARD OF 'laws.FnCanonRefuses'. -/
def fnCanonRefusesUptoCard : Claim7 := { stood := { row := fnCanonRefusesUptoRow, standIns := [], harness := (true, "353220d5c2ae7e7d225d8d857a55baa9fd0367fa59144c0d13823aba7feaa28d"), looks := true }, kinds := [], alts := [], laidByText := true, laidKinds := [.data, .data, .widerDeep, .widerDeep, .data, .data, .data, .data, .data, .data, .sentinel, .sentinel, .sentinel, .pinned, .pinned, .pinned], laidTests := true, laidLooks := .later }
def FnCanonRefusesUptoCardSaid : Prop := Claim7.holds Tryz.pinned (.plain (OpenSpec.upto fnCanonRefusesSpec)) fnCanonRefusesUptoCard

/-- THE SECOND FORM's CARD OF 'laws.FnHashesEqual'. -/
def fnHashesEqualUptoCard : Claim7 := { stood := { row := fnHashesEqualUptoRow, standIns := [], harness := (true, "353220d5c2ae7e7d225d8d857a55baa9fd0367fa59144c0d13823aba7feaa28d"), looks := true }, kinds := [], alts := [], laidByText := true, laidKinds := [.data, .data, .widerDeep, .widerDeep, .data, .data, .data, .data, .data, .data, .sentinel, .sentinel, .sentinel, .pinned, .pinned, .pinned], laidTests := true, laidLooks := .later }
def FnHashesEqualUptoCardSaid : Prop := Claim7.holds Tryz.pinned (.plain (OpenSpec.upto fnHashesEqualSpec)) fnHashesEqualUptoCard

/-- THE SECOND FORM's CARD OF 'laws.FnCanonParts'. -/
def fnCanonPartsUptoCard : Claim7 := { stood := { row := fnCanonPartsUptoRow, standIns := [], harness := (true, "353220d5c2ae7e7d225d8d857a55baa9fd0367fa59144c0d13823aba7feaa28d"), looks := true }, kinds := [], alts := [], laidByText := true, laidKinds := [.data, .data, .widerDeep, .widerDeep, .data, .data, .data, .data, .data, .data, .sentinel, .sentinel, .sentinel, .pinned, .pinned, .pinned], laidTests := true, laidLooks := .later }
def FnCanonPartsUptoCardSaid : Prop := Claim7.holds Tryz.pinned (.plain (OpenSpec.upto fnCanonPartsSpec)) fnCanonPartsUptoCard
end Rows
end Go.Proofs.YtpkkokhoeiimcaaGreatDoor
