/-
  DERIVED. GIVEN WITH THE SEED: THE CARDS: each row of YthafpdceknleiaaGreatDoorRows.lean that lists a variable, with what it lists TIED to the program's text (the seventh form; the later family's looks); each row that meets fmt, with fmt's text TOLD by the authors' own Lean function (tested against real Go, not proved from fmt's source: count such statements apart). THE CARD IS WHAT COUNTS. Prove the row's statement (the work); the ties are given (YthafpdceknleiaaGreatDoorTie.lean); close each card by the builder's one call (the guide's Derived/Test/ToyasCard.lean, 'card_holds'). Laid BY PROGRAM, IN A SANDBOX (cutbox-door.mjs). By AI agents, Wed Nov 11 2026. No macro, syntax, notation, axiom, sorry.
-/
import Derived.Test.YthafpdceknleiaaGreatDoorRows
import GoSem.ClaimSeven
namespace Go.Proofs.YthafpdceknleiaaGreatDoor
namespace Rows

/-- THE TIED CARD OF 'laws.FnUnique'. -/
def fnUniqueCard : Claim7 := { stood := { row := fnUniqueRow, standIns := [], harness := (true, "2786bd6211abb01fe80eb64d308d5a004f684398141fe67d66a56359ba038c79"), looks := true }, kinds := [], alts := [], laidByText := true, laidKinds := [.data, .data, .widerDeep, .widerDeep, .data, .data, .data, .data, .data, .data, .sentinel, .sentinel, .sentinel, .pinned, .pinned, .pinned], laidTests := true, laidLooks := .later }
def FnUniqueCardSaid : Prop := Claim7.holds Tryz.pinned (.plain (OpenSpec.ofChange fnUniqueSpec)) fnUniqueCard

/-- THE TIED CARD OF 'laws.FnExactMeta'. -/
def fnExactMetaCard : Claim7 := { stood := { row := fnExactMetaRow, standIns := [], harness := (true, "2786bd6211abb01fe80eb64d308d5a004f684398141fe67d66a56359ba038c79"), looks := true }, kinds := [], alts := [], laidByText := true, laidKinds := [.data, .data, .widerDeep, .widerDeep, .data, .data, .data, .data, .data, .data, .sentinel, .sentinel, .sentinel, .pinned, .pinned, .pinned], laidTests := true, laidLooks := .later }
def FnExactMetaCardSaid : Prop := Claim7.holds Tryz.pinned (.plain (OpenSpec.ofChange fnExactMetaSpec)) fnExactMetaCard

/-- THE TIED CARD OF 'laws.FnHashesEqual'. -/
def fnHashesEqualCard : Claim7 := { stood := { row := fnHashesEqualRow, standIns := [], harness := (true, "2786bd6211abb01fe80eb64d308d5a004f684398141fe67d66a56359ba038c79"), looks := true }, kinds := [], alts := [], laidByText := true, laidKinds := [.data, .data, .widerDeep, .widerDeep, .data, .data, .data, .data, .data, .data, .sentinel, .sentinel, .sentinel, .pinned, .pinned, .pinned], laidTests := true, laidLooks := .later }
def FnHashesEqualCardSaid : Prop := Claim7.holds Tryz.pinned (.plain (OpenSpec.ofChange fnHashesEqualSpec)) fnHashesEqualCard

/-- THE TIED CARD OF 'laws.FnExactSums'. -/
def fnExactSumsCard : Claim7 := { stood := { row := fnExactSumsRow, standIns := [], harness := (true, "2786bd6211abb01fe80eb64d308d5a004f684398141fe67d66a56359ba038c79"), looks := true }, kinds := [], alts := [], laidByText := true, laidKinds := [.data, .data, .widerDeep, .widerDeep, .data, .data, .data, .data, .data, .data, .sentinel, .sentinel, .sentinel, .pinned, .pinned, .pinned], laidTests := true, laidLooks := .later }
def FnExactSumsCardSaid : Prop := Claim7.holds Tryz.pinned (.plain (OpenSpec.ofChange fnExactSumsSpec)) fnExactSumsCard

/-- THE TIED CARD OF 'laws.FnCanonParts'. -/
def fnCanonPartsCard : Claim7 := { stood := { row := fnCanonPartsRow, standIns := [], harness := (true, "2786bd6211abb01fe80eb64d308d5a004f684398141fe67d66a56359ba038c79"), looks := true }, kinds := [], alts := [], laidByText := true, laidKinds := [.data, .data, .widerDeep, .widerDeep, .data, .data, .data, .data, .data, .data, .sentinel, .sentinel, .sentinel, .pinned, .pinned, .pinned], laidTests := true, laidLooks := .later }
def FnCanonPartsCardSaid : Prop := Claim7.holds Tryz.pinned (.plain (OpenSpec.ofChange fnCanonPartsSpec)) fnCanonPartsCard

/-- THE TIED CARD OF 'laws.FnCanonTurned'. -/
def fnCanonTurnedCard : Claim7 := { stood := { row := fnCanonTurnedRow, standIns := [], harness := (true, "2786bd6211abb01fe80eb64d308d5a004f684398141fe67d66a56359ba038c79"), looks := true }, kinds := [], alts := [], laidByText := true, laidKinds := [.data, .data, .widerDeep, .widerDeep, .data, .data, .data, .data, .data, .data, .sentinel, .sentinel, .sentinel, .pinned, .pinned, .pinned], laidTests := true, laidLooks := .later }
def FnCanonTurnedCardSaid : Prop := Claim7.holds Tryz.pinned (.plain (OpenSpec.ofChange fnCanonTurnedSpec)) fnCanonTurnedCard

/-- THE SECOND FORM's CARD OF 'laws.FnUnique'. -/
def fnUniqueUptoCard : Claim7 := { stood := { row := fnUniqueUptoRow, standIns := [], harness := (true, "2786bd6211abb01fe80eb64d308d5a004f684398141fe67d66a56359ba038c79"), looks := true }, kinds := [], alts := [], laidByText := true, laidKinds := [.data, .data, .widerDeep, .widerDeep, .data, .data, .data, .data, .data, .data, .sentinel, .sentinel, .sentinel, .pinned, .pinned, .pinned], laidTests := true, laidLooks := .later }
def FnUniqueUptoCardSaid : Prop := Claim7.holds Tryz.pinned (.plain (OpenSpec.upto fnUniqueSpec)) fnUniqueUptoCard

/-- THE SECOND FORM's CARD OF 'laws.FnExactMeta'. -/
def fnExactMetaUptoCard : Claim7 := { stood := { row := fnExactMetaUptoRow, standIns := [], harness := (true, "2786bd6211abb01fe80eb64d308d5a004f684398141fe67d66a56359ba038c79"), looks := true }, kinds := [], alts := [], laidByText := true, laidKinds := [.data, .data, .widerDeep, .widerDeep, .data, .data, .data, .data, .data, .data, .sentinel, .sentinel, .sentinel, .pinned, .pinned, .pinned], laidTests := true, laidLooks := .later }
def FnExactMetaUptoCardSaid : Prop := Claim7.holds Tryz.pinned (.plain (OpenSpec.upto fnExactMetaSpec)) fnExactMetaUptoCard

/-- THE SECOND FORM's CARD OF 'laws.FnHashesEqual'. -/
def fnHashesEqualUptoCard : Claim7 := { stood := { row := fnHashesEqualUptoRow, standIns := [], harness := (true, "2786bd6211abb01fe80eb64d308d5a004f684398141fe67d66a56359ba038c79"), looks := true }, kinds := [], alts := [], laidByText := true, laidKinds := [.data, .data, .widerDeep, .widerDeep, .data, .data, .data, .data, .data, .data, .sentinel, .sentinel, .sentinel, .pinned, .pinned, .pinned], laidTests := true, laidLooks := .later }
def FnHashesEqualUptoCardSaid : Prop := Claim7.holds Tryz.pinned (.plain (OpenSpec.upto fnHashesEqualSpec)) fnHashesEqualUptoCard

/-- THE SECOND FORM's CARD OF 'laws.FnExactSums'. -/
def fnExactSumsUptoCard : Claim7 := { stood := { row := fnExactSumsUptoRow, standIns := [], harness := (true, "2786bd6211abb01fe80eb64d308d5a004f684398141fe67d66a56359ba038c79"), looks := true }, kinds := [], alts := [], laidByText := true, laidKinds := [.data, .data, .widerDeep, .widerDeep, .data, .data, .data, .data, .data, .data, .sentinel, .sentinel, .sentinel, .pinned, .pinned, .pinned], laidTests := true, laidLooks := .later }
def FnExactSumsUptoCardSaid : Prop := Claim7.holds Tryz.pinned (.plain (OpenSpec.upto fnExactSumsSpec)) fnExactSumsUptoCard

/-- THE SECOND FORM's CARD OF 'laws.FnCanonParts'. -/
def fnCanonPartsUptoCard : Claim7 := { stood := { row := fnCanonPartsUptoRow, standIns := [], harness := (true, "2786bd6211abb01fe80eb64d308d5a004f684398141fe67d66a56359ba038c79"), looks := true }, kinds := [], alts := [], laidByText := true, laidKinds := [.data, .data, .widerDeep, .widerDeep, .data, .data, .data, .data, .data, .data, .sentinel, .sentinel, .sentinel, .pinned, .pinned, .pinned], laidTests := true, laidLooks := .later }
def FnCanonPartsUptoCardSaid : Prop := Claim7.holds Tryz.pinned (.plain (OpenSpec.upto fnCanonPartsSpec)) fnCanonPartsUptoCard

/-- THE SECOND FORM's CARD OF 'laws.FnCanonTurned'. -/
def fnCanonTurnedUptoCard : Claim7 := { stood := { row := fnCanonTurnedUptoRow, standIns := [], harness := (true, "2786bd6211abb01fe80eb64d308d5a004f684398141fe67d66a56359ba038c79"), looks := true }, kinds := [], alts := [], laidByText := true, laidKinds := [.data, .data, .widerDeep, .widerDeep, .data, .data, .data, .data, .data, .data, .sentinel, .sentinel, .sentinel, .pinned, .pinned, .pinned], laidTests := true, laidLooks := .later }
def FnCanonTurnedUptoCardSaid : Prop := Claim7.holds Tryz.pinned (.plain (OpenSpec.upto fnCanonTurnedSpec)) fnCanonTurnedUptoCard
end Rows
end Go.Proofs.YthafpdceknleiaaGreatDoor
