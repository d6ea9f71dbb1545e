/-
  DERIVED. GIVEN WITH THE SEED: THE CARDS: each row of YtlliohgbbboleaaGreatDoorRows.lean that lists a variable, with what it lists TIED to the program's text (the seventh form; the later family's looks); each row that meets fmt, with fmt's text TOLD by the authors' own Lean function (tested against real Go, not proved from fmt's source: count such statements apart). THE CARD IS WHAT COUNTS. Prove the row's statement (the work); the ties are given (YtlliohgbbboleaaGreatDoorTie.lean); close each card by the builder's one call (the guide's Derived/Test/ToyasCard.lean, 'card_holds'). Laid BY PROGRAM, IN A SANDBOX (cutbox-door.mjs). By AI agents, Wed Nov 11 2026. No macro, syntax, notation, axiom, sorry.
-/
import Derived.Test.YtlliohgbbboleaaGreatDoorRows
import GoSem.ClaimSeven
namespace Go.Proofs.YtlliohgbbboleaaGreatDoor
namespace Rows

/-- THE TIED CARD OF 'laws.FnPAE'. -/
def fnPAECard : Claim7 := { stood := { row := fnPAERow, standIns := [], harness := (true, "8f67354c5ad8db9a90add8fed2cec1a5f18d5cffd925b5937217a0c5b032fb5b"), looks := true }, kinds := [], alts := [], laidByText := true, laidKinds := [.data, .data, .widerDeep, .widerDeep, .data, .data, .data, .data, .data, .data, .sentinel, .sentinel, .sentinel, .pinned, .pinned, .pinned], laidTests := true, laidLooks := .later }
def FnPAECardSaid : Prop := Claim7.holds Tryz.pinned (.plain (OpenSpec.ofChange fnPAESpec)) fnPAECard

/-- THE TIED CARD OF 'laws.FnPAEApart'. -/
def fnPAEApartCard : Claim7 := { stood := { row := fnPAEApartRow, standIns := [], harness := (true, "8f67354c5ad8db9a90add8fed2cec1a5f18d5cffd925b5937217a0c5b032fb5b"), looks := true }, kinds := [], alts := [], laidByText := true, laidKinds := [.data, .data, .widerDeep, .widerDeep, .data, .data, .data, .data, .data, .data, .sentinel, .sentinel, .sentinel, .pinned, .pinned, .pinned], laidTests := true, laidLooks := .later }
def FnPAEApartCardSaid : Prop := Claim7.holds Tryz.pinned (.plain (OpenSpec.ofChange fnPAEApartSpec)) fnPAEApartCard

/-- THE TIED CARD OF 'laws.FnSignatureOf'. -/
def fnSignatureOfCard : Claim7 := { stood := { row := fnSignatureOfRow, standIns := [], harness := (true, "8f67354c5ad8db9a90add8fed2cec1a5f18d5cffd925b5937217a0c5b032fb5b"), looks := true }, kinds := [], alts := [], laidByText := true, laidKinds := [.data, .data, .widerDeep, .widerDeep, .data, .data, .data, .data, .data, .data, .sentinel, .sentinel, .sentinel, .pinned, .pinned, .pinned], laidTests := true, laidLooks := .later }
def FnSignatureOfCardSaid : Prop := Claim7.holds Tryz.pinned (.plain (OpenSpec.ofChange fnSignatureOfSpec)) fnSignatureOfCard

/-- THE TIED CARD OF 'laws.FnExpired'. -/
def fnExpiredCard : Claim7 := { stood := { row := fnExpiredRow, standIns := [], harness := (true, "8f67354c5ad8db9a90add8fed2cec1a5f18d5cffd925b5937217a0c5b032fb5b"), looks := true }, kinds := [], alts := [], laidByText := true, laidKinds := [.data, .data, .widerDeep, .widerDeep, .data, .data, .data, .data, .data, .data, .sentinel, .sentinel, .sentinel, .pinned, .pinned, .pinned], laidTests := true, laidLooks := .later }
def FnExpiredCardSaid : Prop := Claim7.holds Tryz.pinned (.plain (OpenSpec.ofChange fnExpiredSpec)) fnExpiredCard

/-- THE TIED CARD OF 'laws.FnCanonString'. -/
def fnCanonStringCard : Claim7 := { stood := { row := fnCanonStringRow, standIns := [], harness := (true, "8f67354c5ad8db9a90add8fed2cec1a5f18d5cffd925b5937217a0c5b032fb5b"), looks := true }, kinds := [], alts := [], laidByText := true, laidKinds := [.data, .data, .widerDeep, .widerDeep, .data, .data, .data, .data, .data, .data, .sentinel, .sentinel, .sentinel, .pinned, .pinned, .pinned], laidTests := true, laidLooks := .later }
def FnCanonStringCardSaid : Prop := Claim7.holds Tryz.pinned (.plain (OpenSpec.ofChange fnCanonStringSpec)) fnCanonStringCard

/-- THE TIED CARD OF 'laws.FnErrorIs'. -/
def fnErrorIsCard : Claim7 := { stood := { row := fnErrorIsRow, standIns := [], harness := (true, "8f67354c5ad8db9a90add8fed2cec1a5f18d5cffd925b5937217a0c5b032fb5b"), looks := true }, kinds := [], alts := [], laidByText := true, laidKinds := [.data, .data, .widerDeep, .widerDeep, .data, .data, .data, .data, .data, .data, .sentinel, .sentinel, .sentinel, .pinned, .pinned, .pinned], laidTests := true, laidLooks := .later }
def FnErrorIsCardSaid : Prop := Claim7.holds Tryz.pinned (.plain (OpenSpec.ofChange fnErrorIsSpec)) fnErrorIsCard

/-- THE SECOND FORM's CARD OF 'laws.FnPAE'. -/
def fnPAEUptoCard : Claim7 := { stood := { row := fnPAEUptoRow, standIns := [], harness := (true, "8f67354c5ad8db9a90add8fed2cec1a5f18d5cffd925b5937217a0c5b032fb5b"), looks := true }, kinds := [], alts := [], laidByText := true, laidKinds := [.data, .data, .widerDeep, .widerDeep, .data, .data, .data, .data, .data, .data, .sentinel, .sentinel, .sentinel, .pinned, .pinned, .pinned], laidTests := true, laidLooks := .later }
def FnPAEUptoCardSaid : Prop := Claim7.holds Tryz.pinned (.plain (OpenSpec.upto fnPAESpec)) fnPAEUptoCard

/-- THE SECOND FORM's CARD OF 'laws.FnPAEApart'. -/
def fnPAEApartUptoCard : Claim7 := { stood := { row := fnPAEApartUptoRow, standIns := [], harness := (true, "8f67354c5ad8db9a90add8fed2cec1a5f18d5cffd925b5937217a0c5b032fb5b"), looks := true }, kinds := [], alts := [], laidByText := true, laidKinds := [.data, .data, .widerDeep, .widerDeep, .data, .data, .data, .data, .data, .data, .sentinel, .sentinel, .sentinel, .pinned, .pinned, .pinned], laidTests := true, laidLooks := .later }
def FnPAEApartUptoCardSaid : Prop := Claim7.holds Tryz.pinned (.plain (OpenSpec.upto fnPAEApartSpec)) fnPAEApartUptoCard

/-- THE SECOND FORM's CARD OF 'laws.FnSignatureOf'. -/
def fnSignatureOfUptoCard : Claim7 := { stood := { row := fnSignatureOfUptoRow, standIns := [], harness := (true, "8f67354c5ad8db9a90add8fed2cec1a5f18d5cffd925b5937217a0c5b032fb5b"), looks := true }, kinds := [], alts := [], laidByText := true, laidKinds := [.data, .data, .widerDeep, .widerDeep, .data, .data, .data, .data, .data, .data, .sentinel, .sentinel, .sentinel, .pinned, .pinned, .pinned], laidTests := true, laidLooks := .later }
def FnSignatureOfUptoCardSaid : Prop := Claim7.holds Tryz.pinned (.plain (OpenSpec.upto fnSignatureOfSpec)) fnSignatureOfUptoCard

/-- THE SECOND FORM's CARD OF 'laws.FnExpired'. -/
def fnExpiredUptoCard : Claim7 := { stood := { row := fnExpiredUptoRow, standIns := [], harness := (true, "8f67354c5ad8db9a90add8fed2cec1a5f18d5cffd925b5937217a0c5b032fb5b"), looks := true }, kinds := [], alts := [], laidByText := true, laidKinds := [.data, .data, .widerDeep, .widerDeep, .data, .data, .data, .data, .data, .data, .sentinel, .sentinel, .sentinel, .pinned, .pinned, .pinned], laidTests := true, laidLooks := .later }
def FnExpiredUptoCardSaid : Prop := Claim7.holds Tryz.pinned (.plain (OpenSpec.upto fnExpiredSpec)) fnExpiredUptoCard

/-- THE SECOND FORM's CARD OF 'laws.FnCanonString'. -/
def fnCanonStringUptoCard : Claim7 := { stood := { row := fnCanonStringUptoRow, standIns := [], harness := (true, "8f67354c5ad8db9a90add8fed2cec1a5f18d5cffd925b5937217a0c5b032fb5b"), looks := true }, kinds := [], alts := [], laidByText := true, laidKinds := [.data, .data, .widerDeep, .widerDeep, .data, .data, .data, .data, .data, .data, .sentinel, .sentinel, .sentinel, .pinned, .pinned, .pinned], laidTests := true, laidLooks := .later }
def FnCanonStringUptoCardSaid : Prop := Claim7.holds Tryz.pinned (.plain (OpenSpec.upto fnCanonStringSpec)) fnCanonStringUptoCard

/-- THE SECOND FORM's CARD OF 'laws.FnErrorIs'. -/
def fnErrorIsUptoCard : Claim7 := { stood := { row := fnErrorIsUptoRow, standIns := [], harness := (true, "8f67354c5ad8db9a90add8fed2cec1a5f18d5cffd925b5937217a0c5b032fb5b"), looks := true }, kinds := [], alts := [], laidByText := true, laidKinds := [.data, .data, .widerDeep, .widerDeep, .data, .data, .data, .data, .data, .data, .sentinel, .sentinel, .sentinel, .pinned, .pinned, .pinned], laidTests := true, laidLooks := .later }
def FnErrorIsUptoCardSaid : Prop := Claim7.holds Tryz.pinned (.plain (OpenSpec.upto fnErrorIsSpec)) fnErrorIsUptoCard
end Rows
end Go.Proofs.YtlliohgbbboleaaGreatDoor
