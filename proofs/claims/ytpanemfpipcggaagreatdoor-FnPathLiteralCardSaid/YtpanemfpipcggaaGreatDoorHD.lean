/- Closed facts of laws.FnPathLiteral's card. -/
import Derived.Test.YtpanemfpipcggaaGreatDoorG4
open Go Go.RowKit
namespace Go.Proofs.YtpanemfpipcggaaGreatDoor
theorem wfText_FnPathLiteral : Rows.fnPathLiteralRow.wfByText (OpenSpec.ofChange Rows.fnPathLiteralSpec) = true := by kernel_rfl
theorem mainIs_FnPathLiteral : Tryz.pinned.checked.prog.mainIs = some (((true, "76c6ae7f97e934b3c32c1c111542b85aea2f054f0d6ca39c84cf1d2ccdca3d35") : Bool × String).1, ((true, "76c6ae7f97e934b3c32c1c111542b85aea2f054f0d6ca39c84cf1d2ccdca3d35") : Bool × String).2.toList) := by kernel_rfl
theorem named_FnPathLiteral : Tryz.prog.funcNamed "pub-typarium/laws.FnPathLiteral" = some 6 := by kernel_rfl
theorem looks_FnPathLiteral : true = Tryz.pinned.checked.prog.looks [] := by kernel_rfl
theorem goesBy_FnPathLiteral : false = Rows.fnPathLiteralRow.goesBy Tryz.pinned.checked.prog := by kernel_rfl
end Go.Proofs.YtpanemfpipcggaaGreatDoor
