/- Closed facts of laws.FnPathStars's card. -/
import Derived.Test.YtpanemfpipcggaaGreatDoorG4
open Go Go.RowKit
namespace Go.Proofs.YtpanemfpipcggaaGreatDoor
theorem wfText_FnPathStars : Rows.fnPathStarsRow.wfByText (OpenSpec.ofChange Rows.fnPathStarsSpec) = true := by kernel_rfl
theorem mainIs_FnPathStars : Tryz.pinned.checked.prog.mainIs = some (((true, "76c6ae7f97e934b3c32c1c111542b85aea2f054f0d6ca39c84cf1d2ccdca3d35") : Bool × String).1, ((true, "76c6ae7f97e934b3c32c1c111542b85aea2f054f0d6ca39c84cf1d2ccdca3d35") : Bool × String).2.toList) := by kernel_rfl
theorem named_FnPathStars : Tryz.prog.funcNamed "pub-typarium/laws.FnPathStars" = some 8 := by kernel_rfl
theorem looks_FnPathStars : true = Tryz.pinned.checked.prog.looks [] := by kernel_rfl
theorem goesBy_FnPathStars : false = Rows.fnPathStarsRow.goesBy Tryz.pinned.checked.prog := by kernel_rfl
end Go.Proofs.YtpanemfpipcggaaGreatDoor
