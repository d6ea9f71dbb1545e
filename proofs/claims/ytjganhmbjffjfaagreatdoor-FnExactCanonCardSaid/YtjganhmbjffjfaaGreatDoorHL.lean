/- Closed facts of laws.FnExactCanon's card. -/
import Derived.Test.YtjganhmbjffjfaaGreatDoorG4
open Go Go.RowKit
namespace Go.Proofs.YtjganhmbjffjfaaGreatDoor
theorem wfText_FnExactCanon : Rows.fnExactCanonRow.wfByText (OpenSpec.ofChange Rows.fnExactCanonSpec) = true := by kernel_rfl
theorem mainIs_FnExactCanon : Tryz.pinned.checked.prog.mainIs = some (((true, "a629147119de596a5d82fee5b4caf6a4767b7d9b550a92c00452b1df7b693d14") : Bool × String).1, ((true, "a629147119de596a5d82fee5b4caf6a4767b7d9b550a92c00452b1df7b693d14") : Bool × String).2.toList) := by kernel_rfl
theorem named_FnExactCanon : Tryz.prog.funcNamed "pub-typarium/laws.FnExactCanon" = some 5 := by kernel_rfl
theorem looks_FnExactCanon : true = Tryz.pinned.checked.prog.looks [] := by kernel_rfl
theorem goesBy_FnExactCanon : false = Rows.fnExactCanonRow.goesBy Tryz.pinned.checked.prog := by kernel_rfl
end Go.Proofs.YtjganhmbjffjfaaGreatDoor
