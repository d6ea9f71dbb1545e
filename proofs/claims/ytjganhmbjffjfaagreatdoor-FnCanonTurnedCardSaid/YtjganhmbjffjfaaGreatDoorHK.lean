/- Closed facts of laws.FnCanonTurned's card. -/
import Derived.Test.YtjganhmbjffjfaaGreatDoorG4
open Go Go.RowKit
namespace Go.Proofs.YtjganhmbjffjfaaGreatDoor
theorem wfText_FnCanonTurned : Rows.fnCanonTurnedRow.wfByText (OpenSpec.ofChange Rows.fnCanonTurnedSpec) = true := by kernel_rfl
theorem mainIs_FnCanonTurned : Tryz.pinned.checked.prog.mainIs = some (((true, "a629147119de596a5d82fee5b4caf6a4767b7d9b550a92c00452b1df7b693d14") : Bool × String).1, ((true, "a629147119de596a5d82fee5b4caf6a4767b7d9b550a92c00452b1df7b693d14") : Bool × String).2.toList) := by kernel_rfl
theorem named_FnCanonTurned : Tryz.prog.funcNamed "pub-typarium/laws.FnCanonTurned" = some 4 := by kernel_rfl
theorem looks_FnCanonTurned : true = Tryz.pinned.checked.prog.looks [] := by kernel_rfl
theorem goesBy_FnCanonTurned : false = Rows.fnCanonTurnedRow.goesBy Tryz.pinned.checked.prog := by kernel_rfl
end Go.Proofs.YtjganhmbjffjfaaGreatDoor
