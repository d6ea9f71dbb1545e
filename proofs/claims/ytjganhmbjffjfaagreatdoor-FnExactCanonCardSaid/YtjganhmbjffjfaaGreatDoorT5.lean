/- Words: what answers something. -/
import Derived.Test.YtjganhmbjffjfaaGreatDoorT0
open Go Go.RowKit
namespace Go.Proofs.YtjganhmbjffjfaaGreatDoor
/-- Some bool; the world is as it was. -/
def SomeBq (w : World) (e : Ending) (w' : World) : Prop := ∃ b : Bool, e = .returned (.bool b) ∧ w = w'
/-- Some bool; nothing elder has turned. -/
def SomeB (w : World) (e : Ending) (w' : World) : Prop := ∃ b : Bool, e = .returned (.bool b) ∧ Below w.heap.size w w'
/-- Some number from 0 to 1000; nothing elder has turned. -/
def SomeN (w : World) (e : Ending) (w' : World) : Prop := ∃ n : Nat, e = .returned (.int .i64 n) ∧ n ≤ 1000 ∧ Below w.heap.size w w'
end Go.Proofs.YtjganhmbjffjfaaGreatDoor
