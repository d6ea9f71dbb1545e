/- A slice of texts that came in, opened. -/
import Derived.Test.YtpanemfpipcggaaGreatDoorT1
import Derived.Test.YtpanemfpipcggaaGreatDoorG4
open Go Go.RowKit
namespace Go.Proofs.YtpanemfpipcggaaGreatDoor
open Go.ChangeShapes Go.WideShapes Go.ChangeAt Go.Deep Go.Joins
set_option maxRecDepth 100000 in
theorem strs_of {H : Type} {enc : TypeId × Value → H} {W : World} {base : Nat} {v : Value} {d : DataW H} {p : List MemPlace} (hw : WOK 22 d) (hval : Value.okWide Tryz.prog W .any base 22 v)
    (h : DataW.Trod enc Tryz.prog W 0 (fun _ => true) true 22 v d p) : ∃ l, StrR W v l := by
  obtain ⟨a0, len, cap, rfl⟩ := okWide_slice Tryz.underlying22 hval
  obtain ⟨fuel, hf⟩ := h
  exact strR_of (x := (d, p)) hw hf
end Go.Proofs.YtpanemfpipcggaaGreatDoor
