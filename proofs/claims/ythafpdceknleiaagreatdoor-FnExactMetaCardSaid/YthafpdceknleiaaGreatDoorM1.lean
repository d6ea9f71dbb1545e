/- An argument that is impl.Meta. -/
import Derived.Test.YthafpdceknleiaaGreatDoorU8
open Go Go.RowKit
namespace Go.Proofs.YthafpdceknleiaaGreatDoor
open Go.ChangeShapes Go.WideShapes Go.ChangeAt Go.Deep Go.Joins
set_option maxRecDepth 100000 in
theorem meta_of {H : Type} {enc : TypeId × Value → H} {W : World} {base : Nat} {v : Value} {d : DataW H} {p : List MemPlace} (hw : WOK 34 d) (hval : Value.okWide Tryz.prog W .any base 34 v)
    (h : DataW.Trod enc Tryz.prog W 0 (fun _ => true) true 34 v d p) : ∃ cs : List Value, v = .agg cs.toArray ∧ PMeta W cs := by
  obtain ⟨A, rfl, _⟩ := okWide_struct Tryz.underlying34 hval
  obtain ⟨fuel, hf⟩ := h
  exact ⟨A.toList, by simp, openMeta (x := (d, p)) hw hf⟩
end Go.Proofs.YthafpdceknleiaaGreatDoor
