/- Arguments that are slices of impl.Hash. -/
import Derived.Test.YthafpdceknleiaaGreatDoorH4
open Go Go.RowKit
namespace Go.Proofs.YthafpdceknleiaaGreatDoor
open Go.ChangeShapes Go.WideShapes Go.ChangeAt Go.Deep Go.Joins
set_option maxRecDepth 100000 in
theorem hashes_of {H : Type} {enc : TypeId × Value → H} {W : World} {base : Nat} {v : Value} {d : DataW H} {p : List MemPlace} (hw : WOK 47 d) (hval : Value.okWide Tryz.prog W .any base 47 v)
    (h : DataW.Trod enc Tryz.prog W 0 (fun _ => true) true 47 v d p) : SL PHashB 2 W v := by
  obtain ⟨a0, len, cap, rfl⟩ := okWide_slice Tryz.underlying47 hval
  obtain ⟨fuel, hf⟩ := h
  have := sl_of (P := PHashB) Tryz.underlying47 (fun hw h => openHashB hw h) (x := (d, p)) hw hf
  rw [show Tryz.prog.cellsOf 50 = 2 by kernel_rfl] at this
  exact this
theorem u8_wf {n : Int} (h : (Go.Lit.int .u8 n).wf = true) : 0 ≤ n ∧ n ≤ 255 := by
  simpa [Go.Lit.wf, IntKind.min, IntKind.max, IntKind.signed, IntKind.bits] using h
end Go.Proofs.YthafpdceknleiaaGreatDoor
