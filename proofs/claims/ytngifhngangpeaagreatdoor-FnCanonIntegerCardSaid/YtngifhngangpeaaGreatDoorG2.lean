/- A slice of bytes that came in, opened. -/
import Derived.Test.YtngifhngangpeaaGreatDoorD2
import Derived.ProofKit
open Go Go.RowKit
namespace Go.Proofs.YtngifhngangpeaaGreatDoor
open Go.ChangeShapes Go.WideShapes Go.ChangeAt
set_option maxRecDepth 100000 in
theorem bsrc_of {H : Type} {enc : TypeId × Value → H} {W : World} {base : Nat} {v : Value} {d : DataW H} {p : List MemPlace} (hval : Value.okWide Tryz.prog W .any base 22 v)
    (h : DataW.Trod enc Tryz.prog W 0 (fun _ => true) true 22 v d p) : ∃ body, BSrc W v body := by
  obtain ⟨a0, len, cap, rfl⟩ := okWide_slice Tryz.underlying22 hval
  obtain ⟨fuel, hf⟩ := h
  rcases open_ints Tryz.underlying22 Tryz.underlying5 (by kernel_rfl) hf with ⟨hcs, _⟩ | ⟨a, len', cap', zs, hcs, _, hl, hm, hz, _, hcell, hwz⟩
  · simp [Value.cells] at hcs
    obtain ⟨rfl, rfl, rfl⟩ := hcs
    exact ⟨[], .inl ⟨rfl, rfl⟩⟩
  · simp [Value.cells] at hcs
    obtain ⟨rfl, rfl, rfl⟩ := hcs
    simp only [if_true] at hz
    refine ⟨(zs.take len).map fun z => UInt8.ofNat z.toNat, .inr ⟨a, cap, ?_, ?_, ?_⟩⟩
    · simp; omega
    · simp; omega
    · intro j x hx
      rw [List.getElem?_map] at hx
      cases e : (zs.take len)[j]? with
      | none => rw [e] at hx; cases hx
      | some z =>
        rw [e] at hx
        cases hx
        have hj : j < len := by
          have := (List.getElem?_eq_some_iff.1 e).1
          simp at this
          omega
        have e2 : zs[j]? = some z := by rw [List.getElem?_take_of_lt hj] at e; exact e
        have hzj : zs.getD j 0 = z := by rw [List.getD_eq_getElem?_getD, e2]; rfl
        have hw := hwz z (List.mem_of_getElem? e2)
        have hw2 : 0 ≤ z ∧ z ≤ 255 := by simpa [Lit.wf, IntKind.min, IntKind.max, IntKind.signed, IntKind.bits] using hw
        rw [hcell j (by omega), hzj]
        congr 2
        rw [UInt8.toNat_ofNat_of_lt' (by show _ < 256; omega)]
        omega
end Go.Proofs.YtngifhngangpeaaGreatDoor
