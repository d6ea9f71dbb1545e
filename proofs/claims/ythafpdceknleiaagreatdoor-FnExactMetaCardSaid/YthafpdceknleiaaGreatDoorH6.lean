/- Sums that came in, with the bounds of a machine. -/
import Derived.Test.YthafpdceknleiaaGreatDoorH5
open Go Go.RowKit Go.Maps
namespace Go.Proofs.YthafpdceknleiaaGreatDoor
open Go.ChangeShapes Go.WideShapes Go.ChangeAt Go.Deep Go.Joins
section
variable {H : Type} {enc : TypeId × Value → H} {w : World} {base : Nat}
theorem bsrc_trodB {fuel : Nat} {v : Value} {x : DataW H × List MemPlace} (hw : WOK 32 x.1) (h : DataW.trod enc Tryz.prog w base (fun _ => true) true fuel 32 [v] = some x) : ∃ body, BSrc w v body ∧ body.length ≤ 140737488351232 := by
  obtain ⟨body, hb⟩ := bsrc_trod h
  refine ⟨body, hb, ?_⟩
  rcases hb with ⟨_, rfl⟩ | ⟨ad, cp, rfl, _⟩
  · exact Nat.zero_le _
  · rcases open_ints Tryz.underlying32 Tryz.underlying5 (by kernel_rfl) h with ⟨hcs, _⟩ | ⟨a, len', cap', zs, hcs, _, hl, hm, hz, rfl, _⟩
    · simp at hcs
    · simp only [List.cons.injEq, Value.slice.injEq, and_true] at hcs
      obtain ⟨_, h2, _⟩ := hcs
      have := hw ((lits .u8 (zs.take len') : List (DataW H)).length + (lits .u8 (zs.drop len') : List (DataW H)).length) (by
        rw [DataW.weights, Tryz.underlying32]
        refine List.mem_cons.2 (.inl ?_)
        rw [show Tryz.prog.bytesOf 5 = 1 by kernel_rfl, Nat.mul_one])
      have e : (lits .u8 (zs.take len') : List (DataW H)).length + (lits .u8 (zs.drop len') : List (DataW H)).length = zs.length := by simp [lits]; omega
      rw [e] at this
      have h3 : len' ≤ zs.length := by rw [hz]; split <;> omega
      exact Nat.le_trans (by omega) this
/-- impl.Hash's cells, bounded. -/
def PHashB (w : World) (cs : List Value) : Prop := ∃ (s0 : ByteArray) (a1 : Option Addr) (l1 c1 : Nat), cs = [.string s0, .slice a1 l1 c1] ∧ s0.size ≤ 140737488351232 ∧ ∃ l, BSrc w (.slice a1 l1 c1) l ∧ l.length ≤ 140737488351232
set_option maxRecDepth 100000 in
theorem openHashB {fuel : Nat} {cs : List Value} {x : DataW H × List MemPlace} (hw : WOK 50 x.1) (h : DataW.trod enc Tryz.prog w base (fun _ => true) true fuel 50 cs = some x) : PHashB w cs := by
  obtain ⟨s0, a1, l1, c1, z0, h0, _⟩ := openHash hw h
  obtain ⟨xs, n, _, rfl, hlen, hxl, hf⟩ := DataW.trod_struct Tryz.underlying50 h
  obtain ⟨y1, e1⟩ : ∃ y, xs[1]? = some y := ⟨_, List.getElem?_eq_getElem (by rw [hxl]; decide)⟩
  have t1 : DataW.trod enc Tryz.prog w base (fun _ => true) true n 32 ((cs.drop 1).take (Tryz.prog.cellsOf 32)) = some y1 := (hf 1 _ rfl).trans e1
  rw [show Tryz.prog.cellsOf 32 = 1 by kernel_rfl] at t1
  have m1 := hw.part Tryz.underlying50 (j := 1) rfl (by rw [List.getElem?_map, e1]; rfl)
  subst z0
  exact ⟨s0, a1, l1, c1, rfl, h0, bsrc_trodB m1 t1⟩
end
theorem PHashB.to {w : World} {cs : List Value} (h : PHashB w cs) : PHash w cs := by
  obtain ⟨s0, a1, l1, c1, h1, h2, l, h3, _⟩ := h
  exact ⟨s0, a1, l1, c1, h1, h2, l, h3⟩
theorem slB_to {w : World} {v : Value} (h : SL PHashB 2 w v) : SL PHash 2 w v :=
  h.imp id fun ⟨a, n, c, h1, h2, h3, h4⟩ => ⟨a, n, c, h1, h2, h3, fun j hj => by obtain ⟨cs, h5, h6⟩ := h4 j hj; exact ⟨cs, h5.to, h6⟩⟩
theorem hsR_ofB {w : World} {v : Value} (h : SL PHashB 2 w v) : ∃ l, HsR w v l ∧ ∀ x ∈ l, x.2.length ≤ 140737488351232 := by
  rcases h with rfl | ⟨a, n, c, rfl, h1, h2, h3⟩
  · exact ⟨[], .inl ⟨rfl, rfl⟩, fun _ h => by cases h⟩
  · have hall : ∀ j, ∃ x : ByteArray × List UInt8, x.2.length ≤ 140737488351232 ∧ (j < n → w.cell? (a.add (j * 2)) = some (.string x.1) ∧ x.1.size ≤ 140737488351232 ∧ ∃ ao n cp, w.cell? ⟨(a.add (j * 2)).block, (a.add (j * 2)).off + 1, none⟩ = some (.slice ao n cp) ∧ BSrc w (.slice ao n cp) x.2) := by
      intro j
      by_cases hj : j < n
      · obtain ⟨cs, ⟨s0, a1, l1, c1, rfl, g0, l, g1, g2⟩, hc⟩ := h3 j hj
        exact ⟨(s0, l), g2, fun _ => ⟨hc 0 _ rfl, g0, a1, l1, c1, by rw [← fieldU _ _ 1 (by omega)]; exact hc 1 _ rfl, g1⟩⟩
      · exact ⟨(⟨#[]⟩, []), Nat.zero_le _, fun h => absurd h hj⟩
    obtain ⟨F, hF⟩ := Classical.axiomOfChoice hall
    have e : n = ((List.range n).map F).length := by simp
    refine ⟨(List.range n).map F, .inr ⟨a, c, by rw [← e], by rw [← e]; exact h1, h2, fun j x hj => ?_⟩, fun x hx => ?_⟩
    · rw [List.getElem?_map] at hj
      rcases Nat.lt_or_ge j n with h | h
      · rw [List.getElem?_range h] at hj; cases hj; exact (hF j).2 h
      · rw [List.getElem?_eq_none (by simp; exact h)] at hj; cases hj
    · obtain ⟨j, _, rfl⟩ := List.mem_map.1 hx
      exact (hF j).1
end Go.Proofs.YthafpdceknleiaaGreatDoor
