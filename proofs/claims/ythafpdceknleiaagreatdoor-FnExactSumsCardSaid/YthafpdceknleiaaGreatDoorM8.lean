/- TargetFiles.Equal. -/
import Derived.Test.YthafpdceknleiaaGreatDoorM7
import Derived.BigQuiet
import Derived.Deep.DeepCutAuto
open Go Go.RowKit Go.Maps
namespace Go.Proofs.YthafpdceknleiaaGreatDoor
/-- What TargetFiles.Equal leaves. -/
def TeP (n m : Int) (L1 L2 : List (List UInt8 × List UInt8)) (w : World) (e : Ending) (w' : World) : Prop := ∃ β, e = .returned (.bool β) ∧ (β = true ↔ n = m ∧ HEqP L1 L2) ∧ Below w.heap.size w w'
set_option maxRecDepth 100000 in
set_option maxHeartbeats 8000000 in
theorem tfEqual_any {g : Nat} {n m : Int} {s t : ByteArray} {L1 L2 : List (List UInt8 × List UInt8)} {b2 : Nat} {w : World} (h1 : TF w g n s L1) (h2 : HM w b2 L2) :
    Calls Tryz.prog 53 #[.pointer (some ⟨g, 0, none⟩), .agg #[.int .i64 m, .map (some b2), .string t]] w (TeP n m L1 L2 w) := by
  obtain ⟨b1, hg, hm1⟩ := h1
  have hgl : g < w.heap.size := by
    rcases Nat.lt_or_ge g w.heap.size with h | h
    · exact h
    · rw [Array.getElem?_eq_none h] at hg; cases hg
  obtain ⟨W1, hW1⟩ : ∃ W1, W1 = w.alloc (.cells #[.int .i64 m, .map (some b2), .string t] 125) := ⟨_, rfl⟩
  have hb1 : Below w.heap.size w W1 := by rw [hW1]; exact (Below.refl _ _).alloc (Nat.le_refl _) _
  have HB1 := Lib.hid hb1
  have HC : Hid ((W1.cell? ⟨g, 0, none⟩ = some (.int .i64 n) ∧ W1.cell? ⟨g, 1, none⟩ = some (.map (some b1))) ∧ W1.cell? ⟨w.heap.size, 0, none⟩ = some (.int .i64 m) ∧ W1.cell? ⟨w.heap.size, 1, none⟩ = some (.map (some b2))) := by
    have hc := alloc_at w (.cells #[.int .i64 m, .map (some b2), .string t] 125)
    rw [← hW1] at hc
    have hg1 := (hb1.block g hgl).trans hg
    refine ⟨⟨?_, ?_⟩, ?_, ?_⟩
    · simp [World.cell?, hg1]
    · simp [World.cell?, hg1]
    · simp [World.cell?, hc]
    · simp [World.cell?, hc]
  have HX : Hid (Calls Tryz.prog 50 #[.map (some b1), .map (some b2)] W1.drew (HeP L1 L2 W1.drew)) := Lib.hid (hEqual_any (hm1.stay hb1.drew) (h2.stay hb1.drew))
  have HW1 := Lib.hid hW1
  clear hg hm1 h2 hW1 hb1 hgl
  go_enter Tryz.func53, Tryz.ntmps53
  go_upto_region 1 with (fail)
  rw [← HW1.out]
  obtain ⟨⟨q0, q1⟩, q2, q3⟩ := HC.out
  by_cases hnm : n = m
  · have e1 : (n == m) = true := beq_iff_eq.2 hnm
    have HNM := Lib.hid hnm
    clear hnm
    go_region_with (first
      | (go_at_call 50; refine HX.out.mono ?_; rintro e w2 ⟨β, rfl, hβ, hb⟩
         have HB2 : Hid (Below w.heap.size w w2) := Lib.hid (HB1.out.drew.trans (hb.mono HB1.out.size))
         have HE := Lib.hid hβ
         clear hβ hb))
    all_goals (cases β <;> (go_wp2_with (fail); go_ret; first | exact ⟨true, rfl, ⟨fun _ => ⟨HNM.out, HE.out.1 (by first | rfl | trivial)⟩, fun _ => rfl⟩, HB2.out⟩ | exact ⟨false, rfl, ⟨(fun h => by cases h), fun h => by have h3 := HE.out.2 h.2; simp at h3⟩, HB2.out⟩))
  · have e1 : (n == m) = false := beq_eq_false_iff_ne.2 hnm
    have HNM := Lib.hid hnm
    clear hnm
    go_region
    all_goals (go_wp2_with (fail); go_ret; exact ⟨false, rfl, ⟨(fun h => by cases h), fun h => absurd h.1 HNM.out⟩, HB1.out.drew⟩)
end Go.Proofs.YthafpdceknleiaaGreatDoor
