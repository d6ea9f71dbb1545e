/- spec.FilesEqual. -/
import Derived.Test.YthafpdceknleiaaGreatDoorM9
open Go Go.RowKit Go.Maps
namespace Go.Proofs.YthafpdceknleiaaGreatDoor
/-- What spec.FilesEqual leaves. -/
def SfP (n m : Int) (L1 L2 : List (List UInt8 × List UInt8)) (w : World) (e : Ending) (w' : World) : Prop := ∃ β γ, e = .returned (.tuple #[.bool β, .bool γ]) ∧ (β = true ↔ n = m ∧ HEqP L1 L2) ∧ Below w.heap.size w w'
set_option maxRecDepth 100000 in
set_option maxHeartbeats 8000000 in
theorem specFilesEqual_any {s0 t0 : ByteArray} {n1 n3 m1 m3 : Int} {ao bo : Option Addr} {n c m d : Nat} {l k : List (ByteArray × List UInt8)} {w : World} (h : HsR w (.slice ao n c) l) (h2 : HsR w (.slice bo m d) k) (hl : l.length ≤ 1000) (hk : k.length ≤ 1000) :
    Calls Tryz.prog 23 #[.agg #[.string s0, .int .i64 n1, .slice ao n c, .int .i64 n3], .agg #[.string t0, .int .i64 m1, .slice bo m d, .int .i64 m3]] w (SfP n1 m1 (toL l) (toL k) w) := by
  obtain ⟨B, hB⟩ : ∃ B, B = w.heap.size := ⟨_, rfl⟩
  obtain ⟨W1, hW1⟩ : ∃ W1, W1 = (w.alloc (.cells #[.string s0, .int .i64 n1, .slice ao n c, .int .i64 n3] 54)).alloc (.cells #[.string t0, .int .i64 m1, .slice bo m d, .int .i64 m3] 54) := ⟨_, rfl⟩
  have hb1 : Below w.heap.size w W1 := by rw [hW1]; exact ((Below.refl _ _).alloc (Nat.le_refl _) _).alloc (by rw [World.size_alloc]; omega) _
  have HB1 := Lib.hid hb1
  have HS1 : Hid (W1.heap.size = B + 2) := by rw [hW1, World.size_alloc, World.size_alloc, hB]; exact Lib.hid rfl
  have HC : Hid (∀ W, Below W1.heap.size W1 W → (W.cell? ⟨B, 0, none⟩ = some (.string s0) ∧ W.cell? ⟨B, 1, none⟩ = some (.int .i64 n1) ∧ W.cell? ⟨B, 2, none⟩ = some (.slice ao n c)) ∧ W.cell? ⟨B + 1, 0, none⟩ = some (.string t0) ∧ W.cell? ⟨B + 1, 1, none⟩ = some (.int .i64 m1) ∧ W.cell? ⟨B + 1, 2, none⟩ = some (.slice bo m d)) := by
    intro W hb
    have hc2 := alloc_at (w.alloc (.cells #[.string s0, .int .i64 n1, .slice ao n c, .int .i64 n3] 54)) (.cells #[.string t0, .int .i64 m1, .slice bo m d, .int .i64 m3] 54)
    rw [World.size_alloc, ← hB, ← hW1, ← hb.block _ (by rw [HS1.out]; omega)] at hc2
    have hc1 : W1.heap[B]? = some (.cells #[.string s0, .int .i64 n1, .slice ao n c, .int .i64 n3] 54 (0, 0)) := by rw [hW1, Below.heap_alloc _ _ _ (by rw [World.size_alloc, hB]; omega), hB]; exact alloc_at w (.cells #[.string s0, .int .i64 n1, .slice ao n c, .int .i64 n3] 54)
    rw [← hb.block _ (by rw [HS1.out]; omega)] at hc1
    refine ⟨⟨?_, ?_, ?_⟩, ?_, ?_, ?_⟩
    · simp [World.cell?, hc1]
    · simp [World.cell?, hc1]
    · simp [World.cell?, hc1]
    · simp [World.cell?, hc2]
    · simp [World.cell?, hc2]
    · simp [World.cell?, hc2]
  have HX : Hid (Calls Tryz.prog 22 #[.slice ao n c, .slice bo m d] W1 (ShP (toL l) (toL k) W1)) := Lib.hid (specHashesEqual_any (h.stay hb1) (h2.stay hb1) hl hk)
  have HW1 := Lib.hid hW1
  have HBS := Lib.hid hB
  clear h h2 hl hk hW1 hb1 hB
  go_enter Tryz.func23, Tryz.ntmps23
  go_upto_region 1 with (fail)
  rw [← HW1.out, ← HBS.out]
  obtain ⟨⟨q0, q1, q2⟩, q4, q5, q6⟩ := HC.out W1 (Below.refl _ _)
  go_upto_region 2 with (go_at_call 22; refine HX.out.mono ?_; rintro e w2 ⟨β, rfl, hβ, hb⟩)
  have HE := Lib.hid hβ
  have HB2 := Lib.hid hb
  have HBW : Hid (Below w.heap.size w w2) := Lib.hid (HB1.out.trans (HB2.out.mono HB1.out.size))
  clear hβ hb q0 q1 q2 q4 q5 q6
  obtain ⟨⟨q0, q1, -⟩, q4, q5, -⟩ := HC.out w2 HB2.out
  cases β with
  | false =>
    have HN : Hid (¬ HEqP (toL l) (toL k)) := Lib.hid (fun h => by have := HE.out.2 h; cases this)
    go_upto_region 3 with (fail)
    go_region
    all_goals (go_wp2_with (fail); go_ret2; exact ⟨false, true, rfl, ⟨(fun h => by cases h), fun h => absurd h.2 HN.out⟩, HBW.out.drew⟩)
  | true =>
    have HY : Hid (HEqP (toL l) (toL k)) := Lib.hid (HE.out.1 rfl)
    by_cases hnm : n1 = m1
    · have e1 : (n1 == m1) = true := beq_iff_eq.2 hnm
      have HNM := Lib.hid hnm
      obtain ⟨γ, hγ⟩ : ∃ γ, (s0.toList == t0.toList) = γ := ⟨_, rfl⟩
      clear hnm
      go_upto_region 3 with (fail)
      go_region
      all_goals (go_wp2_with (fail); go_ret2; exact ⟨true, _, rfl, ⟨fun _ => ⟨HNM.out, HY.out⟩, fun _ => rfl⟩, HBW.out.drew⟩)
    · have e1 : (n1 == m1) = false := beq_eq_false_iff_ne.2 hnm
      have HNM := Lib.hid hnm
      clear hnm
      go_upto_region 3 with (fail)
      go_region
      all_goals (go_wp2_with (fail); go_ret2; exact ⟨false, true, rfl, ⟨(fun h => by cases h), fun h => absurd h.1 HNM.out⟩, HBW.out.drew⟩)
end Go.Proofs.YthafpdceknleiaaGreatDoor
