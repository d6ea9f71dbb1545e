/- impl.FilesEqual, spec.FilesEqual. -/
import Derived.Test.YthafpdceknleiaaGreatDoorM8
import Derived.Test.YthafpdceknleiaaGreatDoorM0
import Derived.BigQuiet
open Go Go.RowKit Go.Maps
namespace Go.Proofs.YthafpdceknleiaaGreatDoor
theorem info_file : (Tryz.prog.info? 54).map (·.size) = some 4 := by kernel_rfl
theorem info_tf : (Tryz.prog.info? 125).map (·.size) = some 3 := by kernel_rfl
set_option maxRecDepth 100000 in
set_option maxHeartbeats 8000000 in
theorem implFilesEqual_any {s0 t0 : ByteArray} {n1 n3 m1 m3 : Int} {ao bo : Option Addr} {n c m d : Nat} {l k : List (ByteArray × List UInt8)} {w : World} (h : HsR w (.slice ao n c) l) (h2 : HsR w (.slice bo m d) k) (hl : l.length ≤ 1000) (hk : k.length ≤ 1000) (hs : ∀ x ∈ l, x.2.length ≤ 1073741824) (ht : ∀ x ∈ k, x.2.length ≤ 1073741824) :
    Calls Tryz.prog 24 #[.agg #[.string s0, .int .i64 n1, .slice ao n c, .int .i64 n3], .agg #[.string t0, .int .i64 m1, .slice bo m d, .int .i64 m3]] w (TeP n1 m1 (toL l) (toL k) w) := by
  obtain ⟨B, hB⟩ : ∃ B, B = w.heap.size := ⟨_, rfl⟩
  obtain ⟨W1, hW1⟩ : ∃ W1, W1 = (w.alloc (.cells #[.string s0, .int .i64 n1, .slice ao n c, .int .i64 n3] 54)).alloc (.cells #[.string t0, .int .i64 m1, .slice bo m d, .int .i64 m3] 54) := ⟨_, rfl⟩
  have hb1 : Below w.heap.size w W1 := by rw [hW1]; exact ((Below.refl _ _).alloc (Nat.le_refl _) _).alloc (by rw [World.size_alloc]; omega) _
  have HB1 := Lib.hid hb1
  have HS1 : Hid (W1.heap.size = B + 2) := by rw [hW1, World.size_alloc, World.size_alloc, hB]; exact Lib.hid rfl
  have HC : Hid (∀ W, Below W1.heap.size W1 W → (W.cell? ⟨B, 0, none⟩ = some (.string s0) ∧ W.cell? ⟨B, 1, none⟩ = some (.int .i64 n1) ∧ W.cell? ⟨B, 2, none⟩ = some (.slice ao n c) ∧ W.cell? ⟨B, 3, none⟩ = some (.int .i64 n3)) ∧ W.cell? ⟨B + 1, 0, none⟩ = some (.string t0) ∧ W.cell? ⟨B + 1, 1, none⟩ = some (.int .i64 m1) ∧ W.cell? ⟨B + 1, 2, none⟩ = some (.slice bo m d) ∧ W.cell? ⟨B + 1, 3, none⟩ = some (.int .i64 m3)) := by
    intro W hb
    have hc2 := alloc_at (w.alloc (.cells #[.string s0, .int .i64 n1, .slice ao n c, .int .i64 n3] 54)) (.cells #[.string t0, .int .i64 m1, .slice bo m d, .int .i64 m3] 54)
    rw [World.size_alloc, ← hB, ← hW1, ← hb.block _ (by rw [HS1.out]; omega)] at hc2
    have hc1 : W1.heap[B]? = some (.cells #[.string s0, .int .i64 n1, .slice ao n c, .int .i64 n3] 54 (0, 0)) := by rw [hW1, Below.heap_alloc _ _ _ (by rw [World.size_alloc, hB]; omega), hB]; exact alloc_at w (.cells #[.string s0, .int .i64 n1, .slice ao n c, .int .i64 n3] 54)
    rw [← hb.block _ (by rw [HS1.out]; omega)] at hc1
    refine ⟨⟨?_, ?_, ?_, ?_⟩, ?_, ?_, ?_, ?_⟩
    · simp [World.cell?, hc1]
    · simp [World.cell?, hc1]
    · simp [World.cell?, hc1]
    · simp [World.cell?, hc1]
    · simp [World.cell?, hc2]
    · simp [World.cell?, hc2]
    · simp [World.cell?, hc2]
    · simp [World.cell?, hc2]
  have HX1 : Hid (∀ W, Below W1.heap.size W1 W → Calls Tryz.prog 52 #[.agg #[.string s0, .int .i64 n1, .slice ao n c, .int .i64 n3]] W (ToP n1 s0 l W)) := fun W hb => targetOf_any (h.stay (hb1.trans (hb.mono hb1.size))) hl hs
  have HX2 : Hid (∀ W, Below W1.heap.size W1 W → Calls Tryz.prog 52 #[.agg #[.string t0, .int .i64 m1, .slice bo m d, .int .i64 m3]] W (ToP m1 t0 k W)) := fun W hb => targetOf_any (h2.stay (hb1.trans (hb.mono hb1.size))) hk ht
  have HW1 := Lib.hid hW1
  have HBS := Lib.hid hB
  clear h h2 hl hk hs ht hW1 hb1 hB
  go_enter Tryz.func24, Tryz.ntmps24
  go_upto_region 1 with (fail)
  rw [← HW1.out, ← HBS.out]
  obtain ⟨⟨q0, q1, q2, q3⟩, q4, q5, q6, q7⟩ := HC.out W1 (Below.refl _ _)
  go_region_with (first
    | (go_at_call 52; refine (HX1.out _ (Below.refl _ W1).drew).mono ?_; rintro e w2 ⟨g1, rfl, hf1, hb2⟩
       have HF1 := Lib.hid hf1
       have HB2 : Hid (Below W1.heap.size W1 w2) := Lib.hid ((Below.refl _ W1).drew.trans hb2)
       obtain ⟨⟨r0, r1, r2, r3⟩, r4, r5, r6, r7⟩ := HC.out w2 HB2.out
       clear hf1 hb2 HX1)
    | (go_at_call 52; refine (HX2.out _ HB2.out).mono ?_; rintro e w3 ⟨g2, rfl, hf2, hb3⟩
       have HF3 := Lib.hid (HF1.out.stay hb3)
       have HB3 : Hid (Below W1.heap.size W1 w3) := Lib.hid (HB2.out.trans (hb3.mono HB2.out.size))
       obtain ⟨b2, hg2, hm2⟩ := hf2
       have p0 : w3.cell? ⟨g2, 0, none⟩ = some (.int .i64 m1) := by simp [World.cell?, hg2]
       have p1 : w3.cell? ⟨g2, 1, none⟩ = some (.map (some b2)) := by simp [World.cell?, hg2]
       have p2 : w3.cell? ⟨g2, 2, none⟩ = some (.string t0) := by simp [World.cell?, hg2]
       have HX3 := Lib.hid (tfEqual_any (t := t0) (m := m1) HF3.out hm2)
       clear hg2 hm2 hb3 HX2)
    | (go_at_call 53; refine HX3.out.mono ?_; rintro e w4 ⟨β, rfl, hβ, hb4⟩
       have HE := Lib.hid hβ
       have HB4 : Hid (Below w.heap.size w w4) := Lib.hid (HB1.out.trans ((HB3.out.trans (hb4.mono HB3.out.size)).mono HB1.out.size))
       clear hβ hb4))
  all_goals (go_wp2_with (fail); go_ret; exact ⟨β, rfl, HE.out, HB4.out⟩)
end Go.Proofs.YthafpdceknleiaaGreatDoor
