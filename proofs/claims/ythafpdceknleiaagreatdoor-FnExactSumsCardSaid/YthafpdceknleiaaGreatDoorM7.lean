/- impl.targetOf, TargetFiles.Equal, impl.FilesEqual, spec.FilesEqual. -/
import Derived.Test.YthafpdceknleiaaGreatDoorM6
import Derived.BigQuiet
import Derived.Deep.DeepCutAuto
open Go Go.RowKit Go.Maps
namespace Go.Proofs.YthafpdceknleiaaGreatDoor
/-- A file of targets, behind a pointer. -/
def TF (w : World) (g : Nat) (n : Int) (s : ByteArray) (L : List (List UInt8 × List UInt8)) : Prop :=
  ∃ b, w.heap[g]? = some (.cells #[.int .i64 n, .map (some b), .string s] 125 (0, 0)) ∧ HM w b L
theorem TF.stay {w w' : World} (hb : Below w.heap.size w w') {g : Nat} {n : Int} {s : ByteArray} {L : List (List UInt8 × List UInt8)} (h : TF w g n s L) : TF w' g n s L := by
  obtain ⟨b, h1, h2⟩ := h
  have hlt : g < w.heap.size := by
    rcases Nat.lt_or_ge g w.heap.size with h | h
    · exact h
    · rw [Array.getElem?_eq_none h] at h1; cases h1
  exact ⟨b, (hb.block g hlt).trans h1, h2.stay hb⟩
/-- What targetOf leaves. -/
def ToP (n : Int) (s : ByteArray) (l : List (ByteArray × List UInt8)) (w : World) (e : Ending) (w' : World) : Prop := ∃ g, e = .returned (.pointer (some ⟨g, 0, none⟩)) ∧ TF w' g n s (toL l) ∧ Below w.heap.size w w'
set_option maxRecDepth 100000 in
set_option maxHeartbeats 8000000 in
theorem targetOf_any {s0 : ByteArray} {n1 n3 : Int} {ao : Option Addr} {n c : Nat} {l : List (ByteArray × List UInt8)} {w : World} (h : HsR w (.slice ao n c) l) (hl : l.length ≤ 1000) (hs : ∀ x ∈ l, x.2.length ≤ 1073741824) :
    Calls Tryz.prog 52 #[.agg #[.string s0, .int .i64 n1, .slice ao n c, .int .i64 n3]] w (ToP n1 s0 l w) := by
  obtain ⟨W1, hW1⟩ : ∃ W1, W1 = w.alloc (.cells #[.string s0, .int .i64 n1, .slice ao n c, .int .i64 n3] 54) := ⟨_, rfl⟩
  have HB1 : Hid (Below w.heap.size w W1) := by rw [hW1]; exact Lib.hid ((Below.refl _ _).alloc (Nat.le_refl _) _)
  have HS1 : Hid (W1.heap.size = w.heap.size + 1) := by rw [hW1, World.size_alloc]; exact Lib.hid rfl
  have HC : Hid (∀ W, Below W1.heap.size W1 W → W.cell? ⟨w.heap.size, 0, none⟩ = some (.string s0) ∧ W.cell? ⟨w.heap.size, 1, none⟩ = some (.int .i64 n1) ∧ W.cell? ⟨w.heap.size, 2, none⟩ = some (.slice ao n c)) := by
    intro W hb
    have hc := alloc_at w (.cells #[.string s0, .int .i64 n1, .slice ao n c, .int .i64 n3] 54)
    rw [← hW1, ← hb.block _ (by rw [HS1.out]; omega)] at hc
    refine ⟨?_, ?_, ?_⟩ <;> simp [World.cell?, hc]
  have HX : Hid (Calls Tryz.prog 49 #[.slice ao n c] W1.drew (HoP l W1.drew)) := Lib.hid (hashesOf_any (h.stay HB1.out.drew) hl hs)
  have HW1 := Lib.hid hW1
  clear h hl hs hW1
  go_enter Tryz.func52, Tryz.ntmps52
  go_upto_region 1 with (fail)
  rw [← HW1.out]
  obtain ⟨q0, q1, q2⟩ := HC.out W1 (Below.refl _ _)
  go_region_with (first
    | (go_at_call 49; refine HX.out.mono ?_; rintro e w2 ⟨b, rfl, hm, hb⟩
       have HB2 : Hid (Below W1.heap.size W1 w2) := Lib.hid ((Below.refl _ W1).drew.trans hb)
       have HM2 := Lib.hid hm
       obtain ⟨r0, r1, r2⟩ := HC.out w2 HB2.out
       clear hm hb))
  all_goals (
    have HEN : Hid (ToP n1 s0 l w (.returned (.pointer (some ⟨w2.heap.size, 0, none⟩))) (w2.alloc (.cells #[.int .i64 n1, .map (some b), .string s0] 125))) := ⟨_, rfl, ⟨b, alloc_at _ _, HM2.out.stay ((Below.refl _ _).alloc (Nat.le_refl _) _)⟩, (HB1.out.trans (HB2.out.mono HB1.out.size)).alloc (by have := HB1.out.size; have := HB2.out.size; omega) _⟩
    clear q0 q1 q2 r0 r1 r2 HB2 HM2 HX HC
    go_wp2_with (fail)
    go_ret
    exact HEN.out)
end Go.Proofs.YthafpdceknleiaaGreatDoor
