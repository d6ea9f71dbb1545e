/- laws.FnExactSums. -/
import Derived.Test.YthafpdceknleiaaGreatDoorMA
import Derived.Test.YthafpdceknleiaaGreatDoorA1
open Go Go.RowKit Go.Maps
namespace Go.Proofs.YthafpdceknleiaaGreatDoor
/-- impl.File's cells, with the bounds of a machine. -/
def PFileB (w : World) (cs : List Value) : Prop := ∃ (s0 : ByteArray) (n1 : Int) (a2 : Option Addr) (l2 c2 : Nat) (n3 : Int), cs = [.string s0, .int .i64 n1, .slice a2 l2 c2, .int .i64 n3] ∧ s0.size ≤ 140737488351232 ∧ SL PHashB 2 w (.slice a2 l2 c2)
section
open Go.ChangeShapes Go.WideShapes Go.ChangeAt Go.Deep Go.Joins
variable {H : Type} {enc : TypeId × Value → H} {w : World} {base : Nat}
set_option maxRecDepth 100000 in
theorem openFileB {fuel : Nat} {cs : List Value} {x : DataW H × List MemPlace} (hw : WOK 54 x.1) (h : DataW.trod enc Tryz.prog w base (fun _ => true) true fuel 54 cs = some x) : PFileB w cs := by
  obtain ⟨s0, n1, a2, l2, c2, n3, z0, h0, _, _, _⟩ := openFile hw h
  obtain ⟨xs, n, _, rfl, hlen, hxl, hf⟩ := DataW.trod_struct Tryz.underlying54 h
  obtain ⟨y2, e2⟩ : ∃ y, xs[2]? = some y := ⟨_, List.getElem?_eq_getElem (by rw [hxl]; decide)⟩
  have t2 : DataW.trod enc Tryz.prog w base (fun _ => true) true n 47 ((cs.drop 2).take (Tryz.prog.cellsOf 47)) = some y2 := (hf 2 _ rfl).trans e2
  rw [show Tryz.prog.cellsOf 47 = 1 by kernel_rfl] at t2
  have m2 := hw.part Tryz.underlying54 (j := 2) rfl (by rw [List.getElem?_map, e2]; rfl)
  subst z0
  have h2 := sl_of (P := PHashB) Tryz.underlying47 (fun hw h => openHashB hw h) m2 t2
  rw [show Tryz.prog.cellsOf 50 = 2 by kernel_rfl] at h2
  exact ⟨s0, n1, a2, l2, c2, n3, rfl, h0, h2⟩
set_option maxRecDepth 100000 in
theorem file_of {W : World} {v : Value} {d : DataW H} {p : List MemPlace} (hw : WOK 54 d) (hval : Value.okWide Tryz.prog W .any base 54 v)
    (h : DataW.Trod enc Tryz.prog W 0 (fun _ => true) true 54 v d p) : ∃ cs : List Value, v = .agg cs.toArray ∧ PFileB W cs := by
  obtain ⟨A, rfl, _⟩ := okWide_struct Tryz.underlying54 hval
  obtain ⟨fuel, hf⟩ := h
  exact ⟨A.toList, by simp, openFileB (x := (d, p)) hw hf⟩
end
set_option maxRecDepth 100000 in
set_option maxHeartbeats 16000000 in
theorem fnExactSums_any {cs ds : List Value} {w : World} (hv : PFileB w cs) (hu : PFileB w ds) (hN : TL w.heap.size w) :
    Calls Tryz.prog 6 #[.agg cs.toArray, .agg ds.toArray] w fun e w' => e = .returned (.bool true) ∧ Below w.heap.size w w' := by
  obtain ⟨s0, n1, ao, n, c, n3, rfl, h0, h1⟩ := hv
  obtain ⟨t0, m1, bo, m, d, m3, rfl, g0, g1⟩ := hu
  obtain ⟨l, hl, hls⟩ := hsR_ofB h1
  obtain ⟨k, hk, hks⟩ := hsR_ofB g1
  obtain ⟨B, hB⟩ : ∃ B, B = w.heap.size := ⟨_, rfl⟩
  obtain ⟨W1, hW1⟩ : ∃ W1, W1 = (w.alloc (.cells #[.string s0, .int .i64 n1, .slice ao n c, .int .i64 n3] 54)).alloc (.cells #[.string t0, .int .i64 m1, .slice bo m d, .int .i64 m3] 54) := ⟨_, rfl⟩
  have hb1 : Below w.heap.size w W1 := by rw [hW1]; exact ((Below.refl _ _).alloc (Nat.le_refl _) _).alloc (by rw [World.size_alloc]; omega) _
  have HB1 := Lib.hid hb1
  have HS1 : Hid (W1.heap.size = B + 2) := by rw [hW1, World.size_alloc, World.size_alloc, hB]; exact Lib.hid rfl
  have HC : Hid (∀ W, Below W1.heap.size W1 W → (W.cell? ⟨B, 0, none⟩ = some (.string s0) ∧ W.cell? ⟨B, 1, none⟩ = some (.int .i64 n1) ∧ W.cell? ⟨B, 2, none⟩ = some (.slice ao n c) ∧ W.cell? ⟨B, 3, none⟩ = some (.int .i64 n3)) ∧ W.cell? ⟨B + 1, 0, none⟩ = some (.string t0) ∧ W.cell? ⟨B + 1, 1, none⟩ = some (.int .i64 m1) ∧ W.cell? ⟨B + 1, 2, none⟩ = some (.slice bo m d) ∧ W.cell? ⟨B + 1, 3, none⟩ = some (.int .i64 m3)) := by
    intro W hb
    have hc2 := alloc_at (w.alloc (.cells #[.string s0, .int .i64 n1, .slice ao n c, .int .i64 n3] 54)) (.cells #[.string t0, .int .i64 m1, .slice bo m d, .int .i64 m3] 54)
    rw [World.size_alloc, ← hB, ← hW1, ← hb.block _ (by rw [HS1.out]; omega)] at hc2
    have hc1 : W1.heap[B]? = some (.cells #[.string s0, .int .i64 n1, .slice ao n c, .int .i64 n3] 54 (0, 0)) := by rw [hW1, Below.heap_alloc _ _ _ (by rw [World.size_alloc, hB]; omega), hB]; exact alloc_at w (.cells #[.string s0, .int .i64 n1, .slice ao n c, .int .i64 n3] 54)
    rw [← hb.block _ (by rw [HS1.out]; omega)] at hc1
    refine ⟨⟨?_, ?_, ?_, ?_⟩, ?_, ?_, ?_, ?_⟩
    · simp [World.cell?, hc1]
    · simp [World.cell?, hc1]
    · simp [World.cell?, hc1]
    · simp [World.cell?, hc1]
    · simp [World.cell?, hc2]
    · simp [World.cell?, hc2]
    · simp [World.cell?, hc2]
    · simp [World.cell?, hc2]
  have st : ∀ W, Below W1.heap.size W1 W → Below w.heap.size w W := fun W hb => hb1.trans (hb.mono hb1.size)
  have HST := Lib.hid st
  have HFa : Hid (Calls Tryz.prog 20 #[.agg #[.string s0, .int .i64 n1, .slice ao n c, .int .i64 n3]] W1 (SomeB W1)) := Lib.hid (fits_File h0 (SL.stay (fun _ => PHash.stay hb1) hb1 (slB_to h1)))
  have HFb : Hid (∀ W, Below W1.heap.size W1 W → Calls Tryz.prog 20 #[.agg #[.string t0, .int .i64 m1, .slice bo m d, .int .i64 m3]] W (SomeB W)) := fun W hb => fits_File g0 (SL.stay (fun _ => PHash.stay (st W hb)) (st W hb) (slB_to g1))
  have HLa : Hid (∀ W, Below W1.heap.size W1 W → Calls Tryz.prog 21 #[.agg #[.string s0, .int .i64 n1, .slice ao n c, .int .i64 n3]] W (LittleP l W)) := fun W hb => little_any (hl.stay (st W hb)) hls
  have HLb : Hid (∀ W, Below W1.heap.size W1 W → Calls Tryz.prog 21 #[.agg #[.string t0, .int .i64 m1, .slice bo m d, .int .i64 m3]] W (LittleP k W)) := fun W hb => little_any (hk.stay (st W hb)) hks
  have HAW : Hid (∀ W, Below W1.heap.size W1 W → Calls Tryz.prog 10 #[] W fun e w' => e = .returned (.bool true) ∧ Below w.heap.size w w') := fun W hb => (awake_true _ W (hN.mono (Nat.le_refl _) (st W hb))).mono fun _ _ h => ⟨h.1, (st W hb).trans (h.2.mono (st W hb).size)⟩
  have HSL := Lib.hid hl
  have HSK := Lib.hid hk
  have HW1 := Lib.hid hW1
  have HBS := Lib.hid hB
  clear h0 h1 g0 g1 hl hk hls hks hB hW1 hb1 hN st
  go_enter Tryz.func6, Tryz.ntmps6
  go_upto_region 1 with (fail)
  rw [← HW1.out, ← HBS.out]
  obtain ⟨⟨q0, q1, q2, q3⟩, q4, q5, q6, q7⟩ := HC.out W1 (Below.refl _ _)
  go_upto_if 16 with (first
    | (go_at_call 20; refine HFa.out.mono ?_; rintro e w2 ⟨fa, rfl, hb⟩
       have HB2 := Lib.hid hb
       clear hb HFa q0 q1 q2 q3 q4 q5 q6 q7
       obtain ⟨⟨q0, q1, q2, q3⟩, q4, q5, q6, q7⟩ := HC.out w2 HB2.out
       cases fa)
    | (go_at_call 20; refine (HFb.out w2 HB2.out).mono ?_; rintro e w3 ⟨fb, rfl, hb⟩
       have HB3 := Lib.hid (HB2.out.trans (hb.mono HB2.out.size))
       clear hb HFb q0 q1 q2 q3 q4 q5 q6 q7
       obtain ⟨⟨q0, q1, q2, q3⟩, q4, q5, q6, q7⟩ := HC.out w3 HB3.out
       cases fb))
  all_goals try (go_wp2_with (fail); go_ret; first | exact ⟨rfl, HST.out _ HB3.out⟩ | exact ⟨rfl, HST.out _ HB2.out⟩)
  clear HB2
  go_upto_if 24 with (first
    | (go_at_call 21; refine (HLa.out w3 HB3.out).mono ?_; rintro e w4 ⟨hb, fa, rfl, hfa⟩
       have HB4 := Lib.hid (HB3.out.trans (hb.mono HB3.out.size))
       have HFA := Lib.hid hfa
       clear hb hfa HLa q0 q1 q2 q3 q4 q5 q6 q7
       obtain ⟨⟨q0, q1, q2, q3⟩, q4, q5, q6, q7⟩ := HC.out w4 HB4.out
       cases fa)
    | (go_at_call 21; refine (HLb.out w4 HB4.out).mono ?_; rintro e w5 ⟨hb, fb, rfl, hfb⟩
       have HB5 := Lib.hid (HB4.out.trans (hb.mono HB4.out.size))
       have HFB := Lib.hid hfb
       clear hb hfb HLb q0 q1 q2 q3 q4 q5 q6 q7
       obtain ⟨⟨q0, q1, q2, q3⟩, q4, q5, q6, q7⟩ := HC.out w5 HB5.out
       cases fb))
  all_goals try (go_wp2_with (go_at_call 10; refine (HAW.out _ (by first | exact HB5.out | exact HB4.out)).mono ?_; rintro e w' ⟨rfl, hb⟩); go_ret; exact ⟨rfl, hb⟩)
  have HA8 := Lib.hid (HFA.out (by first | rfl | trivial))
  have HB8 := Lib.hid (HFB.out (by first | rfl | trivial))
  have hl1 : l.length ≤ 1000 := Nat.le_trans HA8.out.1 (by omega)
  have hk1 : k.length ≤ 1000 := Nat.le_trans HB8.out.1 (by omega)
  have hls : ∀ x ∈ l, x.2.length ≤ 1073741824 := fun x hx => Nat.le_trans (HA8.out.2 x hx) (by omega)
  have hks : ∀ x ∈ k, x.2.length ≤ 1073741824 := fun x hx => Nat.le_trans (HB8.out.2 x hx) (by omega)
  have H1 : Hid (∀ W, Below W1.heap.size W1 W → Calls Tryz.prog 22 #[.slice ao n c, .slice bo m d] W (ShP (toL l) (toL k) W)) := fun W hb => specHashesEqual_any (HSL.out.stay (HST.out W hb)) (HSK.out.stay (HST.out W hb)) hl1 hk1
  have H2 : Hid (∀ W, Below W1.heap.size W1 W → Calls Tryz.prog 19 #[.slice ao n c, .slice bo m d] W (HeP (toL l) (toL k) W)) := fun W hb => implHashesEqual_any (HSL.out.stay (HST.out W hb)) (HSK.out.stay (HST.out W hb)) hl1 hk1 hls hks
  have H3 : Hid (∀ W, Below W1.heap.size W1 W → Calls Tryz.prog 23 #[.agg #[.string s0, .int .i64 n1, .slice ao n c, .int .i64 n3], .agg #[.string t0, .int .i64 m1, .slice bo m d, .int .i64 m3]] W (SfP n1 m1 (toL l) (toL k) W)) := fun W hb => specFilesEqual_any (HSL.out.stay (HST.out W hb)) (HSK.out.stay (HST.out W hb)) hl1 hk1
  have H4 : Hid (∀ W, Below W1.heap.size W1 W → Calls Tryz.prog 24 #[.agg #[.string s0, .int .i64 n1, .slice ao n c, .int .i64 n3], .agg #[.string t0, .int .i64 m1, .slice bo m d, .int .i64 m3]] W (TeP n1 m1 (toL l) (toL k) W)) := fun W hb => implFilesEqual_any (HSL.out.stay (HST.out W hb)) (HSK.out.stay (HST.out W hb)) hl1 hk1 hls hks
  clear hl1 hk1 hls hks HB3 HB4 HFA HFB
  go_upto_if 43 with (first
    | (go_at_call 22; refine (H1.out w5 HB5.out).mono ?_; rintro e w6 ⟨β, rfl, hβ, hb⟩
       have HB6 := Lib.hid (HB5.out.trans (hb.mono HB5.out.size))
       have HE1 := Lib.hid hβ
       clear hb hβ H1 q0 q1 q2 q3 q4 q5 q6 q7
       obtain ⟨⟨q0, q1, q2, q3⟩, q4, q5, q6, q7⟩ := HC.out w6 HB6.out)
    | (go_at_call 19; refine (H2.out w6 HB6.out).mono ?_; rintro e w7 ⟨β2, rfl, hβ, hb⟩
       have HB7 := Lib.hid (HB6.out.trans (hb.mono HB6.out.size))
       have HEQ : Hid (β2 = β) := Lib.hid (Bool.eq_iff_iff.2 (hβ.trans HE1.out.symm))
       clear hb hβ H2 q0 q1 q2 q3 q4 q5 q6 q7
       obtain ⟨⟨q0, q1, q2, q3⟩, q4, q5, q6, q7⟩ := HC.out w7 HB7.out
       obtain rfl := HEQ.out))
  clear HB5 HB6 HEQ HE1
  go_wp2_with (first
    | (go_at_call 23; refine (H3.out w7 HB7.out).mono ?_; rintro e w8 ⟨β3, γ, rfl, hβ, hb⟩
       have HB8' := Lib.hid (HB7.out.trans (hb.mono HB7.out.size))
       have HE3 := Lib.hid hβ
       clear hb hβ H3 q0 q1 q2 q3 q4 q5 q6 q7
       obtain ⟨⟨q0, q1, q2, q3⟩, q4, q5, q6, q7⟩ := HC.out w8 HB8'.out
       cases γ)
    | (go_at_call 24; refine (H4.out w8 HB8'.out).mono ?_; rintro e w9 ⟨β4, rfl, hβ, hb⟩
       have HB9 := Lib.hid (HB8'.out.trans (hb.mono HB8'.out.size))
       have HEQ : Hid (β4 = β3) := Lib.hid (Bool.eq_iff_iff.2 (hβ.trans HE3.out.symm))
       clear hb hβ H4 q0 q1 q2 q3 q4 q5 q6 q7
       obtain rfl := HEQ.out)
    | (go_at_call 10; refine (HAW.out _ (by first | exact HB9.out | exact HB8'.out)).mono ?_; rintro e w' ⟨rfl, hb⟩))
  all_goals (go_ret; exact ⟨rfl, hb⟩)
end Go.Proofs.YthafpdceknleiaaGreatDoor
