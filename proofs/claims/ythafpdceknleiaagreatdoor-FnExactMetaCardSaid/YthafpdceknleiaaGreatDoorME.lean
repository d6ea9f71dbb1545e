/- laws.small: that it answers. Printed by gen_ME.py. -/
import Derived.Test.YthafpdceknleiaaGreatDoorMD
import Derived.Deep.DeepCutAuto
import Derived.Deep.RegionLaw
open Go Go.RowKit
namespace Go.Proofs.YthafpdceknleiaaGreatDoor
/-- What small tells. -/
def SmallP (l15 : Nat) (s0 : ByteArray) (w : World) (e : Ending) (w' : World) : Prop := Below w.heap.size w w' ∧ ∃ b, e = .returned (.bool b) ∧ (b = true → l15 ≤ 40 ∧ s0.size ≤ 200)
theorem info_key : (Tryz.prog.info? 94).map (fun i => (i.zero, i.size, i.bytes)) = some (some (.agg #[.string ⟨#[]⟩, .string ⟨#[]⟩, .int .i64 0]), 3, 40) := by kernel_rfl
set_option maxRecDepth 100000 in
set_option maxHeartbeats 16000000 in
theorem small_any {s0 : ByteArray} {n1 n2 : Int} {a3 : Option Addr} {l3 c3 : Nat} {a4 : Option Addr} {l4 c4 : Nat} {a5 : Option Addr} {l5 c5 : Nat} {y6 : Bool} {a7 : Option Addr} {l7 c7 : Nat} {y8 : Bool} {a9 : Option Addr} {l9 c9 : Nat} {y10 : Bool} {a11 : Option Addr} {l11 c11 : Nat} {n12 n13 : Int} {s14 : ByteArray} {a15 : Option Addr} {l15 c15 : Nat} {a16 : Option Addr} {l16 c16 : Nat} {w : World} (h3 : SL PKey 3 w (.slice a3 l3 c3)) (h4 : SL PRole 3 w (.slice a4 l4 c4)) (h5 : SL PFile 4 w (.slice a5 l5 c5)) (h7 : SL PKey 3 w (.slice a7 l7 c7)) (h9 : SL PDelRole 6 w (.slice a9 l9 c9)) (h11 : ∃ l, StrR w (.slice a11 l11 c11) l) (h15 : SL PSig 2 w (.slice a15 l15 c15)) :
    Calls Tryz.prog 14 #[.agg #[.string s0, .int .i64 n1, .int .i64 n2, .slice a3 l3 c3, .slice a4 l4 c4, .slice a5 l5 c5, .bool y6, .slice a7 l7 c7, .bool y8, .slice a9 l9 c9, .bool y10, .slice a11 l11 c11, .int .i64 n12, .int .i64 n13, .string s14, .slice a15 l15 c15, .slice a16 l16 c16]] w (SmallP l15 s0 w) := by
  obtain ⟨k0, ki, kz0, kz1, kz2⟩ := info_parts info_key
  obtain ⟨B, hB⟩ : ∃ B, B = w.heap.size := ⟨_, rfl⟩
  obtain ⟨W1, hW1⟩ : ∃ W1, W1 = w.alloc (.cells #[.string s0, .int .i64 n1, .int .i64 n2, .slice a3 l3 c3, .slice a4 l4 c4, .slice a5 l5 c5, .bool y6, .slice a7 l7 c7, .bool y8, .slice a9 l9 c9, .bool y10, .slice a11 l11 c11, .int .i64 n12, .int .i64 n13, .string s14, .slice a15 l15 c15, .slice a16 l16 c16] 34) := ⟨_, rfl⟩
  have hb1 : Below w.heap.size w W1 := by rw [hW1]; exact (Below.refl _ _).alloc (Nat.le_refl _) _
  have HB1 := Lib.hid hb1
  have HS1 : Hid (W1.heap.size = B + 1) := by rw [hW1, World.size_alloc, hB]; exact Lib.hid rfl
  have HC : Hid (∀ W, Below W1.heap.size W1 W → W.cell? ⟨B, 0, none⟩ = some (.string s0) ∧ W.cell? ⟨B, 3, none⟩ = some (.slice a3 l3 c3) ∧ W.cell? ⟨B, 4, none⟩ = some (.slice a4 l4 c4) ∧ W.cell? ⟨B, 5, none⟩ = some (.slice a5 l5 c5) ∧ W.cell? ⟨B, 7, none⟩ = some (.slice a7 l7 c7) ∧ W.cell? ⟨B, 9, none⟩ = some (.slice a9 l9 c9) ∧ W.cell? ⟨B, 11, none⟩ = some (.slice a11 l11 c11) ∧ W.cell? ⟨B, 14, none⟩ = some (.string s14) ∧ W.cell? ⟨B, 15, none⟩ = some (.slice a15 l15 c15) ∧ W.cell? ⟨B, 16, none⟩ = some (.slice a16 l16 c16)) := by
    intro W hb
    have hc := alloc_at w (.cells #[.string s0, .int .i64 n1, .int .i64 n2, .slice a3 l3 c3, .slice a4 l4 c4, .slice a5 l5 c5, .bool y6, .slice a7 l7 c7, .bool y8, .slice a9 l9 c9, .bool y10, .slice a11 l11 c11, .int .i64 n12, .int .i64 n13, .string s14, .slice a15 l15 c15, .slice a16 l16 c16] 34)
    rw [← hB, ← hW1, ← hb.block _ (by rw [HS1.out]; omega)] at hc
    refine ⟨?_, ?_, ?_, ?_, ?_, ?_, ?_, ?_, ?_, ?_⟩ <;> simp [World.cell?, hc]
  have HST : Hid (∀ W, Below W1.heap.size W1 W → Below w.heap.size w W) := fun W hb => hb1.trans (hb.mono hb1.size)
  obtain ⟨W2, hW2⟩ : ∃ W2, W2 = W1.alloc (.cells #[.string s0, .string s14] 9) := ⟨_, rfl⟩
  have HB2 : Hid (Below W1.heap.size W1 W2) := by rw [hW2]; exact Lib.hid ((Below.refl _ _).alloc (Nat.le_refl _) _)
  have H0 : Hid (Calls Tryz.prog 41 #[.int .i64 200, .slice (some ⟨W1.heap.size, 0, none⟩) 2 2] W2 fun e w' => (∃ b, e = .returned (.bool b) ∧ (b = true → s0.size ≤ 200)) ∧ w' = W2) := by
    refine Lib.hid ((shortL_any (l := [s0, s14]) (ao := some ⟨W1.heap.size, 0, none⟩) (cp := 2) (fun j s hj => ⟨_, rfl, ?_⟩) (by simp)).mono fun _ _ ⟨⟨b, g3, g5⟩, g4⟩ => ⟨⟨b, g3, fun h => g5 h s0 (by simp)⟩, g4⟩)
    have hc := alloc_at W1 (.cells #[.string s0, .string s14] 9)
    rw [← hW2] at hc
    match j, hj with
    | 0, hj => cases hj; simp [World.cell?, Addr.add, hc]
    | 1, hj => cases hj; simp [World.cell?, Addr.add, hc]
    | j + 2, hj => cases hj
  have HK3 := Lib.hid h3
  have HK4 := Lib.hid h4
  have HK5 := Lib.hid h5
  have HK7 := Lib.hid h7
  have HK9 := Lib.hid h9
  have HK11 := Lib.hid h11
  have HK15 := Lib.hid h15
  have HW1 := Lib.hid hW1
  have HW2 := Lib.hid hW2
  have HBS := Lib.hid hB
  clear h3 h4 h5 h7 h9 h11 h15 hW1 hW2 hB hb1
  by_cases g0 : 40 < l3
  · have d0 : decide ((40 : Int) < (l3 : Int)) = true := decide_eq_true (by omega)
    go_enter Tryz.func14, Tryz.ntmps14
    go_upto_region 1 with (fail)
    rw [← HW1.out, ← HBS.out]
    obtain ⟨q0, q3, q4, q5, q7, q9, q11, q14, q15, q16⟩ := HC.out W1 (Below.refl _ _)
    go_wp2_with (fail)
    go_ret
    exact ⟨HB1.out, _, rfl, fun h => by cases h⟩
  · have d0 : decide ((40 : Int) < (l3 : Int)) = false := decide_eq_false (by omega)
    by_cases g1 : 12 < l4
    · have d1 : decide ((12 : Int) < (l4 : Int)) = true := decide_eq_true (by omega)
      go_enter Tryz.func14, Tryz.ntmps14
      go_upto_region 1 with (fail)
      rw [← HW1.out, ← HBS.out]
      obtain ⟨q0, q3, q4, q5, q7, q9, q11, q14, q15, q16⟩ := HC.out W1 (Below.refl _ _)
      go_wp2_with (fail)
      go_ret
      exact ⟨HB1.out, _, rfl, fun h => by cases h⟩
    · have d1 : decide ((12 : Int) < (l4 : Int)) = false := decide_eq_false (by omega)
      by_cases g2 : 20 < l5
      · have d2 : decide ((20 : Int) < (l5 : Int)) = true := decide_eq_true (by omega)
        go_enter Tryz.func14, Tryz.ntmps14
        go_upto_region 1 with (fail)
        rw [← HW1.out, ← HBS.out]
        obtain ⟨q0, q3, q4, q5, q7, q9, q11, q14, q15, q16⟩ := HC.out W1 (Below.refl _ _)
        go_wp2_with (fail)
        go_ret
        exact ⟨HB1.out, _, rfl, fun h => by cases h⟩
      · have d2 : decide ((20 : Int) < (l5 : Int)) = false := decide_eq_false (by omega)
        by_cases g3 : 40 < l15
        · have d3 : decide ((40 : Int) < (l15 : Int)) = true := decide_eq_true (by omega)
          go_enter Tryz.func14, Tryz.ntmps14
          go_upto_region 1 with (fail)
          rw [← HW1.out, ← HBS.out]
          obtain ⟨q0, q3, q4, q5, q7, q9, q11, q14, q15, q16⟩ := HC.out W1 (Below.refl _ _)
          go_wp2_with (fail)
          go_ret
          exact ⟨HB1.out, _, rfl, fun h => by cases h⟩
        · have d3 : decide ((40 : Int) < (l15 : Int)) = false := decide_eq_false (by omega)
          by_cases g4 : 4000 < l16
          · have d4 : decide ((4000 : Int) < (l16 : Int)) = true := decide_eq_true (by omega)
            go_enter Tryz.func14, Tryz.ntmps14
            go_upto_region 1 with (fail)
            rw [← HW1.out, ← HBS.out]
            obtain ⟨q0, q3, q4, q5, q7, q9, q11, q14, q15, q16⟩ := HC.out W1 (Below.refl _ _)
            go_wp2_with (fail)
            go_ret
            exact ⟨HB1.out, _, rfl, fun h => by cases h⟩
          · have d4 : decide ((4000 : Int) < (l16 : Int)) = false := decide_eq_false (by omega)
            by_cases g5 : 40 < l7
            · have d5 : decide ((40 : Int) < (l7 : Int)) = true := decide_eq_true (by omega)
              go_enter Tryz.func14, Tryz.ntmps14
              go_upto_region 1 with (fail)
              rw [← HW1.out, ← HBS.out]
              obtain ⟨q0, q3, q4, q5, q7, q9, q11, q14, q15, q16⟩ := HC.out W1 (Below.refl _ _)
              go_wp2_with (fail)
              go_ret
              exact ⟨HB1.out, _, rfl, fun h => by cases h⟩
            · have d5 : decide ((40 : Int) < (l7 : Int)) = false := decide_eq_false (by omega)
              by_cases g6 : 20 < l9
              · have d6 : decide ((20 : Int) < (l9 : Int)) = true := decide_eq_true (by omega)
                go_enter Tryz.func14, Tryz.ntmps14
                go_upto_region 1 with (fail)
                rw [← HW1.out, ← HBS.out]
                obtain ⟨q0, q3, q4, q5, q7, q9, q11, q14, q15, q16⟩ := HC.out W1 (Below.refl _ _)
                go_wp2_with (fail)
                go_ret
                exact ⟨HB1.out, _, rfl, fun h => by cases h⟩
              · have d6 : decide ((20 : Int) < (l9 : Int)) = false := decide_eq_false (by omega)
                by_cases g7 : 40 < l11
                · have d7 : decide ((40 : Int) < (l11 : Int)) = true := decide_eq_true (by omega)
                  go_enter Tryz.func14, Tryz.ntmps14
                  go_upto_region 1 with (fail)
                  rw [← HW1.out, ← HBS.out]
                  obtain ⟨q0, q3, q4, q5, q7, q9, q11, q14, q15, q16⟩ := HC.out W1 (Below.refl _ _)
                  go_wp2_with (fail)
                  go_ret
                  exact ⟨HB1.out, _, rfl, fun h => by cases h⟩
                · have d7 : decide ((40 : Int) < (l11 : Int)) = false := decide_eq_false (by omega)
                  have hl15 : l15 ≤ 40 := by omega
                  have hl3 : l3 ≤ 40 := by omega
                  have hl7 : l7 ≤ 40 := by omega
                  have hl4 : l4 ≤ 12 := by omega
                  have hl5 : l5 ≤ 20 := by omega
                  have hl9 : l9 ≤ 20 := by omega
                  have hl11 : l11 ≤ 40 := by omega
                  clear g0 g1 g2 g3 g4 g5 g6 g7
                  go_enter Tryz.func14, Tryz.ntmps14
                  go_upto_region 1 with (fail)
                  rw [← HW1.out, ← HBS.out]
                  obtain ⟨q0, q3, q4, q5, q7, q9, q11, q14, q15, q16⟩ := HC.out W1 (Below.refl _ _)
                  go_upto_if 73 with (rw [← HW2.out]; go_at_call 41; refine H0.out.mono ?_; rintro e w' ⟨⟨b, rfl, hb⟩, rfl⟩)
                  have HSB := Lib.hid hb
                  clear hb q0 q3 q4 q5 q7 q9 q11 q14 q15 q16 H0 d0 d1 d2 d3 d4 d5 d6 d7
                  cases b with
                  | false =>
                    go_wp2_with (fail)
                    go_ret
                    exact ⟨HST.out _ HB2.out, _, rfl, fun h => by cases h⟩
                  | true =>
                    have HSZ : Hid (s0.size ≤ 200) := HSB.out rfl
                    clear HSB
                    obtain ⟨q0, q3, q4, q5, q7, q9, q11, q14, q15, q16⟩ := HC.out w' HB2.out
                    go_upto_region 3 with (fail)
                    go_cut [81, 82, 83] (fun u v z wx => (∃ ao n c, u = .slice ao n c ∧ v = .int .i64 n ∧ z = .int .i64 0 ∧ n ≤ 80) ∧ SL PKey 3 wx u ∧ Below w'.heap.size w' wx)
                    case first =>
                      as_aux_lemma =>
                        have hk3 := SL.stay (fun _ => PKey.stay (HST.out _ HB2.out)) (HST.out _ HB2.out) HK3.out
                        have hk7 := SL.stay (fun _ => PKey.stay (HST.out _ HB2.out)) (HST.out _ HB2.out) HK7.out
                        have p3 : (w'.alloc (.cells #[] 94)).cell? ⟨B, 3, none⟩ = some (.slice a3 l3 c3) := Lib.cell?_alloc_some _ q3
                        have p7 : (w'.alloc (.cells #[] 94)).cell? ⟨B, 7, none⟩ = some (.slice a7 l7 c7) := Lib.cell?_alloc_some _ q7
                        clear q0 q4 q5 q9 q11 q14 q15 q16
                        have hBlt : B < w'.heap.size := by have := HB2.out.size; have := HS1.out; omega
                        have hbA : Below w'.heap.size w' (w'.alloc (.cells #[] 94)) := (Below.refl _ _).alloc (Nat.le_refl _) _
                        have HKA := Lib.hid (SL.stay (fun _ => PKey.stay hbA) hbA hk3)
                        have HK7' := Lib.hid hk7
                        have HQ7 := Lib.hid q7
                        have HBA := Lib.hid hbA.drew
                        clear hk3 hk7 hbA
                        go_region_law (first
                          | (refine step_append_kq ki kz0 kz1 kz2 w3 rfl (.tmp 77) (.tmp 80) rfl w'.heap.size vo l3 vc ks (by simp [Act.eval]) HO3.out HQ3.out a7 l7 c7 (by simp [Act.eval]) HK73.out (by omega) (by omega) HB3.out.size ?_
                             intro vo2 vc2 w4 ks2 hown2 hkq2 hgr2
                             have HB4 : Hid (Below w'.heap.size w' w4) := Lib.hid (HB3.out.grown hgr2 HB3.out.size (fun k hk => (HO3.out.lt k hk).1))
                             have HSL4 := Lib.hid (sl_own hown2 hkq2)
                             clear hown2 hkq2 hgr2)
                          | (refine step_append_kq ki kz0 kz1 kz2 _ rfl (.tmp 74) (.tmp 76) rfl w'.heap.size (some ⟨w'.heap.size, 0, none⟩) 0 0 [] (by simp [Act.eval]) (World.ownsRow_made w' #[] 0 (Nat.le_refl _) (Nat.zero_le _) rfl) (KQ.nil _) a3 l3 c3 (by simp [Act.eval]) HKA.out (by omega) (by omega) HBA.out.size ?_
                             intro vo vc w3 ks hown hkq hgr
                             rw [Nat.zero_add] at hown hkq
                             have hb3 : Below w'.heap.size w' w3 := HBA.out.grown hgr HBA.out.size (fun k hk => by cases hk; exact Nat.le_refl _)
                             have r7 : w3.cell? ⟨B, 7, none⟩ = some (.slice a7 l7 c7) := (hb3.cell (p := ⟨B, 7, none⟩) hBlt).trans HQ7.out
                             have HO3 := Lib.hid hown
                             have HQ3 := Lib.hid hkq
                             have HB3 := Lib.hid hb3
                             have HK73 := Lib.hid (SL.stay (fun _ => PKey.stay hb3) hb3 HK7'.out)
                             clear hown hkq hgr hb3))
                        all_goals (go_wp2_with (fail); go_meet; (case rel => exact ⟨⟨_, _, _, rfl, rfl, rfl, by omega⟩, HSL4.out, HB4.out⟩))
                    case rest =>
                      obtain ⟨⟨ao, n, c, rfl, rfl, rfl, hn80⟩, hsl, hbx⟩ := hcut
                      have HSL := Lib.hid hsl
                      have HBX : Hid (Below W1.heap.size W1 wc) := Lib.hid (HB2.out.trans (hbx.mono HB2.out.size))
                      clear hsl hbx q0 q3 q4 q5 q7 q9 q11 q14 q15 q16
                      go_wp2_with (fail)
                      go_loopw [83] (fun i wr => ∃ k : Nat, k ≤ n ∧ i = .int .i64 k ∧ Hid (Below wc.heap.size wc wr) ∧ Hid (Below W1.heap.size W1 wr)) (fun i _ => n - (intOf i).toNat)
                      case atStart => exact ⟨0, Nat.zero_le _, rfl, Below.refl _ _, HBX⟩
                      case round =>
                        obtain ⟨k, hk, rfl, HBR, HBR1⟩ := hrel
                        by_cases hlt : k < n
                        · have j1 : decide ((k : Int) < (n : Int)) = true := decide_eq_true (by omega)
                          obtain ⟨a, rfl⟩ : ∃ a, ao = some a := by
                            rcases HSL.out with h | ⟨a, _, _, h, _⟩
                            · injection h with _ h _; omega
                            · injection h with h _ _; exact ⟨a, h⟩
                          obtain ⟨id, kd, nm, e0, e1, e2, -, -, -⟩ := elem_Key HSL.out HBR.out k hlt
                          obtain ⟨Wb, hWb⟩ : ∃ Wb, Wb = wr.alloc (.cells #[.string id, .string kd, .int .i64 nm] 94) := ⟨_, rfl⟩
                          have HBB : Hid (Below W1.heap.size W1 Wb) := by rw [hWb]; exact Lib.hid (HBR1.out.alloc HBR1.out.size _)
                          have HBB2 : Hid (Below wc.heap.size wc Wb) := by rw [hWb]; exact Lib.hid (HBR.out.alloc HBR.out.size _)
                          have HCB : Hid (Wb.cell? ⟨wr.heap.size, 0, none⟩ = some (.string id) ∧ Wb.cell? ⟨wr.heap.size, 1, none⟩ = some (.string kd)) := by
                            have hc := alloc_at wr (.cells #[.string id, .string kd, .int .i64 nm] 94)
                            rw [← hWb] at hc
                            refine ⟨?_, ?_⟩ <;> simp [World.cell?, hc]
                          have HWB := Lib.hid hWb
                          clear hWb
                          obtain ⟨Wc, hWc⟩ : ∃ Wc, Wc = Wb.alloc (.cells #[.string id, .string kd] 9) := ⟨_, rfl⟩
                          have HBC : Hid (Below W1.heap.size W1 Wc) := by rw [hWc]; exact Lib.hid (HBB.out.alloc HBB.out.size _)
                          have HBC2 : Hid (Below Wb.heap.size Wb Wc) := by rw [hWc]; exact Lib.hid ((Below.refl _ _).alloc (Nat.le_refl _) _)
                          have HX : Hid (Calls Tryz.prog 41 #[.int .i64 200, .slice (some ⟨Wb.heap.size, 0, none⟩) 2 2] Wc fun e w' => (∃ b, e = .returned (.bool b)) ∧ w' = Wc) := by
                            refine Lib.hid ((shortL_any (l := [id, kd]) (ao := some ⟨Wb.heap.size, 0, none⟩) (cp := 2) (fun j s hj => ⟨_, rfl, ?_⟩) (by simp)).mono fun _ _ ⟨⟨b, g3, _⟩, g4⟩ => ⟨⟨b, g3⟩, g4⟩)
                            have hc := alloc_at Wb (.cells #[.string id, .string kd] 9)
                            rw [← hWc] at hc
                            match j, hj with
                            | 0, hj => cases hj; simp [World.cell?, Addr.add, hc]
                            | 1, hj => cases hj; simp [World.cell?, Addr.add, hc]
                            | j + 2, hj => cases hj
                          have HWC := Lib.hid hWc
                          clear hWc
                          go_upto_region 6 with (fail)
                          rw [← HWB.out]
                          clear e0 e1 e2
                          obtain ⟨f0, f1⟩ := HCB.out
                          go_wp2_with (rw [← HWC.out]; go_at_call 41; refine HX.out.mono ?_; rintro e w2 ⟨⟨b, rfl⟩, rfl⟩; cases b)
                          · go_ret
                            exact ⟨HST.out _ HBC.out, _, rfl, fun h => by cases h⟩
                          · go_roundw
                            case rel => exact ⟨k + 1, by omega, by go_num, Lib.hid (HBB2.out.trans (HBC2.out.mono HBB2.out.size)), HBC⟩
                            case measure => simp [intOf]; omega
                        · have j1 : decide ((k : Int) < (n : Int)) = false := decide_eq_false (by omega)
                          clear HBR HSL
                          obtain ⟨q0, q3, q4, q5, q7, q9, q11, q14, q15, q16⟩ := HC.out wr HBR1.out
                          go_wp2_with (fail)
                          clear q0 q3 q4 q5 q7 q9 q11 q14 q15 q16
                          go_loopw [98] (fun i wr => ∃ k : Nat, k ≤ l4 ∧ i = .int .i64 k ∧ Hid (Below W1.heap.size W1 wr)) (fun i _ => l4 - (intOf i).toNat)
                          case atStart => exact ⟨0, Nat.zero_le _, rfl, HBR1⟩
                          case round =>
                            clear HBR1
                            obtain ⟨k, hk, rfl, HBR1⟩ := hrel
                            by_cases hlt : k < l4
                            · have j1 : decide ((k : Int) < (l4 : Int)) = true := decide_eq_true (by omega)
                              obtain ⟨a, rfl⟩ : ∃ a, a4 = some a := by
                                rcases HK4.out with h | ⟨a, _, _, h, _⟩
                                · injection h with _ h _; omega
                                · injection h with h _ _; exact ⟨a, h⟩
                              obtain ⟨id, ra, rl, rc, nm, e0, e1, e2, -, hst, -⟩ := elem_Role HK4.out (HST.out _ HBR1.out) k hlt
                              obtain ⟨Wb, hWb⟩ : ∃ Wb, Wb = wr.alloc (.cells #[.string id, .slice ra rl rc, .int .i64 nm] 96) := ⟨_, rfl⟩
                              have HBB : Hid (Below W1.heap.size W1 Wb) := by rw [hWb]; exact Lib.hid (HBR1.out.alloc HBR1.out.size _)
                              have HBB2 : Hid (Below wr.heap.size wr Wb) := by rw [hWb]; exact Lib.hid ((Below.refl _ _).alloc (Nat.le_refl _) _)
                              have HCB : Hid (Wb.cell? ⟨wr.heap.size, 0, none⟩ = some (.string id) ∧ Wb.cell? ⟨wr.heap.size, 1, none⟩ = some (.slice ra rl rc)) := by
                                have hc := alloc_at wr (.cells #[.string id, .slice ra rl rc, .int .i64 nm] 96)
                                rw [← hWb] at hc
                                refine ⟨?_, ?_⟩ <;> simp [World.cell?, hc]
                              have HWB := Lib.hid hWb
                              clear hWb
                              have HSTR := Lib.hid hst
                              clear hst
                              obtain ⟨Wc, hWc⟩ : ∃ Wc, Wc = Wb.alloc (.cells #[.string id] 9) := ⟨_, rfl⟩
                              have HBC : Hid (Below W1.heap.size W1 Wc) := by rw [hWc]; exact Lib.hid (HBB.out.alloc HBB.out.size _)
                              have HBC2 : Hid (Below Wb.heap.size Wb Wc) := by rw [hWc]; exact Lib.hid ((Below.refl _ _).alloc (Nat.le_refl _) _)
                              have HX : Hid (Calls Tryz.prog 41 #[.int .i64 200, .slice (some ⟨Wb.heap.size, 0, none⟩) 1 1] Wc fun e w' => (∃ b, e = .returned (.bool b)) ∧ w' = Wc) := by
                                refine Lib.hid ((shortL_any (l := [id]) (ao := some ⟨Wb.heap.size, 0, none⟩) (cp := 1) (fun j s hj => ⟨_, rfl, ?_⟩) (by simp)).mono fun _ _ ⟨⟨b, g3, _⟩, g4⟩ => ⟨⟨b, g3⟩, g4⟩)
                                have hc := alloc_at Wb (.cells #[.string id] 9)
                                rw [← hWc] at hc
                                match j, hj with
                                | 0, hj => cases hj; simp [World.cell?, Addr.add, hc]
                                | j + 1, hj => cases hj
                              have HWC := Lib.hid hWc
                              clear hWc
                              have HBWC : Hid (Below wr.heap.size wr Wc) := Lib.hid (HBB2.out.trans (HBC2.out.mono HBB2.out.size))
                              have HRL : Hid (rl ≤ 40 → Calls Tryz.prog 41 #[.int .i64 200, .slice ra rl rc] Wc fun e w' => (∃ b, e = .returned (.bool b)) ∧ w' = Wc) := Lib.hid (fun h => by
                                obtain ⟨l, hl⟩ := HSTR.out
                                obtain ⟨g1, g2⟩ := txtR_of (hl.stay HBWC.out)
                                subst g2
                                exact (shortL_any g1 (by omega)).mono fun _ _ ⟨⟨b, g3, _⟩, g4⟩ => ⟨⟨b, g3⟩, g4⟩)
                              go_upto_region 12 with (fail)
                              rw [← HWB.out]
                              clear e0 e1 e2
                              obtain ⟨f0, f1⟩ := HCB.out
                              by_cases g : 40 < rl
                              · have d1 : decide ((40 : Int) < (rl : Int)) = true := decide_eq_true (by omega)
                                go_wp2_with (fail)
                                go_ret
                                exact ⟨HST.out _ HBB.out, _, rfl, fun h => by cases h⟩
                              · have d1 : decide ((40 : Int) < (rl : Int)) = false := decide_eq_false (by omega)
                                have HX2 := Lib.hid (HRL.out (by omega))
                                clear g HRL
                                go_wp2_with (first
                                  | (rw [← HWC.out]; go_at_call 41; refine HX.out.mono ?_; rintro e w2 ⟨⟨b, rfl⟩, rfl⟩
                                     have f1 := (HBC2.out.cell (cell_lt HCB.out.2)).trans HCB.out.2
                                     clear HX HWC
                                     cases b)
                                  | (go_at_call 41; refine HX2.out.mono ?_; rintro e w2 ⟨⟨b, rfl⟩, rfl⟩; clear HX2; cases b))
                                all_goals first
                                  | (go_ret; exact ⟨HST.out _ HBC.out, _, rfl, fun h => by cases h⟩)
                                  | (go_roundw; (case rel => exact ⟨k + 1, by omega, by go_num, HBC⟩); (case measure => simp [intOf]; omega))
                            · have j1 : decide ((k : Int) < (l4 : Int)) = false := decide_eq_false (by omega)
                              obtain ⟨q0, q3, q4, q5, q7, q9, q11, q14, q15, q16⟩ := HC.out wr HBR1.out
                              go_wp2_with (fail)
                              clear q0 q3 q4 q5 q7 q9 q11 q14 q15 q16
                              go_loopw [123] (fun i wr => ∃ k : Nat, k ≤ l5 ∧ i = .int .i64 k ∧ Hid (Below W1.heap.size W1 wr)) (fun i _ => l5 - (intOf i).toNat)
                              case atStart => exact ⟨0, Nat.zero_le _, rfl, HBR1⟩
                              case round =>
                                clear HBR1
                                obtain ⟨k, hk, rfl, HBR1⟩ := hrel
                                by_cases hlt : k < l5
                                · have j1 : decide ((k : Int) < (l5 : Int)) = true := decide_eq_true (by omega)
                                  obtain ⟨a, rfl⟩ : ∃ a, a5 = some a := by
                                    rcases HK5.out with h | ⟨a, _, _, h, _⟩
                                    · injection h with _ h _; omega
                                    · injection h with h _ _; exact ⟨a, h⟩
                                  obtain ⟨id, nn, ra, rl, rc, nm, e0, e1, e2, e3, -, -, hsl, -⟩ := elem_File HK5.out (HST.out _ HBR1.out) k hlt
                                  obtain ⟨Wb, hWb⟩ : ∃ Wb, Wb = wr.alloc (.cells #[.string id, .int .i64 nn, .slice ra rl rc, .int .i64 nm] 54) := ⟨_, rfl⟩
                                  have HBB : Hid (Below W1.heap.size W1 Wb) := by rw [hWb]; exact Lib.hid (HBR1.out.alloc HBR1.out.size _)
                                  have HBB2 : Hid (Below wr.heap.size wr Wb) := by rw [hWb]; exact Lib.hid ((Below.refl _ _).alloc (Nat.le_refl _) _)
                                  have HCB : Hid (Wb.cell? ⟨wr.heap.size, 0, none⟩ = some (.string id) ∧ Wb.cell? ⟨wr.heap.size, 1, none⟩ = some (.int .i64 nn) ∧ Wb.cell? ⟨wr.heap.size, 2, none⟩ = some (.slice ra rl rc) ∧ Wb.cell? ⟨wr.heap.size, 3, none⟩ = some (.int .i64 nm)) := by
                                    have hc := alloc_at wr (.cells #[.string id, .int .i64 nn, .slice ra rl rc, .int .i64 nm] 54)
                                    rw [← hWb] at hc
                                    refine ⟨?_, ?_, ?_, ?_⟩ <;> simp [World.cell?, hc]
                                  have HWB := Lib.hid hWb
                                  clear hWb
                                  have HX : Hid (Calls Tryz.prog 21 #[.agg #[.string id, .int .i64 nn, .slice ra rl rc, .int .i64 nm]] Wb (SomeB Wb)) := by
                                    obtain ⟨l, hl⟩ := hsR_of hsl
                                    exact Lib.hid (little_some (hl.stay HBB2.out))
                                  clear hsl
                                  go_upto_region 18 with (fail)
                                  rw [← HWB.out]
                                  clear e0 e1 e2 e3
                                  obtain ⟨f0, f1, f2, f3⟩ := HCB.out
                                  go_wp2_with (go_at_call 21; refine HX.out.mono ?_; rintro e w2 ⟨b, rfl, hb⟩
                                               have HBC : Hid (Below W1.heap.size W1 w2) := Lib.hid (HBB.out.trans (hb.mono HBB.out.size))
                                               clear hb HX
                                               cases b)
                                  · go_ret
                                    exact ⟨HST.out _ HBC.out, _, rfl, fun h => by cases h⟩
                                  · go_roundw
                                    case rel => exact ⟨k + 1, by omega, by go_num, HBC⟩
                                    case measure => simp [intOf]; omega
                                · have j1 : decide ((k : Int) < (l5 : Int)) = false := decide_eq_false (by omega)
                                  obtain ⟨q0, q3, q4, q5, q7, q9, q11, q14, q15, q16⟩ := HC.out wr HBR1.out
                                  go_wp2_with (fail)
                                  clear q0 q3 q4 q5 q7 q9 q11 q14 q15 q16
                                  go_loopw [134] (fun i wr => ∃ k : Nat, k ≤ l15 ∧ i = .int .i64 k ∧ Hid (Below W1.heap.size W1 wr)) (fun i _ => l15 - (intOf i).toNat)
                                  case atStart => exact ⟨0, Nat.zero_le _, rfl, HBR1⟩
                                  case round =>
                                    clear HBR1
                                    obtain ⟨k, hk, rfl, HBR1⟩ := hrel
                                    by_cases hlt : k < l15
                                    · have j1 : decide ((k : Int) < (l15 : Int)) = true := decide_eq_true (by omega)
                                      obtain ⟨a, rfl⟩ : ∃ a, a15 = some a := by
                                        rcases HK15.out with h | ⟨a, _, _, h, _⟩
                                        · injection h with _ h _; omega
                                        · injection h with h _ _; exact ⟨a, h⟩
                                      obtain ⟨id, nn, e0, e1, -, -⟩ := elem_Sig HK15.out (HST.out _ HBR1.out) k hlt
                                      obtain ⟨Wb, hWb⟩ : ∃ Wb, Wb = wr.alloc (.cells #[.string id, .int .i64 nn] 38) := ⟨_, rfl⟩
                                      have HBB : Hid (Below W1.heap.size W1 Wb) := by rw [hWb]; exact Lib.hid (HBR1.out.alloc HBR1.out.size _)
                                      have HCB : Hid (Wb.cell? ⟨wr.heap.size, 0, none⟩ = some (.string id)) := by
                                        refine Lib.hid ?_
                                        have hc := alloc_at wr (.cells #[.string id, .int .i64 nn] 38)
                                        rw [← hWb] at hc
                                        simp [World.cell?, hc]
                                      have HWB := Lib.hid hWb
                                      clear hWb
                                      obtain ⟨Wc, hWc⟩ : ∃ Wc, Wc = Wb.alloc (.cells #[.string id] 9) := ⟨_, rfl⟩
                                      have HBC : Hid (Below W1.heap.size W1 Wc) := by rw [hWc]; exact Lib.hid (HBB.out.alloc HBB.out.size _)
                                      have HBC2 : Hid (Below Wb.heap.size Wb Wc) := by rw [hWc]; exact Lib.hid ((Below.refl _ _).alloc (Nat.le_refl _) _)
                                      have HX : Hid (Calls Tryz.prog 41 #[.int .i64 200, .slice (some ⟨Wb.heap.size, 0, none⟩) 1 1] Wc fun e w' => (∃ b, e = .returned (.bool b)) ∧ w' = Wc) := by
                                        refine Lib.hid ((shortL_any (l := [id]) (ao := some ⟨Wb.heap.size, 0, none⟩) (cp := 1) (fun j s hj => ⟨_, rfl, ?_⟩) (by simp)).mono fun _ _ ⟨⟨b, g3, _⟩, g4⟩ => ⟨⟨b, g3⟩, g4⟩)
                                        have hc := alloc_at Wb (.cells #[.string id] 9)
                                        rw [← hWc] at hc
                                        match j, hj with
                                        | 0, hj => cases hj; simp [World.cell?, Addr.add, hc]
                                        | j + 1, hj => cases hj
                                      have HWC := Lib.hid hWc
                                      clear hWc
                                      go_upto_region 24 with (fail)
                                      rw [← HWB.out]
                                      clear e0 e1
                                      have f0 := HCB.out
                                      go_wp2_with (rw [← HWC.out]; go_at_call 41; refine HX.out.mono ?_; rintro e w2 ⟨⟨b, rfl⟩, rfl⟩; cases b)
                                      · go_ret
                                        exact ⟨HST.out _ HBC.out, _, rfl, fun h => by cases h⟩
                                      · go_roundw
                                        case rel => exact ⟨k + 1, by omega, by go_num, HBC⟩
                                        case measure => simp [intOf]; omega
                                    · have j1 : decide ((k : Int) < (l15 : Int)) = false := decide_eq_false (by omega)
                                      obtain ⟨q0, q3, q4, q5, q7, q9, q11, q14, q15, q16⟩ := HC.out wr HBR1.out
                                      go_wp2_with (fail)
                                      clear q0 q3 q4 q5 q7 q9 q11 q14 q15 q16
                                      go_loopw [148] (fun i wr => ∃ k : Nat, k ≤ l9 ∧ i = .int .i64 k ∧ Hid (Below W1.heap.size W1 wr)) (fun i _ => l9 - (intOf i).toNat)
                                      case atStart => exact ⟨0, Nat.zero_le _, rfl, HBR1⟩
                                      case round =>
                                        clear HBR1
                                        obtain ⟨k, hk, rfl, HBR1⟩ := hrel
                                        by_cases hlt : k < l9
                                        · have j1 : decide ((k : Int) < (l9 : Int)) = true := decide_eq_true (by omega)
                                          obtain ⟨a, rfl⟩ : ∃ a, a9 = some a := by
                                            rcases HK9.out with h | ⟨a, _, _, h, _⟩
                                            · injection h with _ h _; omega
                                            · injection h with h _ _; exact ⟨a, h⟩
                                          obtain ⟨id, ra, rl, rc, nn, yy, ba, bl, bc, da, dl, dc, e0, e1, e2, e3, e4, e5, -, g1, -, g2, g3⟩ := elem_DelRole HK9.out (HST.out _ HBR1.out) k hlt
                                          obtain ⟨Wb, hWb⟩ : ∃ Wb, Wb = wr.alloc (.cells #[.string id, .slice ra rl rc, .int .i64 nn, .bool yy, .slice ba bl bc, .slice da dl dc] 98) := ⟨_, rfl⟩
                                          have HBB : Hid (Below W1.heap.size W1 Wb) := by rw [hWb]; exact Lib.hid (HBR1.out.alloc HBR1.out.size _)
                                          have HBB2 : Hid (Below wr.heap.size wr Wb) := by rw [hWb]; exact Lib.hid ((Below.refl _ _).alloc (Nat.le_refl _) _)
                                          have HCB : Hid (Wb.cell? ⟨wr.heap.size, 0, none⟩ = some (.string id) ∧ Wb.cell? ⟨wr.heap.size, 1, none⟩ = some (.slice ra rl rc) ∧ Wb.cell? ⟨wr.heap.size, 2, none⟩ = some (.int .i64 nn) ∧ Wb.cell? ⟨wr.heap.size, 3, none⟩ = some (.bool yy) ∧ Wb.cell? ⟨wr.heap.size, 4, none⟩ = some (.slice ba bl bc) ∧ Wb.cell? ⟨wr.heap.size, 5, none⟩ = some (.slice da dl dc)) := by
                                            have hc := alloc_at wr (.cells #[.string id, .slice ra rl rc, .int .i64 nn, .bool yy, .slice ba bl bc, .slice da dl dc] 98)
                                            rw [← hWb] at hc
                                            refine ⟨?_, ?_, ?_, ?_, ?_, ?_⟩ <;> simp [World.cell?, hc]
                                          have HWB := Lib.hid hWb
                                          clear hWb
                                          have HX : Hid (Calls Tryz.prog 42 #[.agg #[.string id, .slice ra rl rc, .int .i64 nn, .bool yy, .slice ba bl bc, .slice da dl dc]] Wb (SomeB Wb)) := Lib.hid (few_some (g1.imp fun _ h => h.stay HBB2.out) (g2.imp fun _ h => h.stay HBB2.out) (g3.imp fun _ h => h.stay HBB2.out))
                                          clear g1 g2 g3
                                          go_upto_region 30 with (fail)
                                          rw [← HWB.out]
                                          clear e0 e1 e2 e3 e4 e5
                                          obtain ⟨f0, f1, f2, f3, f4, f5⟩ := HCB.out
                                          go_wp2_with (go_at_call 42; refine HX.out.mono ?_; rintro e w2 ⟨b, rfl, hb⟩
                                                       have HBC : Hid (Below W1.heap.size W1 w2) := Lib.hid (HBB.out.trans (hb.mono HBB.out.size))
                                                       clear hb HX
                                                       cases b)
                                          · go_ret
                                            exact ⟨HST.out _ HBC.out, _, rfl, fun h => by cases h⟩
                                          · go_roundw
                                            case rel => exact ⟨k + 1, by omega, by go_num, HBC⟩
                                            case measure => simp [intOf]; omega
                                        · have j1 : decide ((k : Int) < (l9 : Int)) = false := decide_eq_false (by omega)
                                          obtain ⟨q0, q3, q4, q5, q7, q9, q11, q14, q15, q16⟩ := HC.out wr HBR1.out
                                          have HX : Hid (Calls Tryz.prog 41 #[.int .i64 200, .slice a11 l11 c11] wr fun e w' => (∃ b, e = .returned (.bool b)) ∧ w' = wr) := by
                                            obtain ⟨l, hl⟩ := HK11.out
                                            obtain ⟨g1, g2⟩ := txtR_of (hl.stay (HST.out _ HBR1.out))
                                            subst g2
                                            exact Lib.hid ((shortL_any g1 (by omega)).mono fun _ _ ⟨⟨b, g3, _⟩, g4⟩ => ⟨⟨b, g3⟩, g4⟩)
                                          go_wp2_with (go_at_call 41; refine HX.out.mono ?_; rintro e w2 ⟨⟨b, rfl⟩, rfl⟩)
                                          go_ret
                                          exact ⟨HST.out _ HBR1.out, _, rfl, fun _ => ⟨hl15, HSZ.out⟩⟩
end Go.Proofs.YthafpdceknleiaaGreatDoor
