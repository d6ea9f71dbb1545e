/- impl.Canon at a string; laws.FnCanonString. -/
import Derived.Test.YtlliohgbbboleaaGreatDoorV1
import Derived.Test.YtlliohgbbboleaaGreatDoorV2
import Derived.Test.YtlliohgbbboleaaGreatDoorA1
import Derived.Deep.RegionHeld3
open Go Go.RowKit
namespace Go.Proofs.YtlliohgbbboleaaGreatDoor
theorem below_step4 {n : Nat} {w W W' : World} (h : Below n w W) (hn : n ≤ w.heap.size) (h2 : Below W.heap.size W W') : Below n w W' := h.trans (h2.mono (Nat.le_trans hn h.size))
set_option maxRecDepth 100000 in
set_option maxHeartbeats 8000000 in
theorem canon_str (s : ByteArray) (w : World) (hs : s.size ≤ 65536) :
    Calls Tryz.prog 16 #[.agg #[.string ⟨#[115, 116, 114, 105, 110, 103]⟩, .string s, .slice none 0 0, .slice none 0 0]] w fun e w' => ∃ v, e = .returned (.tuple #[v, .bool true]) ∧ BSrc w' v (encStr s.data.toList) ∧ Below w.heap.size w w' := by
  obtain ⟨W, hW⟩ : ∃ W, W = w.alloc (.cells #[.string ⟨#[115, 116, 114, 105, 110, 103]⟩, .string s, .slice none 0 0, .slice none 0 0] 52) := ⟨_, rfl⟩
  have HB : Hid (Below w.heap.size w W) := by show Below _ _ _; rw [hW]; exact (Below.refl _ _).alloc (Nat.le_refl _) _
  have HW := Lib.hid hW
  have HS := Lib.hid hs
  clear hW hs
  go_enter Tryz.func16, Tryz.ntmps16
  go_wp2_with (fail)
  rw [← HW.out]
  clear HW
  refine (value_str s W).mono ?_
  rintro e w1 ⟨rfl, hb⟩
  have HB1 := Lib.hid (HB.out.trans (hb.mono HB.out.size))
  have HCV : Hid (CV (fun _ => False) w1 (.iface 9 (.string s)) (encStr s.data.toList)) := CV.str s (by have := HS.out; omega)
  have HL : Hid ((encStr s.data.toList).length ≤ 4294967296) := by
    show _ ≤ _
    rw [encStr_can]
    have h1 := canB_len s.data.toList
    have h3 : s.data.toList.length = s.size := (Lib.size_eq s).symm
    have := HS.out
    simp only [List.length_append, List.length_cons, List.length_nil]
    omega
  clear hb
  go_wp2_with (fail)
  refine (encodeCanonical_any HCV.out (fun i hi => hi.elim) HL.out).mono ?_
  rintro e w2 ⟨v, rfl, hv, hb⟩
  have HV := Lib.hid hv
  have HB2 := Lib.hid (HB1.out.trans (hb.mono HB1.out.size))
  clear hv hb
  go_wp2_with (fail)
  go_quiet (fail)
  go_wp2_with (fail)
  go_ret2
  exact ⟨v, rfl, HV.out, ⟨HB2.out.os, HB2.out.tape, HB2.out.output, HB2.out.size, HB2.out.block⟩⟩
set_option maxRecDepth 100000 in
set_option maxHeartbeats 8000000 in
theorem fnCanonString_any (s : ByteArray) (hs : s.size ≤ maxLen) (N : Nat) (w : World) (hN : TL N w) :
    Calls Tryz.prog 7 #[.string s] w fun e w' => e = .returned (.bool true) ∧ Below w.heap.size w w' := by
  unfold maxLen at hs
  have HN := Lib.hid hN
  clear hN
  by_cases h1 : 2147483647 < s.size
  · have i1 : (2147483647 : Int) < (s.size : Int) := by omega
    go_enter Tryz.func7, Tryz.ntmps7
    go_wp2_with (fail)
    go_ret
    exact ⟨rfl, Below.refl _ _⟩
  have i1 : ¬ (2147483647 : Int) < (s.size : Int) := by omega
  have HV : Hid (∀ W, Calls Tryz.prog 15 #[.string s] W (VldP s W)) := valid_any s (by omega)
  by_cases h2 : 4000 < s.size
  · have i2 : (4000 : Int) < (s.size : Int) := by omega
    cases hv : vld s s.size 0 <;>
    · go_enter Tryz.func7, Tryz.ntmps7
      go_wp2_with (fail)
      refine (HV.out _).mono ?_
      rintro e w1 ⟨rfl, hb⟩
      rw [hv]
      have HB1 := Lib.hid hb
      clear hb
      go_wp2_with (fail)
      refine (awake_true N w1 (HN.out.mono HN.out.le HB1.out)).mono ?_
      rintro e w2 ⟨rfl, hb⟩
      have HB2 : Hid (Below w.heap.size w w2) := HB1.out.trans (hb.mono HB1.out.size)
      clear hb
      go_wp2_with (fail)
      go_ret
      exact ⟨rfl, HB2.out⟩
  have i2 : ¬ (4000 : Int) < (s.size : Int) := by omega
  cases hv : vld s s.size 0 with
  | false =>
    go_enter Tryz.func7, Tryz.ntmps7
    go_wp2_with (fail)
    refine (HV.out _).mono ?_
    rintro e w1 ⟨rfl, hb⟩
    rw [hv]
    have HB1 := Lib.hid hb
    clear hb
    go_wp2_with (fail)
    refine (awake_true N w1 (HN.out.mono HN.out.le HB1.out)).mono ?_
    rintro e w2 ⟨rfl, hb⟩
    have HB2 : Hid (Below w.heap.size w w2) := HB1.out.trans (hb.mono HB1.out.size)
    clear hb
    go_wp2_with (fail)
    go_ret
    exact ⟨rfl, HB2.out⟩
  | true =>
    obtain ⟨c, hc⟩ : ∃ c : ByteArray, c = ⟨(encStr s.data.toList).toArray⟩ := ⟨_, rfl⟩
    have HC : Hid (∀ W, Calls Tryz.prog 17 #[.string s] W fun e w' => e = .returned (.string c) ∧ Below W.heap.size W w') := by rw [hc]; exact canonical_any s (by omega)
    have HCC : Hid (∀ (w : World) (v : Value), BSrc w v (encStr s.data.toList) → (convert 22 9 v).run Tryz.prog w = .ok (.string c) w) := fun w v h => by rw [hc]; exact h.conv
    clear hc
    go_enter Tryz.func7, Tryz.ntmps7
    go_wp2_with (fail)
    refine (HV.out _).mono ?_
    rintro e w1 ⟨rfl, hb⟩
    rw [hv]
    have HB1 := Lib.hid hb
    clear hb
    go_wp2_with (fail)
    refine (canon_str s w1 (by omega)).mono ?_
    rintro e w2 ⟨v, rfl, hv2, hb⟩
    have HV2 := Lib.hid hv2
    have HB2 := Lib.hid (below_step4 HB1.out (Nat.le_refl _) hb)
    have hB0 : Below w2.heap.size w2 w2.drew := (Below.refl _ _).drew
    have c0 := HCC.out _ _ (HV2.out.stay hB0)
    clear hv2 hb
    go_wp2_with (fail)
    go_region_held3 (fun W' => (convert 22 9 v).run Tryz.prog W' = .ok (.string c) W') (first | exact c0 | exact g0) (first | (go_at_call 17; go_must (go_fit (HC.out _)); rintro e w3 ⟨rfl, hb3⟩; have hbb := below_step4 (by assumption) (Nat.le_refl _) hb3; have g0 := HCC.out _ _ (HV2.out.stay hbb)) | (go_at_call 9; go_must (go_fit (awake_true N _ (HN.out.mono HN.out.le (below_step4 HB2.out (Nat.le_refl _) (by assumption))))); rintro e w4 ⟨rfl, hb4⟩; have hbc := below_step4 (by assumption) (Nat.le_refl _) hb4; have g0 := HCC.out _ _ (HV2.out.stay hbc)))
    all_goals
      have HBC := Lib.hid (below_step4 HB2.out (Nat.le_refl _) hbc)
      clear hbc hbb c0 g0 hB0
      go_wp2_with (fail)
      go_ret
      exact ⟨rfl, HBC.out⟩
end Go.Proofs.YtlliohgbbboleaaGreatDoor
