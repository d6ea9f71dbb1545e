/- laws.FnCanonInteger. -/
import Derived.Test.YtngifhngangpeaaGreatDoorI2
import Derived.Deep.RegionHeld3
open Go Go.RowKit
namespace Go.Proofs.YtngifhngangpeaaGreatDoor
set_option maxRecDepth 100000 in
set_option maxHeartbeats 8000000 in
theorem fnCI_neg (n pt : Nat) (hn : n < 18446744073709551616) (hp : pt < 18446744073709551616) (hpos : 0 < n % 9007199254740993) (N : Nat) (w : World) (hN : TL N w) :
    Calls Tryz.prog 5 #[.int .u64 n, .bool true, .int .u64 pt] w fun e w' => e = .returned (.bool true) ∧ Below w.heap.size w w' := by
  have HN := Lib.hid hN
  obtain ⟨m, hm⟩ : ∃ m, m = n % 9007199254740993 := ⟨_, rfl⟩
  have hml : m ≤ 9007199254740992 := by omega
  have hmod : (n : Int) % 9007199254740993 = (m : Int) := by omega
  obtain ⟨q, hq⟩ : ∃ q, q = pt % 1000 * 2 + 1 := ⟨_, rfl⟩
  have hql : q ≤ 3000 := by omega
  have hqm : (pt : Int) % 1000 * 2 + 1 = (q : Int) := by omega
  obtain ⟨d, hd⟩ : ∃ d : ByteArray, d = ⟨(Lib.decDigits m).toArray⟩ := ⟨_, rfl⟩
  obtain ⟨d2, hd2⟩ : ∃ d2 : ByteArray, d2 = ⟨(Lib.decDigits q).toArray⟩ := ⟨_, rfl⟩
  have hmp : 0 < m := by rw [hm]; exact hpos
  obtain ⟨S, hS⟩ : ∃ S : ByteArray, S = ⟨#[45]⟩ ++ d := ⟨_, rfl⟩
  have hSL : S.data.toList = intText true m := by rw [hS, hd, intText, if_pos ⟨rfl, hmp⟩]; simp [ByteArray.data_append]
  have hcat := hS.symm
  have i1 : (0 : Int) < (m : Int) := by omega
  have hzd : ¬ 9223372036854775807 < 1 + d.size := by
    rw [hd]
    have h : (Lib.decDigits m).length ≤ 40 := by rw [← Lib.itoa_nonneg]; exact Nat.le_trans (Lib.itoa_length_le m (by omega) (by omega)) (by decide)
    show ¬ _ < 1 + (List.toArray _).size
    rw [List.size_toArray]; omega
  have hSz : S.size ≤ 50 := by rw [Lib.size_eq, hSL]; exact intText_len true m hml
  obtain ⟨v0, hv0⟩ := int_ok true m hml
  rw [← hSL] at hv0
  obtain ⟨T, hT⟩ : ∃ T : ByteArray, T = S ++ ⟨#[46]⟩ ++ d2 := ⟨_, rfl⟩
  have hTL : T.data.toList = intText true m ++ 46 :: Lib.decDigits q := by rw [hT]; simp only [ByteArray.data_append, Array.toList_append, hSL, hd2]; simp
  have hd2l : d2.size ≤ 40 := by rw [hd2, ← Lib.itoa_nonneg]; show (List.toArray _).size ≤ _; rw [List.size_toArray]; exact itoa_short q (by omega)
  have hTz : T.size ≤ 100 := by rw [hT]; simp only [ByteArray.size_append]; have : (⟨#[46]⟩ : ByteArray).size = 1 := rfl; omega
  have hbad := int_dot true m hml (Lib.decDigits q)
  rw [← hTL] at hbad
  have hcat2 := hT.symm
  have HD : Hid (∀ W, Calls Tryz.prog 19 #[.int .u64 (m : Int)] W fun e w' => e = .returned (.string d) ∧ Below W.heap.size W w') := fun W => by rw [hd]; exact digits_any m hml W
  have HD2 : Hid (∀ W, Calls Tryz.prog 19 #[.int .u64 (q : Int)] W fun e w' => e = .returned (.string d2) ∧ Below W.heap.size W w') := fun W => by rw [hd2]; exact digits_any q (by omega) W
  have HC1 : Hid (∀ W, Calls Tryz.prog 20 #[.agg #[.string ⟨#[110, 117, 109, 98, 101, 114]⟩, .string S, .slice none 0 0, .slice none 0 0]] W fun e w' => ∃ v, e = .returned (.tuple #[v, .bool true]) ∧ BSrc w' v S.data.toList ∧ Below W.heap.size W w') := fun W => canon_num S (by omega) v0 hv0 W
  have HC2 : Hid (∀ W, TL N W → Calls Tryz.prog 20 #[.agg #[.string ⟨#[110, 117, 109, 98, 101, 114]⟩, .string T, .slice none 0 0, .slice none 0 0]] W fun e w' => ∃ v, e = .returned (.tuple #[v, .bool false]) ∧ Below W.heap.size W w') := fun W hW => canon_num_bad T (by omega) hbad hW
  have HCV : Hid (∀ (w : World) (v : Value), BSrc w v S.data.toList → (convert 22 9 v).run Tryz.prog w = .ok (.string S) w) := fun w v h => by
    have := h.conv
    simpa using this
  have hz1 : ¬ 9223372036854775807 < S.size + 1 := by omega
  have hz2 : ¬ 9223372036854775807 < S.size + 1 + d2.size := by omega
  clear hN hm hd hd2 hq hSL hTL hv0 hbad hT hS
  go_enter Tryz.func5, Tryz.ntmps5
  go_wp2_with (fail)
  refine (HD.out _).mono ?_
  rintro e w1 ⟨rfl, hb⟩
  have HB1 := Lib.hid hb
  clear hb
  go_wp2_with (fail)
  refine (HC1.out _).mono ?_
  rintro e w2 ⟨v1, rfl, hv1, hb⟩
  have HV1 := Lib.hid hv1
  have HB2 := Lib.hid (below_step6 HB1.out (Nat.le_refl _) hb)
  clear hv1 hb
  go_wp2_with (fail)
  refine (HD2.out _).mono ?_
  rintro e w3 ⟨rfl, hb⟩
  have HB3 := Lib.hid (below_step6 HB2.out (Nat.le_refl _) hb)
  have HV3 := Lib.hid (HV1.out.stay hb)
  clear hb HV1
  go_wp2_with (fail)
  refine (HC2.out _ (HN.out.mono HN.out.le HB3.out)).mono ?_
  rintro e w4 ⟨v2, rfl, hb⟩
  have HB4 := Lib.hid (below_step6 HB3.out (Nat.le_refl _) hb)
  have HV4 := Lib.hid (HV3.out.stay hb)
  have c1 := HCV.out _ _ HV4.out
  clear hb HV3
  go_wp2_with (fail)
  refine (awake_true N w4 (HN.out.mono HN.out.le HB4.out)).mono ?_
  rintro e w5 ⟨rfl, hb⟩
  have HB5 := Lib.hid (below_step6 HB4.out (Nat.le_refl _) hb)
  clear hb
  go_wp2_with (fail)
  go_ret
  exact ⟨rfl, HB5.out⟩
set_option maxRecDepth 100000 in
set_option maxHeartbeats 8000000 in
theorem fnCI_false (n pt : Nat) (hn : n < 18446744073709551616) (hp : pt < 18446744073709551616) (N : Nat) (w : World) (hN : TL N w) :
    Calls Tryz.prog 5 #[.int .u64 n, .bool false, .int .u64 pt] w fun e w' => e = .returned (.bool true) ∧ Below w.heap.size w w' := by
  have HN := Lib.hid hN
  obtain ⟨m, hm⟩ : ∃ m, m = n % 9007199254740993 := ⟨_, rfl⟩
  have hml : m ≤ 9007199254740992 := by omega
  have hmod : (n : Int) % 9007199254740993 = (m : Int) := by omega
  obtain ⟨q, hq⟩ : ∃ q, q = pt % 1000 * 2 + 1 := ⟨_, rfl⟩
  have hql : q ≤ 3000 := by omega
  have hqm : (pt : Int) % 1000 * 2 + 1 = (q : Int) := by omega
  obtain ⟨d, hd⟩ : ∃ d : ByteArray, d = ⟨(Lib.decDigits m).toArray⟩ := ⟨_, rfl⟩
  obtain ⟨d2, hd2⟩ : ∃ d2 : ByteArray, d2 = ⟨(Lib.decDigits q).toArray⟩ := ⟨_, rfl⟩
  obtain ⟨S, hS⟩ : ∃ S : ByteArray, S = d := ⟨_, rfl⟩
  have hSL : S.data.toList = intText false m := by rw [hS, hd, intText, if_neg (by simp)]
  have hcat := hS.symm
  have hSz : S.size ≤ 50 := by rw [Lib.size_eq, hSL]; exact intText_len false m hml
  obtain ⟨v0, hv0⟩ := int_ok false m hml
  rw [← hSL] at hv0
  obtain ⟨T, hT⟩ : ∃ T : ByteArray, T = S ++ ⟨#[46]⟩ ++ d2 := ⟨_, rfl⟩
  have hTL : T.data.toList = intText false m ++ 46 :: Lib.decDigits q := by rw [hT]; simp only [ByteArray.data_append, Array.toList_append, hSL, hd2]; simp
  have hd2l : d2.size ≤ 40 := by rw [hd2, ← Lib.itoa_nonneg]; show (List.toArray _).size ≤ _; rw [List.size_toArray]; exact itoa_short q (by omega)
  have hTz : T.size ≤ 100 := by rw [hT]; simp only [ByteArray.size_append]; have : (⟨#[46]⟩ : ByteArray).size = 1 := rfl; omega
  have hbad := int_dot false m hml (Lib.decDigits q)
  rw [← hTL] at hbad
  have hcat2 := hT.symm
  have HD : Hid (∀ W, Calls Tryz.prog 19 #[.int .u64 (m : Int)] W fun e w' => e = .returned (.string d) ∧ Below W.heap.size W w') := fun W => by rw [hd]; exact digits_any m hml W
  have HD2 : Hid (∀ W, Calls Tryz.prog 19 #[.int .u64 (q : Int)] W fun e w' => e = .returned (.string d2) ∧ Below W.heap.size W w') := fun W => by rw [hd2]; exact digits_any q (by omega) W
  have HC1 : Hid (∀ W, Calls Tryz.prog 20 #[.agg #[.string ⟨#[110, 117, 109, 98, 101, 114]⟩, .string S, .slice none 0 0, .slice none 0 0]] W fun e w' => ∃ v, e = .returned (.tuple #[v, .bool true]) ∧ BSrc w' v S.data.toList ∧ Below W.heap.size W w') := fun W => canon_num S (by omega) v0 hv0 W
  have HC2 : Hid (∀ W, TL N W → Calls Tryz.prog 20 #[.agg #[.string ⟨#[110, 117, 109, 98, 101, 114]⟩, .string T, .slice none 0 0, .slice none 0 0]] W fun e w' => ∃ v, e = .returned (.tuple #[v, .bool false]) ∧ Below W.heap.size W w') := fun W hW => canon_num_bad T (by omega) hbad hW
  have HCV : Hid (∀ (w : World) (v : Value), BSrc w v S.data.toList → (convert 22 9 v).run Tryz.prog w = .ok (.string S) w) := fun w v h => by
    have := h.conv
    simpa using this
  have hz1 : ¬ 9223372036854775807 < S.size + 1 := by omega
  have hz2 : ¬ 9223372036854775807 < S.size + 1 + d2.size := by omega
  clear hN hm hd hd2 hq hSL hTL hv0 hbad hT hS
  go_enter Tryz.func5, Tryz.ntmps5
  go_wp2_with (fail)
  refine (HD.out _).mono ?_
  rintro e w1 ⟨rfl, hb⟩
  have HB1 := Lib.hid hb
  clear hb
  go_wp2_with (fail)
  refine (HC1.out _).mono ?_
  rintro e w2 ⟨v1, rfl, hv1, hb⟩
  have HV1 := Lib.hid hv1
  have HB2 := Lib.hid (below_step6 HB1.out (Nat.le_refl _) hb)
  clear hv1 hb
  go_wp2_with (fail)
  refine (HD2.out _).mono ?_
  rintro e w3 ⟨rfl, hb⟩
  have HB3 := Lib.hid (below_step6 HB2.out (Nat.le_refl _) hb)
  have HV3 := Lib.hid (HV1.out.stay hb)
  clear hb HV1
  go_wp2_with (fail)
  refine (HC2.out _ (HN.out.mono HN.out.le HB3.out)).mono ?_
  rintro e w4 ⟨v2, rfl, hb⟩
  have HB4 := Lib.hid (below_step6 HB3.out (Nat.le_refl _) hb)
  have HV4 := Lib.hid (HV3.out.stay hb)
  have c1 := HCV.out _ _ HV4.out
  clear hb HV3
  go_wp2_with (fail)
  refine (awake_true N w4 (HN.out.mono HN.out.le HB4.out)).mono ?_
  rintro e w5 ⟨rfl, hb⟩
  have HB5 := Lib.hid (below_step6 HB4.out (Nat.le_refl _) hb)
  clear hb
  go_wp2_with (fail)
  go_ret
  exact ⟨rfl, HB5.out⟩
set_option maxRecDepth 100000 in
set_option maxHeartbeats 8000000 in
theorem fnCI_zero (n pt : Nat) (hn : n < 18446744073709551616) (hp : pt < 18446744073709551616) (hz : n % 9007199254740993 = 0) (N : Nat) (w : World) (hN : TL N w) :
    Calls Tryz.prog 5 #[.int .u64 n, .bool true, .int .u64 pt] w fun e w' => e = .returned (.bool true) ∧ Below w.heap.size w w' := by
  have HN := Lib.hid hN
  obtain ⟨m, hm⟩ : ∃ m, m = n % 9007199254740993 := ⟨_, rfl⟩
  have hml : m ≤ 9007199254740992 := by omega
  have hmod : (n : Int) % 9007199254740993 = (m : Int) := by omega
  obtain ⟨q, hq⟩ : ∃ q, q = pt % 1000 * 2 + 1 := ⟨_, rfl⟩
  have hql : q ≤ 3000 := by omega
  have hqm : (pt : Int) % 1000 * 2 + 1 = (q : Int) := by omega
  obtain ⟨d, hd⟩ : ∃ d : ByteArray, d = ⟨(Lib.decDigits m).toArray⟩ := ⟨_, rfl⟩
  obtain ⟨d2, hd2⟩ : ∃ d2 : ByteArray, d2 = ⟨(Lib.decDigits q).toArray⟩ := ⟨_, rfl⟩
  obtain ⟨S, hS⟩ : ∃ S : ByteArray, S = d := ⟨_, rfl⟩
  have hSL : S.data.toList = intText true m := by rw [hS, hd, intText, if_neg (by rw [hm, hz]; simp)]
  have hcat := hS.symm
  have hSz : S.size ≤ 50 := by rw [Lib.size_eq, hSL]; exact intText_len true m hml
  obtain ⟨v0, hv0⟩ := int_ok true m hml
  rw [← hSL] at hv0
  obtain ⟨T, hT⟩ : ∃ T : ByteArray, T = S ++ ⟨#[46]⟩ ++ d2 := ⟨_, rfl⟩
  have hTL : T.data.toList = intText true m ++ 46 :: Lib.decDigits q := by rw [hT]; simp only [ByteArray.data_append, Array.toList_append, hSL, hd2]; simp
  have hd2l : d2.size ≤ 40 := by rw [hd2, ← Lib.itoa_nonneg]; show (List.toArray _).size ≤ _; rw [List.size_toArray]; exact itoa_short q (by omega)
  have hTz : T.size ≤ 100 := by rw [hT]; simp only [ByteArray.size_append]; have : (⟨#[46]⟩ : ByteArray).size = 1 := rfl; omega
  have hbad := int_dot true m hml (Lib.decDigits q)
  rw [← hTL] at hbad
  have hcat2 := hT.symm
  have HD : Hid (∀ W, Calls Tryz.prog 19 #[.int .u64 (m : Int)] W fun e w' => e = .returned (.string d) ∧ Below W.heap.size W w') := fun W => by rw [hd]; exact digits_any m hml W
  have HD2 : Hid (∀ W, Calls Tryz.prog 19 #[.int .u64 (q : Int)] W fun e w' => e = .returned (.string d2) ∧ Below W.heap.size W w') := fun W => by rw [hd2]; exact digits_any q (by omega) W
  have HC1 : Hid (∀ W, Calls Tryz.prog 20 #[.agg #[.string ⟨#[110, 117, 109, 98, 101, 114]⟩, .string S, .slice none 0 0, .slice none 0 0]] W fun e w' => ∃ v, e = .returned (.tuple #[v, .bool true]) ∧ BSrc w' v S.data.toList ∧ Below W.heap.size W w') := fun W => canon_num S (by omega) v0 hv0 W
  have HC2 : Hid (∀ W, TL N W → Calls Tryz.prog 20 #[.agg #[.string ⟨#[110, 117, 109, 98, 101, 114]⟩, .string T, .slice none 0 0, .slice none 0 0]] W fun e w' => ∃ v, e = .returned (.tuple #[v, .bool false]) ∧ Below W.heap.size W w') := fun W hW => canon_num_bad T (by omega) hbad hW
  have HCV : Hid (∀ (w : World) (v : Value), BSrc w v S.data.toList → (convert 22 9 v).run Tryz.prog w = .ok (.string S) w) := fun w v h => by
    have := h.conv
    simpa using this
  have hz1 : ¬ 9223372036854775807 < S.size + 1 := by omega
  have hz2 : ¬ 9223372036854775807 < S.size + 1 + d2.size := by omega
  have i1 : ¬ (0 : Int) < (m : Int) := by omega
  clear hN hm hz hd hd2 hq hSL hTL hv0 hbad hT hS
  go_enter Tryz.func5, Tryz.ntmps5
  go_wp2_with (fail)
  refine (HD.out _).mono ?_
  rintro e w1 ⟨rfl, hb⟩
  have HB1 := Lib.hid hb
  clear hb
  go_wp2_with (fail)
  refine (HC1.out _).mono ?_
  rintro e w2 ⟨v1, rfl, hv1, hb⟩
  have HV1 := Lib.hid hv1
  have HB2 := Lib.hid (below_step6 HB1.out (Nat.le_refl _) hb)
  clear hv1 hb
  go_wp2_with (fail)
  refine (HD2.out _).mono ?_
  rintro e w3 ⟨rfl, hb⟩
  have HB3 := Lib.hid (below_step6 HB2.out (Nat.le_refl _) hb)
  have HV3 := Lib.hid (HV1.out.stay hb)
  clear hb HV1
  go_wp2_with (fail)
  refine (HC2.out _ (HN.out.mono HN.out.le HB3.out)).mono ?_
  rintro e w4 ⟨v2, rfl, hb⟩
  have HB4 := Lib.hid (below_step6 HB3.out (Nat.le_refl _) hb)
  have HV4 := Lib.hid (HV3.out.stay hb)
  have c1 := HCV.out _ _ HV4.out
  clear hb HV3
  go_wp2_with (fail)
  refine (awake_true N w4 (HN.out.mono HN.out.le HB4.out)).mono ?_
  rintro e w5 ⟨rfl, hb⟩
  have HB5 := Lib.hid (below_step6 HB4.out (Nat.le_refl _) hb)
  clear hb
  go_wp2_with (fail)
  go_ret
  exact ⟨rfl, HB5.out⟩
theorem fnCanonInteger_any (x : Int) (mi : Bool) (y : Int) (hx : (Lit.int .u64 x).wf = true) (hy : (Lit.int .u64 y).wf = true) {N : Nat} {w : World} (hN : TL N w) :
    Calls Tryz.prog 5 #[.int .u64 x, .bool mi, .int .u64 y] w fun e w' => e = .returned (.bool true) ∧ Below w.heap.size w w' := by
  have hw : 0 ≤ x ∧ x ≤ 18446744073709551615 := by simpa [Lit.wf, IntKind.min, IntKind.max, IntKind.signed, IntKind.bits] using hx
  have hw2 : 0 ≤ y ∧ y ≤ 18446744073709551615 := by simpa [Lit.wf, IntKind.min, IntKind.max, IntKind.signed, IntKind.bits] using hy
  obtain ⟨n, rfl⟩ := Int.eq_ofNat_of_zero_le hw.1
  obtain ⟨p, rfl⟩ := Int.eq_ofNat_of_zero_le hw2.1
  cases mi with
  | false => exact fnCI_false n p (by omega) (by omega) N w hN
  | true =>
    rcases Nat.eq_zero_or_pos (n % 9007199254740993) with h | h
    · exact fnCI_zero n p (by omega) (by omega) h N w hN
    · exact fnCI_neg n p (by omega) (by omega) h N w hN
end Go.Proofs.YtngifhngangpeaaGreatDoor
