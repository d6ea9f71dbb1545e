/- spec.ErrorIs, laws.FnExactErrorIs. -/
import Derived.Test.YtngifhngangpeaaGreatDoorE1
import Derived.Test.YtngifhngangpeaaGreatDoorA1
open Go Go.RowKit
namespace Go.Proofs.YtngifhngangpeaaGreatDoor
theorem below_step5 {n : Nat} {w W W' : World} (h : Below n w W) (hn : n ≤ w.heap.size) (h2 : Below W.heap.size W W') : Below n w W' := h.trans (h2.mono (Nat.le_trans hn h.size))
theorem isB_self0 : ∀ a, a < 12 → 1 ≤ a → isB a a = true := by decide
theorem isB_self (a : Nat) (h : a ≤ 11) : 1 ≤ a → isB a a = true := isB_self0 a (by omega)
set_option maxRecDepth 100000 in
set_option maxHeartbeats 4000000 in
theorem specT_1_1 (w : World) : Calls Tryz.prog 17 #[.int .i64 1, .int .i64 1] w fun e w' => e = .returned (.tuple #[.bool true, .bool true]) ∧ w' = w := by
  go_enter Tryz.func17, Tryz.ntmps17
  go_wp2_with (fail)
  go_ret2
  exact ⟨rfl, rfl⟩
set_option maxRecDepth 100000 in
set_option maxHeartbeats 4000000 in
theorem specT_2_2 (w : World) : Calls Tryz.prog 17 #[.int .i64 2, .int .i64 2] w fun e w' => e = .returned (.tuple #[.bool true, .bool true]) ∧ w' = w := by
  go_enter Tryz.func17, Tryz.ntmps17
  go_wp2_with (fail)
  go_ret2
  exact ⟨rfl, rfl⟩
set_option maxRecDepth 100000 in
set_option maxHeartbeats 4000000 in
theorem specT_3_3 (w : World) : Calls Tryz.prog 17 #[.int .i64 3, .int .i64 3] w fun e w' => e = .returned (.tuple #[.bool true, .bool true]) ∧ w' = w := by
  go_enter Tryz.func17, Tryz.ntmps17
  go_wp2_with (fail)
  go_ret2
  exact ⟨rfl, rfl⟩
set_option maxRecDepth 100000 in
set_option maxHeartbeats 4000000 in
theorem specT_3_4 (w : World) : Calls Tryz.prog 17 #[.int .i64 3, .int .i64 4] w fun e w' => e = .returned (.tuple #[.bool true, .bool true]) ∧ w' = w := by
  go_enter Tryz.func17, Tryz.ntmps17
  go_wp2_with (fail)
  go_ret2
  exact ⟨rfl, rfl⟩
set_option maxRecDepth 100000 in
set_option maxHeartbeats 4000000 in
theorem specT_4_4 (w : World) : Calls Tryz.prog 17 #[.int .i64 4, .int .i64 4] w fun e w' => e = .returned (.tuple #[.bool true, .bool true]) ∧ w' = w := by
  go_enter Tryz.func17, Tryz.ntmps17
  go_wp2_with (fail)
  go_ret2
  exact ⟨rfl, rfl⟩
set_option maxRecDepth 100000 in
set_option maxHeartbeats 4000000 in
theorem specT_5_5 (w : World) : Calls Tryz.prog 17 #[.int .i64 5, .int .i64 5] w fun e w' => e = .returned (.tuple #[.bool true, .bool true]) ∧ w' = w := by
  go_enter Tryz.func17, Tryz.ntmps17
  go_wp2_with (fail)
  go_ret2
  exact ⟨rfl, rfl⟩
set_option maxRecDepth 100000 in
set_option maxHeartbeats 4000000 in
theorem specT_5_4 (w : World) : Calls Tryz.prog 17 #[.int .i64 5, .int .i64 4] w fun e w' => e = .returned (.tuple #[.bool true, .bool true]) ∧ w' = w := by
  go_enter Tryz.func17, Tryz.ntmps17
  go_wp2_with (fail)
  go_ret2
  exact ⟨rfl, rfl⟩
set_option maxRecDepth 100000 in
set_option maxHeartbeats 4000000 in
theorem specT_6_6 (w : World) : Calls Tryz.prog 17 #[.int .i64 6, .int .i64 6] w fun e w' => e = .returned (.tuple #[.bool true, .bool true]) ∧ w' = w := by
  go_enter Tryz.func17, Tryz.ntmps17
  go_wp2_with (fail)
  go_ret2
  exact ⟨rfl, rfl⟩
set_option maxRecDepth 100000 in
set_option maxHeartbeats 4000000 in
theorem specT_6_5 (w : World) : Calls Tryz.prog 17 #[.int .i64 6, .int .i64 5] w fun e w' => e = .returned (.tuple #[.bool true, .bool true]) ∧ w' = w := by
  go_enter Tryz.func17, Tryz.ntmps17
  go_wp2_with (fail)
  go_ret2
  exact ⟨rfl, rfl⟩
set_option maxRecDepth 100000 in
set_option maxHeartbeats 4000000 in
theorem specT_6_4 (w : World) : Calls Tryz.prog 17 #[.int .i64 6, .int .i64 4] w fun e w' => e = .returned (.tuple #[.bool true, .bool true]) ∧ w' = w := by
  go_enter Tryz.func17, Tryz.ntmps17
  go_wp2_with (fail)
  go_ret2
  exact ⟨rfl, rfl⟩
set_option maxRecDepth 100000 in
set_option maxHeartbeats 4000000 in
theorem specT_7_7 (w : World) : Calls Tryz.prog 17 #[.int .i64 7, .int .i64 7] w fun e w' => e = .returned (.tuple #[.bool true, .bool true]) ∧ w' = w := by
  go_enter Tryz.func17, Tryz.ntmps17
  go_wp2_with (fail)
  go_ret2
  exact ⟨rfl, rfl⟩
set_option maxRecDepth 100000 in
set_option maxHeartbeats 4000000 in
theorem specT_7_4 (w : World) : Calls Tryz.prog 17 #[.int .i64 7, .int .i64 4] w fun e w' => e = .returned (.tuple #[.bool true, .bool true]) ∧ w' = w := by
  go_enter Tryz.func17, Tryz.ntmps17
  go_wp2_with (fail)
  go_ret2
  exact ⟨rfl, rfl⟩
set_option maxRecDepth 100000 in
set_option maxHeartbeats 4000000 in
theorem specT_8_8 (w : World) : Calls Tryz.prog 17 #[.int .i64 8, .int .i64 8] w fun e w' => e = .returned (.tuple #[.bool true, .bool true]) ∧ w' = w := by
  go_enter Tryz.func17, Tryz.ntmps17
  go_wp2_with (fail)
  go_ret2
  exact ⟨rfl, rfl⟩
set_option maxRecDepth 100000 in
set_option maxHeartbeats 4000000 in
theorem specT_8_4 (w : World) : Calls Tryz.prog 17 #[.int .i64 8, .int .i64 4] w fun e w' => e = .returned (.tuple #[.bool true, .bool true]) ∧ w' = w := by
  go_enter Tryz.func17, Tryz.ntmps17
  go_wp2_with (fail)
  go_ret2
  exact ⟨rfl, rfl⟩
set_option maxRecDepth 100000 in
set_option maxHeartbeats 4000000 in
theorem specT_9_9 (w : World) : Calls Tryz.prog 17 #[.int .i64 9, .int .i64 9] w fun e w' => e = .returned (.tuple #[.bool true, .bool true]) ∧ w' = w := by
  go_enter Tryz.func17, Tryz.ntmps17
  go_wp2_with (fail)
  go_ret2
  exact ⟨rfl, rfl⟩
set_option maxRecDepth 100000 in
set_option maxHeartbeats 4000000 in
theorem specT_10_10 (w : World) : Calls Tryz.prog 17 #[.int .i64 10, .int .i64 10] w fun e w' => e = .returned (.tuple #[.bool true, .bool true]) ∧ w' = w := by
  go_enter Tryz.func17, Tryz.ntmps17
  go_wp2_with (fail)
  go_ret2
  exact ⟨rfl, rfl⟩
set_option maxRecDepth 100000 in
set_option maxHeartbeats 4000000 in
theorem specT_11_11 (w : World) : Calls Tryz.prog 17 #[.int .i64 11, .int .i64 11] w fun e w' => e = .returned (.tuple #[.bool true, .bool true]) ∧ w' = w := by
  go_enter Tryz.func17, Tryz.ntmps17
  go_wp2_with (fail)
  go_ret2
  exact ⟨rfl, rfl⟩
set_option maxRecDepth 100000 in
set_option maxHeartbeats 4000000 in
theorem specT_11_10 (w : World) : Calls Tryz.prog 17 #[.int .i64 11, .int .i64 10] w fun e w' => e = .returned (.tuple #[.bool true, .bool true]) ∧ w' = w := by
  go_enter Tryz.func17, Tryz.ntmps17
  go_wp2_with (fail)
  go_ret2
  exact ⟨rfl, rfl⟩
set_option maxRecDepth 100000 in
set_option maxHeartbeats 4000000 in
theorem specF_4 (a : Nat) (ha1 : 1 ≤ a) (ha2 : a ≤ 11) (hq : isB a 4 = false) (w : World) : Calls Tryz.prog 17 #[.int .i64 a, .int .i64 4] w fun e w' => e = .returned (.tuple #[.bool false, .bool true]) ∧ w' = w := by
  have e3 : ((a : Int) == 3) = false := by rw [beq_eq_false_iff_ne]; intro h; have h' : a = 3 := (by omega); subst h'; cases hq
  have e4 : ((a : Int) == 4) = false := by rw [beq_eq_false_iff_ne]; intro h; have h' : a = 4 := (by omega); subst h'; cases hq
  have e5 : ((a : Int) == 5) = false := by rw [beq_eq_false_iff_ne]; intro h; have h' : a = 5 := (by omega); subst h'; cases hq
  have e6 : ((a : Int) == 6) = false := by rw [beq_eq_false_iff_ne]; intro h; have h' : a = 6 := (by omega); subst h'; cases hq
  have e7 : ((a : Int) == 7) = false := by rw [beq_eq_false_iff_ne]; intro h; have h' : a = 7 := (by omega); subst h'; cases hq
  have e8 : ((a : Int) == 8) = false := by rw [beq_eq_false_iff_ne]; intro h; have h' : a = 8 := (by omega); subst h'; cases hq
  have g3 : ¬ (a : Int) = 3 := by intro h; have h' : a = 3 := (by omega); subst h'; cases hq
  have g4 : ¬ (a : Int) = 4 := by intro h; have h' : a = 4 := (by omega); subst h'; cases hq
  have g5 : ¬ (a : Int) = 5 := by intro h; have h' : a = 5 := (by omega); subst h'; cases hq
  have g6 : ¬ (a : Int) = 6 := by intro h; have h' : a = 6 := (by omega); subst h'; cases hq
  have g7 : ¬ (a : Int) = 7 := by intro h; have h' : a = 7 := (by omega); subst h'; cases hq
  have g8 : ¬ (a : Int) = 8 := by intro h; have h' : a = 8 := (by omega); subst h'; cases hq
  clear hq
  go_enter Tryz.func17, Tryz.ntmps17
  go_wp2_with (fail)
  go_ret2
  exact ⟨rfl, rfl⟩
set_option maxRecDepth 100000 in
set_option maxHeartbeats 4000000 in
theorem specF_5 (a : Nat) (ha1 : 1 ≤ a) (ha2 : a ≤ 11) (hq : isB a 5 = false) (w : World) : Calls Tryz.prog 17 #[.int .i64 a, .int .i64 5] w fun e w' => e = .returned (.tuple #[.bool false, .bool true]) ∧ w' = w := by
  have e5 : ((a : Int) == 5) = false := by rw [beq_eq_false_iff_ne]; intro h; have h' : a = 5 := (by omega); subst h'; cases hq
  have e6 : ((a : Int) == 6) = false := by rw [beq_eq_false_iff_ne]; intro h; have h' : a = 6 := (by omega); subst h'; cases hq
  have g5 : ¬ (a : Int) = 5 := by intro h; have h' : a = 5 := (by omega); subst h'; cases hq
  have g6 : ¬ (a : Int) = 6 := by intro h; have h' : a = 6 := (by omega); subst h'; cases hq
  clear hq
  go_enter Tryz.func17, Tryz.ntmps17
  go_wp2_with (fail)
  go_ret2
  exact ⟨rfl, rfl⟩
set_option maxRecDepth 100000 in
set_option maxHeartbeats 4000000 in
theorem specF_10 (a : Nat) (ha1 : 1 ≤ a) (ha2 : a ≤ 11) (hq : isB a 10 = false) (w : World) : Calls Tryz.prog 17 #[.int .i64 a, .int .i64 10] w fun e w' => e = .returned (.tuple #[.bool false, .bool true]) ∧ w' = w := by
  have e10 : ((a : Int) == 10) = false := by rw [beq_eq_false_iff_ne]; intro h; have h' : a = 10 := (by omega); subst h'; cases hq
  have e11 : ((a : Int) == 11) = false := by rw [beq_eq_false_iff_ne]; intro h; have h' : a = 11 := (by omega); subst h'; cases hq
  have g10 : ¬ (a : Int) = 10 := by intro h; have h' : a = 10 := (by omega); subst h'; cases hq
  have g11 : ¬ (a : Int) = 11 := by intro h; have h' : a = 11 := (by omega); subst h'; cases hq
  clear hq
  go_enter Tryz.func17, Tryz.ntmps17
  go_wp2_with (fail)
  go_ret2
  exact ⟨rfl, rfl⟩
set_option maxRecDepth 100000 in
set_option maxHeartbeats 4000000 in
theorem specF_0 (b : Nat) (hb1 : 1 ≤ b) (hb2 : b ≤ 11) (n4 : b ≠ 4) (n5 : b ≠ 5) (n10 : b ≠ 10) (a : Nat) (ha1 : 1 ≤ a) (ha2 : a ≤ 11) (hq : isB a b = false) (w : World) : Calls Tryz.prog 17 #[.int .i64 a, .int .i64 b] w fun e w' => e = .returned (.tuple #[.bool false, .bool true]) ∧ w' = w := by
  have e0 : ¬ (a : Int) = (b : Int) := by
    intro h
    have h' : a = b := by omega
    subst h'
    rw [isB_self a ha2 ha1] at hq; cases hq
  have e1 : ((a : Int) == (b : Int)) = false := by rw [beq_eq_false_iff_ne]; exact e0
  have g4 : ¬ (b : Int) = 4 := by omega
  have g5 : ¬ (b : Int) = 5 := by omega
  have g10 : ¬ (b : Int) = 10 := by omega
  clear hq
  go_enter Tryz.func17, Tryz.ntmps17
  go_wp2_with (fail)
  go_ret2
  exact ⟨rfl, rfl⟩
theorem isB_off1 : ∀ m, m < 12 → isB 1 m = true → m = 1 := by decide
theorem isB_off2 : ∀ m, m < 12 → isB 2 m = true → m = 2 := by decide
theorem isB_off3 : ∀ m, m < 12 → isB 3 m = true → m = 3 ∨ m = 4 := by decide
theorem isB_off4 : ∀ m, m < 12 → isB 4 m = true → m = 4 := by decide
theorem isB_off5 : ∀ m, m < 12 → isB 5 m = true → m = 5 ∨ m = 4 := by decide
theorem isB_off6 : ∀ m, m < 12 → isB 6 m = true → m = 6 ∨ m = 5 ∨ m = 4 := by decide
theorem isB_off7 : ∀ m, m < 12 → isB 7 m = true → m = 7 ∨ m = 4 := by decide
theorem isB_off8 : ∀ m, m < 12 → isB 8 m = true → m = 8 ∨ m = 4 := by decide
theorem isB_off9 : ∀ m, m < 12 → isB 9 m = true → m = 9 := by decide
theorem isB_off10 : ∀ m, m < 12 → isB 10 m = true → m = 10 := by decide
theorem isB_off11 : ∀ m, m < 12 → isB 11 m = true → m = 11 ∨ m = 10 := by decide
theorem specErrorIs_in (a b : Nat) (ha1 : 1 ≤ a) (ha2 : a ≤ 11) (hb1 : 1 ≤ b) (hb2 : b ≤ 11) (w : World) : Calls Tryz.prog 17 #[.int .i64 a, .int .i64 b] w fun e w' => e = .returned (.tuple #[.bool (isB a b), .bool true]) ∧ w' = w := by
  cases hq : isB a b with
  | false =>
    by_cases h4 : b = 4
    · subst h4; exact specF_4 a ha1 ha2 hq w
    by_cases h5 : b = 5
    · subst h5; exact specF_5 a ha1 ha2 hq w
    by_cases h10 : b = 10
    · subst h10; exact specF_10 a ha1 ha2 hq w
    exact specF_0 b hb1 hb2 h4 h5 h10 a ha1 ha2 hq w
  | true =>
    match a, ha1, ha2 with
    | 1, _, _ =>
      obtain rfl := isB_off1 b (by omega) hq
      exact specT_1_1 w
    | 2, _, _ =>
      obtain rfl := isB_off2 b (by omega) hq
      exact specT_2_2 w
    | 3, _, _ =>
      rcases isB_off3 b (by omega) hq with rfl | rfl
      · exact specT_3_3 w
      · exact specT_3_4 w
    | 4, _, _ =>
      obtain rfl := isB_off4 b (by omega) hq
      exact specT_4_4 w
    | 5, _, _ =>
      rcases isB_off5 b (by omega) hq with rfl | rfl
      · exact specT_5_5 w
      · exact specT_5_4 w
    | 6, _, _ =>
      rcases isB_off6 b (by omega) hq with rfl | rfl | rfl
      · exact specT_6_6 w
      · exact specT_6_5 w
      · exact specT_6_4 w
    | 7, _, _ =>
      rcases isB_off7 b (by omega) hq with rfl | rfl
      · exact specT_7_7 w
      · exact specT_7_4 w
    | 8, _, _ =>
      rcases isB_off8 b (by omega) hq with rfl | rfl
      · exact specT_8_8 w
      · exact specT_8_4 w
    | 9, _, _ =>
      obtain rfl := isB_off9 b (by omega) hq
      exact specT_9_9 w
    | 10, _, _ =>
      obtain rfl := isB_off10 b (by omega) hq
      exact specT_10_10 w
    | 11, _, _ =>
      rcases isB_off11 b (by omega) hq with rfl | rfl
      · exact specT_11_11 w
      · exact specT_11_10 w
set_option maxRecDepth 100000 in
set_option maxHeartbeats 4000000 in
theorem specErrorIs_out (a b : Int) (h : a < 1 ∨ 11 < a ∨ b < 1 ∨ 11 < b) (w : World) : Calls Tryz.prog 17 #[.int .i64 a, .int .i64 b] w fun e w' => e = .returned (.tuple #[.bool false, .bool false]) ∧ w' = w := by
  by_cases i1 : a < 1
  · clear h
    go_enter Tryz.func17, Tryz.ntmps17
    go_wp2_with (fail)
    go_ret2
    exact ⟨rfl, rfl⟩
  by_cases i2 : 11 < a
  · clear h
    go_enter Tryz.func17, Tryz.ntmps17
    go_wp2_with (fail)
    go_ret2
    exact ⟨rfl, rfl⟩
  by_cases i3 : b < 1
  · clear h
    go_enter Tryz.func17, Tryz.ntmps17
    go_wp2_with (fail)
    go_ret2
    exact ⟨rfl, rfl⟩
  by_cases i4 : 11 < b
  · clear h
    go_enter Tryz.func17, Tryz.ntmps17
    go_wp2_with (fail)
    go_ret2
    exact ⟨rfl, rfl⟩
  omega
set_option maxRecDepth 100000 in
set_option maxHeartbeats 4000000 in
theorem fnExactErrorIs_any (a b : Int) (N : Nat) (w0 : World) (hN : TL N w0) : Calls Tryz.prog 4 #[.int .i64 a, .int .i64 b] w0 fun e w' => e = .returned (.bool true) ∧ Below w0.heap.size w0 w' := by
  have HN := Lib.hid hN
  clear hN
  by_cases ho : a < 1 ∨ 11 < a ∨ b < 1 ∨ 11 < b
  · have HS : Hid (Calls Tryz.prog 17 #[.int .i64 a, .int .i64 b] w0 fun e w' => e = .returned (.tuple #[.bool false, .bool false]) ∧ w' = w0) := specErrorIs_out a b ho w0
    clear ho
    go_enter Tryz.func4, Tryz.ntmps4
    go_wp2_with (fail)
    refine HS.out.mono ?_
    rintro e w1 ⟨rfl, hw⟩
    subst w1
    go_wp2_with (fail)
    refine (awake_true N w0 HN.out).mono ?_
    rintro e w2 ⟨rfl, hb⟩
    have HB2 := Lib.hid hb
    clear hb
    go_wp2_with (fail)
    go_ret
    exact ⟨rfl, HB2.out⟩
  · obtain ⟨x, rfl⟩ := Int.eq_ofNat_of_zero_le (show 0 ≤ a by omega)
    obtain ⟨y, rfl⟩ := Int.eq_ofNat_of_zero_le (show 0 ≤ b by omega)
    obtain ⟨q, hq⟩ : ∃ q, q = isB x y := ⟨_, rfl⟩
    have HS : Hid (Calls Tryz.prog 17 #[.int .i64 x, .int .i64 y] w0 fun e w' => e = .returned (.tuple #[.bool q, .bool true]) ∧ w' = w0) := by rw [hq]; exact specErrorIs_in x y (by omega) (by omega) (by omega) (by omega) w0
    have HI : Hid (Calls Tryz.prog 18 #[.int .i64 x, .int .i64 y] w0 fun e w' => e = .returned (.bool q) ∧ Below w0.heap.size w0 w') := by rw [hq]; exact errorIs_any x y (by omega) (by omega) (by omega) (by omega) w0
    clear ho hq
    go_enter Tryz.func4, Tryz.ntmps4
    go_wp2_with (fail)
    refine HS.out.mono ?_
    rintro e w1 ⟨rfl, hw⟩
    subst w1
    go_wp2_with (fail)
    refine HI.out.mono ?_
    rintro e w2 ⟨rfl, hb⟩
    have HB2 := Lib.hid hb
    clear hb
    go_wp2_with (fail)
    refine (awake_true N w2 (HN.out.mono HN.out.le HB2.out)).mono ?_
    rintro e w3 ⟨rfl, hb⟩
    have HB3 := Lib.hid (below_step5 HB2.out (Nat.le_refl _) hb)
    clear hb
    go_wp2_with (fail)
    go_ret
    exact ⟨rfl, HB3.out⟩
end Go.Proofs.YtngifhngangpeaaGreatDoor
