/- laws.FnErrorIs. -/
import Derived.Test.YtlliohgbbboleaaGreatDoorE1
import Derived.Test.YtlliohgbbboleaaGreatDoorA1
open Go Go.RowKit
namespace Go.Proofs.YtlliohgbbboleaaGreatDoor
theorem below_step' {n : Nat} {w W W' : World} (h : Below n w W) (hn : n ≤ w.heap.size) (h2 : Below W.heap.size W W') : Below n w W' := h.trans (h2.mono (Nat.le_trans hn h.size))
theorem isB_trans0 : ∀ a, a < 12 → ∀ b, b < 12 → ∀ c, c < 12 → isB a b = true → isB b c = true → isB a c = true := by decide
theorem isB_trans (a b c : Nat) (ha : a ≤ 11) (hb : b ≤ 11) (hc : c ≤ 11) : isB a b = true → isB b c = true → isB a c = true := isB_trans0 a (by omega) b (by omega) c (by omega)
theorem isB_ltF0 : ∀ a, a < 12 → 1 ≤ a → isB a a = true := by decide
theorem isB_ltF (a : Nat) (h : a ≤ 11) : 1 ≤ a → isB a a = true := isB_ltF0 a (by omega)
set_option maxRecDepth 100000 in
set_option maxHeartbeats 2000000 in
theorem eis_1_1_f (c : Nat) (hc1 : 1 ≤ c) (hc2 : c ≤ 11) (hq : isB 1 c = false) (N : Nat) (w0 : World) (hN : TL N w0) : Calls Tryz.prog 8 #[.int .i64 1, .int .i64 1, .int .i64 c] w0 fun e w' => e = .returned (.bool true) ∧ Below w0.heap.size w0 w' := by
  have HN := Lib.hid hN
  have HB0 : Hid (Below w0.heap.size w0 w0) := Below.refl _ _
  have AA : Hid (∀ W, Calls Tryz.prog 18 #[.int .i64 1, .int .i64 1] W fun e w' => e = .returned (.bool true) ∧ Below W.heap.size W w') := fun W => errorIs_any 1 1 (by decide) (by decide) (by decide) (by decide) W
  have AB : Hid (∀ W, Calls Tryz.prog 18 #[.int .i64 1, .int .i64 1] W fun e w' => e = .returned (.bool true) ∧ Below W.heap.size W w') := fun W => errorIs_any 1 1 (by decide) (by decide) (by decide) (by decide) W
  have BA : Hid (∀ W, Calls Tryz.prog 18 #[.int .i64 1, .int .i64 1] W fun e w' => e = .returned (.bool true) ∧ Below W.heap.size W w') := fun W => errorIs_any 1 1 (by decide) (by decide) (by decide) (by decide) W
  have BC : Hid (∀ W, Calls Tryz.prog 18 #[.int .i64 1, .int .i64 c] W fun e w' => e = .returned (.bool false) ∧ Below W.heap.size W w') := fun W => by rw [← hq]; exact errorIs_any 1 c (by decide) (by decide) hc1 hc2 W
  clear hq hN
  go_enter Tryz.func8, Tryz.ntmps8
  go_wp2_with (fail)
  refine (AA.out w0).mono ?_
  rintro e w1 ⟨rfl, hb⟩
  have HB1 := Lib.hid (below_step' HB0.out (Nat.le_refl _) hb)
  clear hb HB0
  go_wp2_with (fail)
  refine (AB.out w1).mono ?_
  rintro e w2 ⟨rfl, hb⟩
  have HB2 := Lib.hid (below_step' HB1.out (Nat.le_refl _) hb)
  clear hb HB1
  go_wp2_with (fail)
  refine (BC.out w2).mono ?_
  rintro e w3 ⟨rfl, hb⟩
  have HB3 := Lib.hid (below_step' HB2.out (Nat.le_refl _) hb)
  clear hb HB2
  go_wp2_with (fail)
  refine (AB.out w3).mono ?_
  rintro e w4 ⟨rfl, hb⟩
  have HB4 := Lib.hid (below_step' HB3.out (Nat.le_refl _) hb)
  clear hb HB3
  go_wp2_with (fail)
  refine (awake_true N w4 (HN.out.mono HN.out.le HB4.out)).mono ?_
  rintro e w5 ⟨rfl, hb⟩
  have HB5 := Lib.hid (below_step' HB4.out (Nat.le_refl _) hb)
  clear hb
  go_wp2_with (fail)
  go_ret
  exact ⟨rfl, HB5.out⟩
set_option maxRecDepth 100000 in
set_option maxHeartbeats 2000000 in
theorem eis_1_1_t (c : Nat) (hc1 : 1 ≤ c) (hc2 : c ≤ 11) (hq : isB 1 c = true) (N : Nat) (w0 : World) (hN : TL N w0) : Calls Tryz.prog 8 #[.int .i64 1, .int .i64 1, .int .i64 c] w0 fun e w' => e = .returned (.bool true) ∧ Below w0.heap.size w0 w' := by
  have HN := Lib.hid hN
  have HB0 : Hid (Below w0.heap.size w0 w0) := Below.refl _ _
  have AA : Hid (∀ W, Calls Tryz.prog 18 #[.int .i64 1, .int .i64 1] W fun e w' => e = .returned (.bool true) ∧ Below W.heap.size W w') := fun W => errorIs_any 1 1 (by decide) (by decide) (by decide) (by decide) W
  have AB : Hid (∀ W, Calls Tryz.prog 18 #[.int .i64 1, .int .i64 1] W fun e w' => e = .returned (.bool true) ∧ Below W.heap.size W w') := fun W => errorIs_any 1 1 (by decide) (by decide) (by decide) (by decide) W
  have BA : Hid (∀ W, Calls Tryz.prog 18 #[.int .i64 1, .int .i64 1] W fun e w' => e = .returned (.bool true) ∧ Below W.heap.size W w') := fun W => errorIs_any 1 1 (by decide) (by decide) (by decide) (by decide) W
  have BC : Hid (∀ W, Calls Tryz.prog 18 #[.int .i64 1, .int .i64 c] W fun e w' => e = .returned (.bool true) ∧ Below W.heap.size W w') := fun W => by rw [← hq]; exact errorIs_any 1 c (by decide) (by decide) hc1 hc2 W
  have AC : Hid (∀ W, Calls Tryz.prog 18 #[.int .i64 1, .int .i64 c] W fun e w' => e = .returned (.bool true) ∧ Below W.heap.size W w') := fun W => by rw [← isB_trans 1 1 c (by decide) (by decide) hc2 (by decide) hq]; exact errorIs_any 1 c (by decide) (by decide) hc1 hc2 W
  clear hq hN
  go_enter Tryz.func8, Tryz.ntmps8
  go_wp2_with (fail)
  refine (AA.out w0).mono ?_
  rintro e w1 ⟨rfl, hb⟩
  have HB1 := Lib.hid (below_step' HB0.out (Nat.le_refl _) hb)
  clear hb HB0
  go_wp2_with (fail)
  refine (AB.out w1).mono ?_
  rintro e w2 ⟨rfl, hb⟩
  have HB2 := Lib.hid (below_step' HB1.out (Nat.le_refl _) hb)
  clear hb HB1
  go_wp2_with (fail)
  refine (BC.out w2).mono ?_
  rintro e w3 ⟨rfl, hb⟩
  have HB3 := Lib.hid (below_step' HB2.out (Nat.le_refl _) hb)
  clear hb HB2
  go_wp2_with (fail)
  refine (AC.out w3).mono ?_
  rintro e w4 ⟨rfl, hb⟩
  have HB4 := Lib.hid (below_step' HB3.out (Nat.le_refl _) hb)
  clear hb HB3
  go_wp2_with (fail)
  refine (AB.out w4).mono ?_
  rintro e w5 ⟨rfl, hb⟩
  have HB5 := Lib.hid (below_step' HB4.out (Nat.le_refl _) hb)
  clear hb HB4
  go_wp2_with (fail)
  refine (awake_true N w5 (HN.out.mono HN.out.le HB5.out)).mono ?_
  rintro e w6 ⟨rfl, hb⟩
  have HB6 := Lib.hid (below_step' HB5.out (Nat.le_refl _) hb)
  clear hb
  go_wp2_with (fail)
  go_ret
  exact ⟨rfl, HB6.out⟩
set_option maxRecDepth 100000 in
set_option maxHeartbeats 2000000 in
theorem eis_2_2_f (c : Nat) (hc1 : 1 ≤ c) (hc2 : c ≤ 11) (hq : isB 2 c = false) (N : Nat) (w0 : World) (hN : TL N w0) : Calls Tryz.prog 8 #[.int .i64 2, .int .i64 2, .int .i64 c] w0 fun e w' => e = .returned (.bool true) ∧ Below w0.heap.size w0 w' := by
  have HN := Lib.hid hN
  have HB0 : Hid (Below w0.heap.size w0 w0) := Below.refl _ _
  have AA : Hid (∀ W, Calls Tryz.prog 18 #[.int .i64 2, .int .i64 2] W fun e w' => e = .returned (.bool true) ∧ Below W.heap.size W w') := fun W => errorIs_any 2 2 (by decide) (by decide) (by decide) (by decide) W
  have AB : Hid (∀ W, Calls Tryz.prog 18 #[.int .i64 2, .int .i64 2] W fun e w' => e = .returned (.bool true) ∧ Below W.heap.size W w') := fun W => errorIs_any 2 2 (by decide) (by decide) (by decide) (by decide) W
  have BA : Hid (∀ W, Calls Tryz.prog 18 #[.int .i64 2, .int .i64 2] W fun e w' => e = .returned (.bool true) ∧ Below W.heap.size W w') := fun W => errorIs_any 2 2 (by decide) (by decide) (by decide) (by decide) W
  have BC : Hid (∀ W, Calls Tryz.prog 18 #[.int .i64 2, .int .i64 c] W fun e w' => e = .returned (.bool false) ∧ Below W.heap.size W w') := fun W => by rw [← hq]; exact errorIs_any 2 c (by decide) (by decide) hc1 hc2 W
  clear hq hN
  go_enter Tryz.func8, Tryz.ntmps8
  go_wp2_with (fail)
  refine (AA.out w0).mono ?_
  rintro e w1 ⟨rfl, hb⟩
  have HB1 := Lib.hid (below_step' HB0.out (Nat.le_refl _) hb)
  clear hb HB0
  go_wp2_with (fail)
  refine (AB.out w1).mono ?_
  rintro e w2 ⟨rfl, hb⟩
  have HB2 := Lib.hid (below_step' HB1.out (Nat.le_refl _) hb)
  clear hb HB1
  go_wp2_with (fail)
  refine (BC.out w2).mono ?_
  rintro e w3 ⟨rfl, hb⟩
  have HB3 := Lib.hid (below_step' HB2.out (Nat.le_refl _) hb)
  clear hb HB2
  go_wp2_with (fail)
  refine (AB.out w3).mono ?_
  rintro e w4 ⟨rfl, hb⟩
  have HB4 := Lib.hid (below_step' HB3.out (Nat.le_refl _) hb)
  clear hb HB3
  go_wp2_with (fail)
  refine (awake_true N w4 (HN.out.mono HN.out.le HB4.out)).mono ?_
  rintro e w5 ⟨rfl, hb⟩
  have HB5 := Lib.hid (below_step' HB4.out (Nat.le_refl _) hb)
  clear hb
  go_wp2_with (fail)
  go_ret
  exact ⟨rfl, HB5.out⟩
set_option maxRecDepth 100000 in
set_option maxHeartbeats 2000000 in
theorem eis_2_2_t (c : Nat) (hc1 : 1 ≤ c) (hc2 : c ≤ 11) (hq : isB 2 c = true) (N : Nat) (w0 : World) (hN : TL N w0) : Calls Tryz.prog 8 #[.int .i64 2, .int .i64 2, .int .i64 c] w0 fun e w' => e = .returned (.bool true) ∧ Below w0.heap.size w0 w' := by
  have HN := Lib.hid hN
  have HB0 : Hid (Below w0.heap.size w0 w0) := Below.refl _ _
  have AA : Hid (∀ W, Calls Tryz.prog 18 #[.int .i64 2, .int .i64 2] W fun e w' => e = .returned (.bool true) ∧ Below W.heap.size W w') := fun W => errorIs_any 2 2 (by decide) (by decide) (by decide) (by decide) W
  have AB : Hid (∀ W, Calls Tryz.prog 18 #[.int .i64 2, .int .i64 2] W fun e w' => e = .returned (.bool true) ∧ Below W.heap.size W w') := fun W => errorIs_any 2 2 (by decide) (by decide) (by decide) (by decide) W
  have BA : Hid (∀ W, Calls Tryz.prog 18 #[.int .i64 2, .int .i64 2] W fun e w' => e = .returned (.bool true) ∧ Below W.heap.size W w') := fun W => errorIs_any 2 2 (by decide) (by decide) (by decide) (by decide) W
  have BC : Hid (∀ W, Calls Tryz.prog 18 #[.int .i64 2, .int .i64 c] W fun e w' => e = .returned (.bool true) ∧ Below W.heap.size W w') := fun W => by rw [← hq]; exact errorIs_any 2 c (by decide) (by decide) hc1 hc2 W
  have AC : Hid (∀ W, Calls Tryz.prog 18 #[.int .i64 2, .int .i64 c] W fun e w' => e = .returned (.bool true) ∧ Below W.heap.size W w') := fun W => by rw [← isB_trans 2 2 c (by decide) (by decide) hc2 (by decide) hq]; exact errorIs_any 2 c (by decide) (by decide) hc1 hc2 W
  clear hq hN
  go_enter Tryz.func8, Tryz.ntmps8
  go_wp2_with (fail)
  refine (AA.out w0).mono ?_
  rintro e w1 ⟨rfl, hb⟩
  have HB1 := Lib.hid (below_step' HB0.out (Nat.le_refl _) hb)
  clear hb HB0
  go_wp2_with (fail)
  refine (AB.out w1).mono ?_
  rintro e w2 ⟨rfl, hb⟩
  have HB2 := Lib.hid (below_step' HB1.out (Nat.le_refl _) hb)
  clear hb HB1
  go_wp2_with (fail)
  refine (BC.out w2).mono ?_
  rintro e w3 ⟨rfl, hb⟩
  have HB3 := Lib.hid (below_step' HB2.out (Nat.le_refl _) hb)
  clear hb HB2
  go_wp2_with (fail)
  refine (AC.out w3).mono ?_
  rintro e w4 ⟨rfl, hb⟩
  have HB4 := Lib.hid (below_step' HB3.out (Nat.le_refl _) hb)
  clear hb HB3
  go_wp2_with (fail)
  refine (AB.out w4).mono ?_
  rintro e w5 ⟨rfl, hb⟩
  have HB5 := Lib.hid (below_step' HB4.out (Nat.le_refl _) hb)
  clear hb HB4
  go_wp2_with (fail)
  refine (awake_true N w5 (HN.out.mono HN.out.le HB5.out)).mono ?_
  rintro e w6 ⟨rfl, hb⟩
  have HB6 := Lib.hid (below_step' HB5.out (Nat.le_refl _) hb)
  clear hb
  go_wp2_with (fail)
  go_ret
  exact ⟨rfl, HB6.out⟩
set_option maxRecDepth 100000 in
set_option maxHeartbeats 2000000 in
theorem eis_3_3_f (c : Nat) (hc1 : 1 ≤ c) (hc2 : c ≤ 11) (hq : isB 3 c = false) (N : Nat) (w0 : World) (hN : TL N w0) : Calls Tryz.prog 8 #[.int .i64 3, .int .i64 3, .int .i64 c] w0 fun e w' => e = .returned (.bool true) ∧ Below w0.heap.size w0 w' := by
  have HN := Lib.hid hN
  have HB0 : Hid (Below w0.heap.size w0 w0) := Below.refl _ _
  have AA : Hid (∀ W, Calls Tryz.prog 18 #[.int .i64 3, .int .i64 3] W fun e w' => e = .returned (.bool true) ∧ Below W.heap.size W w') := fun W => errorIs_any 3 3 (by decide) (by decide) (by decide) (by decide) W
  have AB : Hid (∀ W, Calls Tryz.prog 18 #[.int .i64 3, .int .i64 3] W fun e w' => e = .returned (.bool true) ∧ Below W.heap.size W w') := fun W => errorIs_any 3 3 (by decide) (by decide) (by decide) (by decide) W
  have BA : Hid (∀ W, Calls Tryz.prog 18 #[.int .i64 3, .int .i64 3] W fun e w' => e = .returned (.bool true) ∧ Below W.heap.size W w') := fun W => errorIs_any 3 3 (by decide) (by decide) (by decide) (by decide) W
  have BC : Hid (∀ W, Calls Tryz.prog 18 #[.int .i64 3, .int .i64 c] W fun e w' => e = .returned (.bool false) ∧ Below W.heap.size W w') := fun W => by rw [← hq]; exact errorIs_any 3 c (by decide) (by decide) hc1 hc2 W
  clear hq hN
  go_enter Tryz.func8, Tryz.ntmps8
  go_wp2_with (fail)
  refine (AA.out w0).mono ?_
  rintro e w1 ⟨rfl, hb⟩
  have HB1 := Lib.hid (below_step' HB0.out (Nat.le_refl _) hb)
  clear hb HB0
  go_wp2_with (fail)
  refine (AB.out w1).mono ?_
  rintro e w2 ⟨rfl, hb⟩
  have HB2 := Lib.hid (below_step' HB1.out (Nat.le_refl _) hb)
  clear hb HB1
  go_wp2_with (fail)
  refine (BC.out w2).mono ?_
  rintro e w3 ⟨rfl, hb⟩
  have HB3 := Lib.hid (below_step' HB2.out (Nat.le_refl _) hb)
  clear hb HB2
  go_wp2_with (fail)
  refine (AB.out w3).mono ?_
  rintro e w4 ⟨rfl, hb⟩
  have HB4 := Lib.hid (below_step' HB3.out (Nat.le_refl _) hb)
  clear hb HB3
  go_wp2_with (fail)
  refine (awake_true N w4 (HN.out.mono HN.out.le HB4.out)).mono ?_
  rintro e w5 ⟨rfl, hb⟩
  have HB5 := Lib.hid (below_step' HB4.out (Nat.le_refl _) hb)
  clear hb
  go_wp2_with (fail)
  go_ret
  exact ⟨rfl, HB5.out⟩
set_option maxRecDepth 100000 in
set_option maxHeartbeats 2000000 in
theorem eis_3_3_t (c : Nat) (hc1 : 1 ≤ c) (hc2 : c ≤ 11) (hq : isB 3 c = true) (N : Nat) (w0 : World) (hN : TL N w0) : Calls Tryz.prog 8 #[.int .i64 3, .int .i64 3, .int .i64 c] w0 fun e w' => e = .returned (.bool true) ∧ Below w0.heap.size w0 w' := by
  have HN := Lib.hid hN
  have HB0 : Hid (Below w0.heap.size w0 w0) := Below.refl _ _
  have AA : Hid (∀ W, Calls Tryz.prog 18 #[.int .i64 3, .int .i64 3] W fun e w' => e = .returned (.bool true) ∧ Below W.heap.size W w') := fun W => errorIs_any 3 3 (by decide) (by decide) (by decide) (by decide) W
  have AB : Hid (∀ W, Calls Tryz.prog 18 #[.int .i64 3, .int .i64 3] W fun e w' => e = .returned (.bool true) ∧ Below W.heap.size W w') := fun W => errorIs_any 3 3 (by decide) (by decide) (by decide) (by decide) W
  have BA : Hid (∀ W, Calls Tryz.prog 18 #[.int .i64 3, .int .i64 3] W fun e w' => e = .returned (.bool true) ∧ Below W.heap.size W w') := fun W => errorIs_any 3 3 (by decide) (by decide) (by decide) (by decide) W
  have BC : Hid (∀ W, Calls Tryz.prog 18 #[.int .i64 3, .int .i64 c] W fun e w' => e = .returned (.bool true) ∧ Below W.heap.size W w') := fun W => by rw [← hq]; exact errorIs_any 3 c (by decide) (by decide) hc1 hc2 W
  have AC : Hid (∀ W, Calls Tryz.prog 18 #[.int .i64 3, .int .i64 c] W fun e w' => e = .returned (.bool true) ∧ Below W.heap.size W w') := fun W => by rw [← isB_trans 3 3 c (by decide) (by decide) hc2 (by decide) hq]; exact errorIs_any 3 c (by decide) (by decide) hc1 hc2 W
  clear hq hN
  go_enter Tryz.func8, Tryz.ntmps8
  go_wp2_with (fail)
  refine (AA.out w0).mono ?_
  rintro e w1 ⟨rfl, hb⟩
  have HB1 := Lib.hid (below_step' HB0.out (Nat.le_refl _) hb)
  clear hb HB0
  go_wp2_with (fail)
  refine (AB.out w1).mono ?_
  rintro e w2 ⟨rfl, hb⟩
  have HB2 := Lib.hid (below_step' HB1.out (Nat.le_refl _) hb)
  clear hb HB1
  go_wp2_with (fail)
  refine (BC.out w2).mono ?_
  rintro e w3 ⟨rfl, hb⟩
  have HB3 := Lib.hid (below_step' HB2.out (Nat.le_refl _) hb)
  clear hb HB2
  go_wp2_with (fail)
  refine (AC.out w3).mono ?_
  rintro e w4 ⟨rfl, hb⟩
  have HB4 := Lib.hid (below_step' HB3.out (Nat.le_refl _) hb)
  clear hb HB3
  go_wp2_with (fail)
  refine (AB.out w4).mono ?_
  rintro e w5 ⟨rfl, hb⟩
  have HB5 := Lib.hid (below_step' HB4.out (Nat.le_refl _) hb)
  clear hb HB4
  go_wp2_with (fail)
  refine (awake_true N w5 (HN.out.mono HN.out.le HB5.out)).mono ?_
  rintro e w6 ⟨rfl, hb⟩
  have HB6 := Lib.hid (below_step' HB5.out (Nat.le_refl _) hb)
  clear hb
  go_wp2_with (fail)
  go_ret
  exact ⟨rfl, HB6.out⟩
set_option maxRecDepth 100000 in
set_option maxHeartbeats 2000000 in
theorem eis_3_4_f (c : Nat) (hc1 : 1 ≤ c) (hc2 : c ≤ 11) (hq : isB 4 c = false) (N : Nat) (w0 : World) (hN : TL N w0) : Calls Tryz.prog 8 #[.int .i64 3, .int .i64 4, .int .i64 c] w0 fun e w' => e = .returned (.bool true) ∧ Below w0.heap.size w0 w' := by
  have HN := Lib.hid hN
  have HB0 : Hid (Below w0.heap.size w0 w0) := Below.refl _ _
  have AA : Hid (∀ W, Calls Tryz.prog 18 #[.int .i64 3, .int .i64 3] W fun e w' => e = .returned (.bool true) ∧ Below W.heap.size W w') := fun W => errorIs_any 3 3 (by decide) (by decide) (by decide) (by decide) W
  have AB : Hid (∀ W, Calls Tryz.prog 18 #[.int .i64 3, .int .i64 4] W fun e w' => e = .returned (.bool true) ∧ Below W.heap.size W w') := fun W => errorIs_any 3 4 (by decide) (by decide) (by decide) (by decide) W
  have BA : Hid (∀ W, Calls Tryz.prog 18 #[.int .i64 4, .int .i64 3] W fun e w' => e = .returned (.bool false) ∧ Below W.heap.size W w') := fun W => errorIs_any 4 3 (by decide) (by decide) (by decide) (by decide) W
  have BC : Hid (∀ W, Calls Tryz.prog 18 #[.int .i64 4, .int .i64 c] W fun e w' => e = .returned (.bool false) ∧ Below W.heap.size W w') := fun W => by rw [← hq]; exact errorIs_any 4 c (by decide) (by decide) hc1 hc2 W
  clear hq hN
  go_enter Tryz.func8, Tryz.ntmps8
  go_wp2_with (fail)
  refine (AA.out w0).mono ?_
  rintro e w1 ⟨rfl, hb⟩
  have HB1 := Lib.hid (below_step' HB0.out (Nat.le_refl _) hb)
  clear hb HB0
  go_wp2_with (fail)
  refine (AB.out w1).mono ?_
  rintro e w2 ⟨rfl, hb⟩
  have HB2 := Lib.hid (below_step' HB1.out (Nat.le_refl _) hb)
  clear hb HB1
  go_wp2_with (fail)
  refine (BC.out w2).mono ?_
  rintro e w3 ⟨rfl, hb⟩
  have HB3 := Lib.hid (below_step' HB2.out (Nat.le_refl _) hb)
  clear hb HB2
  go_wp2_with (fail)
  refine (AB.out w3).mono ?_
  rintro e w4 ⟨rfl, hb⟩
  have HB4 := Lib.hid (below_step' HB3.out (Nat.le_refl _) hb)
  clear hb HB3
  go_wp2_with (fail)
  refine (BA.out w4).mono ?_
  rintro e w5 ⟨rfl, hb⟩
  have HB5 := Lib.hid (below_step' HB4.out (Nat.le_refl _) hb)
  clear hb HB4
  go_wp2_with (fail)
  refine (AB.out w5).mono ?_
  rintro e w6 ⟨rfl, hb⟩
  have HB6 := Lib.hid (below_step' HB5.out (Nat.le_refl _) hb)
  clear hb HB5
  go_wp2_with (fail)
  refine (awake_true N w6 (HN.out.mono HN.out.le HB6.out)).mono ?_
  rintro e w7 ⟨rfl, hb⟩
  have HB7 := Lib.hid (below_step' HB6.out (Nat.le_refl _) hb)
  clear hb
  go_wp2_with (fail)
  go_ret
  exact ⟨rfl, HB7.out⟩
set_option maxRecDepth 100000 in
set_option maxHeartbeats 2000000 in
theorem eis_3_4_t (c : Nat) (hc1 : 1 ≤ c) (hc2 : c ≤ 11) (hq : isB 4 c = true) (N : Nat) (w0 : World) (hN : TL N w0) : Calls Tryz.prog 8 #[.int .i64 3, .int .i64 4, .int .i64 c] w0 fun e w' => e = .returned (.bool true) ∧ Below w0.heap.size w0 w' := by
  have HN := Lib.hid hN
  have HB0 : Hid (Below w0.heap.size w0 w0) := Below.refl _ _
  have AA : Hid (∀ W, Calls Tryz.prog 18 #[.int .i64 3, .int .i64 3] W fun e w' => e = .returned (.bool true) ∧ Below W.heap.size W w') := fun W => errorIs_any 3 3 (by decide) (by decide) (by decide) (by decide) W
  have AB : Hid (∀ W, Calls Tryz.prog 18 #[.int .i64 3, .int .i64 4] W fun e w' => e = .returned (.bool true) ∧ Below W.heap.size W w') := fun W => errorIs_any 3 4 (by decide) (by decide) (by decide) (by decide) W
  have BA : Hid (∀ W, Calls Tryz.prog 18 #[.int .i64 4, .int .i64 3] W fun e w' => e = .returned (.bool false) ∧ Below W.heap.size W w') := fun W => errorIs_any 4 3 (by decide) (by decide) (by decide) (by decide) W
  have BC : Hid (∀ W, Calls Tryz.prog 18 #[.int .i64 4, .int .i64 c] W fun e w' => e = .returned (.bool true) ∧ Below W.heap.size W w') := fun W => by rw [← hq]; exact errorIs_any 4 c (by decide) (by decide) hc1 hc2 W
  have AC : Hid (∀ W, Calls Tryz.prog 18 #[.int .i64 3, .int .i64 c] W fun e w' => e = .returned (.bool true) ∧ Below W.heap.size W w') := fun W => by rw [← isB_trans 3 4 c (by decide) (by decide) hc2 (by decide) hq]; exact errorIs_any 3 c (by decide) (by decide) hc1 hc2 W
  clear hq hN
  go_enter Tryz.func8, Tryz.ntmps8
  go_wp2_with (fail)
  refine (AA.out w0).mono ?_
  rintro e w1 ⟨rfl, hb⟩
  have HB1 := Lib.hid (below_step' HB0.out (Nat.le_refl _) hb)
  clear hb HB0
  go_wp2_with (fail)
  refine (AB.out w1).mono ?_
  rintro e w2 ⟨rfl, hb⟩
  have HB2 := Lib.hid (below_step' HB1.out (Nat.le_refl _) hb)
  clear hb HB1
  go_wp2_with (fail)
  refine (BC.out w2).mono ?_
  rintro e w3 ⟨rfl, hb⟩
  have HB3 := Lib.hid (below_step' HB2.out (Nat.le_refl _) hb)
  clear hb HB2
  go_wp2_with (fail)
  refine (AC.out w3).mono ?_
  rintro e w4 ⟨rfl, hb⟩
  have HB4 := Lib.hid (below_step' HB3.out (Nat.le_refl _) hb)
  clear hb HB3
  go_wp2_with (fail)
  refine (AB.out w4).mono ?_
  rintro e w5 ⟨rfl, hb⟩
  have HB5 := Lib.hid (below_step' HB4.out (Nat.le_refl _) hb)
  clear hb HB4
  go_wp2_with (fail)
  refine (BA.out w5).mono ?_
  rintro e w6 ⟨rfl, hb⟩
  have HB6 := Lib.hid (below_step' HB5.out (Nat.le_refl _) hb)
  clear hb HB5
  go_wp2_with (fail)
  refine (AB.out w6).mono ?_
  rintro e w7 ⟨rfl, hb⟩
  have HB7 := Lib.hid (below_step' HB6.out (Nat.le_refl _) hb)
  clear hb HB6
  go_wp2_with (fail)
  refine (awake_true N w7 (HN.out.mono HN.out.le HB7.out)).mono ?_
  rintro e w8 ⟨rfl, hb⟩
  have HB8 := Lib.hid (below_step' HB7.out (Nat.le_refl _) hb)
  clear hb
  go_wp2_with (fail)
  go_ret
  exact ⟨rfl, HB8.out⟩
set_option maxRecDepth 100000 in
set_option maxHeartbeats 2000000 in
theorem eis_4_4_f (c : Nat) (hc1 : 1 ≤ c) (hc2 : c ≤ 11) (hq : isB 4 c = false) (N : Nat) (w0 : World) (hN : TL N w0) : Calls Tryz.prog 8 #[.int .i64 4, .int .i64 4, .int .i64 c] w0 fun e w' => e = .returned (.bool true) ∧ Below w0.heap.size w0 w' := by
  have HN := Lib.hid hN
  have HB0 : Hid (Below w0.heap.size w0 w0) := Below.refl _ _
  have AA : Hid (∀ W, Calls Tryz.prog 18 #[.int .i64 4, .int .i64 4] W fun e w' => e = .returned (.bool true) ∧ Below W.heap.size W w') := fun W => errorIs_any 4 4 (by decide) (by decide) (by decide) (by decide) W
  have AB : Hid (∀ W, Calls Tryz.prog 18 #[.int .i64 4, .int .i64 4] W fun e w' => e = .returned (.bool true) ∧ Below W.heap.size W w') := fun W => errorIs_any 4 4 (by decide) (by decide) (by decide) (by decide) W
  have BA : Hid (∀ W, Calls Tryz.prog 18 #[.int .i64 4, .int .i64 4] W fun e w' => e = .returned (.bool true) ∧ Below W.heap.size W w') := fun W => errorIs_any 4 4 (by decide) (by decide) (by decide) (by decide) W
  have BC : Hid (∀ W, Calls Tryz.prog 18 #[.int .i64 4, .int .i64 c] W fun e w' => e = .returned (.bool false) ∧ Below W.heap.size W w') := fun W => by rw [← hq]; exact errorIs_any 4 c (by decide) (by decide) hc1 hc2 W
  clear hq hN
  go_enter Tryz.func8, Tryz.ntmps8
  go_wp2_with (fail)
  refine (AA.out w0).mono ?_
  rintro e w1 ⟨rfl, hb⟩
  have HB1 := Lib.hid (below_step' HB0.out (Nat.le_refl _) hb)
  clear hb HB0
  go_wp2_with (fail)
  refine (AB.out w1).mono ?_
  rintro e w2 ⟨rfl, hb⟩
  have HB2 := Lib.hid (below_step' HB1.out (Nat.le_refl _) hb)
  clear hb HB1
  go_wp2_with (fail)
  refine (BC.out w2).mono ?_
  rintro e w3 ⟨rfl, hb⟩
  have HB3 := Lib.hid (below_step' HB2.out (Nat.le_refl _) hb)
  clear hb HB2
  go_wp2_with (fail)
  refine (AB.out w3).mono ?_
  rintro e w4 ⟨rfl, hb⟩
  have HB4 := Lib.hid (below_step' HB3.out (Nat.le_refl _) hb)
  clear hb HB3
  go_wp2_with (fail)
  refine (awake_true N w4 (HN.out.mono HN.out.le HB4.out)).mono ?_
  rintro e w5 ⟨rfl, hb⟩
  have HB5 := Lib.hid (below_step' HB4.out (Nat.le_refl _) hb)
  clear hb
  go_wp2_with (fail)
  go_ret
  exact ⟨rfl, HB5.out⟩
set_option maxRecDepth 100000 in
set_option maxHeartbeats 2000000 in
theorem eis_4_4_t (c : Nat) (hc1 : 1 ≤ c) (hc2 : c ≤ 11) (hq : isB 4 c = true) (N : Nat) (w0 : World) (hN : TL N w0) : Calls Tryz.prog 8 #[.int .i64 4, .int .i64 4, .int .i64 c] w0 fun e w' => e = .returned (.bool true) ∧ Below w0.heap.size w0 w' := by
  have HN := Lib.hid hN
  have HB0 : Hid (Below w0.heap.size w0 w0) := Below.refl _ _
  have AA : Hid (∀ W, Calls Tryz.prog 18 #[.int .i64 4, .int .i64 4] W fun e w' => e = .returned (.bool true) ∧ Below W.heap.size W w') := fun W => errorIs_any 4 4 (by decide) (by decide) (by decide) (by decide) W
  have AB : Hid (∀ W, Calls Tryz.prog 18 #[.int .i64 4, .int .i64 4] W fun e w' => e = .returned (.bool true) ∧ Below W.heap.size W w') := fun W => errorIs_any 4 4 (by decide) (by decide) (by decide) (by decide) W
  have BA : Hid (∀ W, Calls Tryz.prog 18 #[.int .i64 4, .int .i64 4] W fun e w' => e = .returned (.bool true) ∧ Below W.heap.size W w') := fun W => errorIs_any 4 4 (by decide) (by decide) (by decide) (by decide) W
  have BC : Hid (∀ W, Calls Tryz.prog 18 #[.int .i64 4, .int .i64 c] W fun e w' => e = .returned (.bool true) ∧ Below W.heap.size W w') := fun W => by rw [← hq]; exact errorIs_any 4 c (by decide) (by decide) hc1 hc2 W
  have AC : Hid (∀ W, Calls Tryz.prog 18 #[.int .i64 4, .int .i64 c] W fun e w' => e = .returned (.bool true) ∧ Below W.heap.size W w') := fun W => by rw [← isB_trans 4 4 c (by decide) (by decide) hc2 (by decide) hq]; exact errorIs_any 4 c (by decide) (by decide) hc1 hc2 W
  clear hq hN
  go_enter Tryz.func8, Tryz.ntmps8
  go_wp2_with (fail)
  refine (AA.out w0).mono ?_
  rintro e w1 ⟨rfl, hb⟩
  have HB1 := Lib.hid (below_step' HB0.out (Nat.le_refl _) hb)
  clear hb HB0
  go_wp2_with (fail)
  refine (AB.out w1).mono ?_
  rintro e w2 ⟨rfl, hb⟩
  have HB2 := Lib.hid (below_step' HB1.out (Nat.le_refl _) hb)
  clear hb HB1
  go_wp2_with (fail)
  refine (BC.out w2).mono ?_
  rintro e w3 ⟨rfl, hb⟩
  have HB3 := Lib.hid (below_step' HB2.out (Nat.le_refl _) hb)
  clear hb HB2
  go_wp2_with (fail)
  refine (AC.out w3).mono ?_
  rintro e w4 ⟨rfl, hb⟩
  have HB4 := Lib.hid (below_step' HB3.out (Nat.le_refl _) hb)
  clear hb HB3
  go_wp2_with (fail)
  refine (AB.out w4).mono ?_
  rintro e w5 ⟨rfl, hb⟩
  have HB5 := Lib.hid (below_step' HB4.out (Nat.le_refl _) hb)
  clear hb HB4
  go_wp2_with (fail)
  refine (awake_true N w5 (HN.out.mono HN.out.le HB5.out)).mono ?_
  rintro e w6 ⟨rfl, hb⟩
  have HB6 := Lib.hid (below_step' HB5.out (Nat.le_refl _) hb)
  clear hb
  go_wp2_with (fail)
  go_ret
  exact ⟨rfl, HB6.out⟩
set_option maxRecDepth 100000 in
set_option maxHeartbeats 2000000 in
theorem eis_5_4_f (c : Nat) (hc1 : 1 ≤ c) (hc2 : c ≤ 11) (hq : isB 4 c = false) (N : Nat) (w0 : World) (hN : TL N w0) : Calls Tryz.prog 8 #[.int .i64 5, .int .i64 4, .int .i64 c] w0 fun e w' => e = .returned (.bool true) ∧ Below w0.heap.size w0 w' := by
  have HN := Lib.hid hN
  have HB0 : Hid (Below w0.heap.size w0 w0) := Below.refl _ _
  have AA : Hid (∀ W, Calls Tryz.prog 18 #[.int .i64 5, .int .i64 5] W fun e w' => e = .returned (.bool true) ∧ Below W.heap.size W w') := fun W => errorIs_any 5 5 (by decide) (by decide) (by decide) (by decide) W
  have AB : Hid (∀ W, Calls Tryz.prog 18 #[.int .i64 5, .int .i64 4] W fun e w' => e = .returned (.bool true) ∧ Below W.heap.size W w') := fun W => errorIs_any 5 4 (by decide) (by decide) (by decide) (by decide) W
  have BA : Hid (∀ W, Calls Tryz.prog 18 #[.int .i64 4, .int .i64 5] W fun e w' => e = .returned (.bool false) ∧ Below W.heap.size W w') := fun W => errorIs_any 4 5 (by decide) (by decide) (by decide) (by decide) W
  have BC : Hid (∀ W, Calls Tryz.prog 18 #[.int .i64 4, .int .i64 c] W fun e w' => e = .returned (.bool false) ∧ Below W.heap.size W w') := fun W => by rw [← hq]; exact errorIs_any 4 c (by decide) (by decide) hc1 hc2 W
  clear hq hN
  go_enter Tryz.func8, Tryz.ntmps8
  go_wp2_with (fail)
  refine (AA.out w0).mono ?_
  rintro e w1 ⟨rfl, hb⟩
  have HB1 := Lib.hid (below_step' HB0.out (Nat.le_refl _) hb)
  clear hb HB0
  go_wp2_with (fail)
  refine (AB.out w1).mono ?_
  rintro e w2 ⟨rfl, hb⟩
  have HB2 := Lib.hid (below_step' HB1.out (Nat.le_refl _) hb)
  clear hb HB1
  go_wp2_with (fail)
  refine (BC.out w2).mono ?_
  rintro e w3 ⟨rfl, hb⟩
  have HB3 := Lib.hid (below_step' HB2.out (Nat.le_refl _) hb)
  clear hb HB2
  go_wp2_with (fail)
  refine (AB.out w3).mono ?_
  rintro e w4 ⟨rfl, hb⟩
  have HB4 := Lib.hid (below_step' HB3.out (Nat.le_refl _) hb)
  clear hb HB3
  go_wp2_with (fail)
  refine (BA.out w4).mono ?_
  rintro e w5 ⟨rfl, hb⟩
  have HB5 := Lib.hid (below_step' HB4.out (Nat.le_refl _) hb)
  clear hb HB4
  go_wp2_with (fail)
  refine (AB.out w5).mono ?_
  rintro e w6 ⟨rfl, hb⟩
  have HB6 := Lib.hid (below_step' HB5.out (Nat.le_refl _) hb)
  clear hb HB5
  go_wp2_with (fail)
  refine (awake_true N w6 (HN.out.mono HN.out.le HB6.out)).mono ?_
  rintro e w7 ⟨rfl, hb⟩
  have HB7 := Lib.hid (below_step' HB6.out (Nat.le_refl _) hb)
  clear hb
  go_wp2_with (fail)
  go_ret
  exact ⟨rfl, HB7.out⟩
set_option maxRecDepth 100000 in
set_option maxHeartbeats 2000000 in
theorem eis_5_4_t (c : Nat) (hc1 : 1 ≤ c) (hc2 : c ≤ 11) (hq : isB 4 c = true) (N : Nat) (w0 : World) (hN : TL N w0) : Calls Tryz.prog 8 #[.int .i64 5, .int .i64 4, .int .i64 c] w0 fun e w' => e = .returned (.bool true) ∧ Below w0.heap.size w0 w' := by
  have HN := Lib.hid hN
  have HB0 : Hid (Below w0.heap.size w0 w0) := Below.refl _ _
  have AA : Hid (∀ W, Calls Tryz.prog 18 #[.int .i64 5, .int .i64 5] W fun e w' => e = .returned (.bool true) ∧ Below W.heap.size W w') := fun W => errorIs_any 5 5 (by decide) (by decide) (by decide) (by decide) W
  have AB : Hid (∀ W, Calls Tryz.prog 18 #[.int .i64 5, .int .i64 4] W fun e w' => e = .returned (.bool true) ∧ Below W.heap.size W w') := fun W => errorIs_any 5 4 (by decide) (by decide) (by decide) (by decide) W
  have BA : Hid (∀ W, Calls Tryz.prog 18 #[.int .i64 4, .int .i64 5] W fun e w' => e = .returned (.bool false) ∧ Below W.heap.size W w') := fun W => errorIs_any 4 5 (by decide) (by decide) (by decide) (by decide) W
  have BC : Hid (∀ W, Calls Tryz.prog 18 #[.int .i64 4, .int .i64 c] W fun e w' => e = .returned (.bool true) ∧ Below W.heap.size W w') := fun W => by rw [← hq]; exact errorIs_any 4 c (by decide) (by decide) hc1 hc2 W
  have AC : Hid (∀ W, Calls Tryz.prog 18 #[.int .i64 5, .int .i64 c] W fun e w' => e = .returned (.bool true) ∧ Below W.heap.size W w') := fun W => by rw [← isB_trans 5 4 c (by decide) (by decide) hc2 (by decide) hq]; exact errorIs_any 5 c (by decide) (by decide) hc1 hc2 W
  clear hq hN
  go_enter Tryz.func8, Tryz.ntmps8
  go_wp2_with (fail)
  refine (AA.out w0).mono ?_
  rintro e w1 ⟨rfl, hb⟩
  have HB1 := Lib.hid (below_step' HB0.out (Nat.le_refl _) hb)
  clear hb HB0
  go_wp2_with (fail)
  refine (AB.out w1).mono ?_
  rintro e w2 ⟨rfl, hb⟩
  have HB2 := Lib.hid (below_step' HB1.out (Nat.le_refl _) hb)
  clear hb HB1
  go_wp2_with (fail)
  refine (BC.out w2).mono ?_
  rintro e w3 ⟨rfl, hb⟩
  have HB3 := Lib.hid (below_step' HB2.out (Nat.le_refl _) hb)
  clear hb HB2
  go_wp2_with (fail)
  refine (AC.out w3).mono ?_
  rintro e w4 ⟨rfl, hb⟩
  have HB4 := Lib.hid (below_step' HB3.out (Nat.le_refl _) hb)
  clear hb HB3
  go_wp2_with (fail)
  refine (AB.out w4).mono ?_
  rintro e w5 ⟨rfl, hb⟩
  have HB5 := Lib.hid (below_step' HB4.out (Nat.le_refl _) hb)
  clear hb HB4
  go_wp2_with (fail)
  refine (BA.out w5).mono ?_
  rintro e w6 ⟨rfl, hb⟩
  have HB6 := Lib.hid (below_step' HB5.out (Nat.le_refl _) hb)
  clear hb HB5
  go_wp2_with (fail)
  refine (AB.out w6).mono ?_
  rintro e w7 ⟨rfl, hb⟩
  have HB7 := Lib.hid (below_step' HB6.out (Nat.le_refl _) hb)
  clear hb HB6
  go_wp2_with (fail)
  refine (awake_true N w7 (HN.out.mono HN.out.le HB7.out)).mono ?_
  rintro e w8 ⟨rfl, hb⟩
  have HB8 := Lib.hid (below_step' HB7.out (Nat.le_refl _) hb)
  clear hb
  go_wp2_with (fail)
  go_ret
  exact ⟨rfl, HB8.out⟩
set_option maxRecDepth 100000 in
set_option maxHeartbeats 2000000 in
theorem eis_5_5_f (c : Nat) (hc1 : 1 ≤ c) (hc2 : c ≤ 11) (hq : isB 5 c = false) (N : Nat) (w0 : World) (hN : TL N w0) : Calls Tryz.prog 8 #[.int .i64 5, .int .i64 5, .int .i64 c] w0 fun e w' => e = .returned (.bool true) ∧ Below w0.heap.size w0 w' := by
  have HN := Lib.hid hN
  have HB0 : Hid (Below w0.heap.size w0 w0) := Below.refl _ _
  have AA : Hid (∀ W, Calls Tryz.prog 18 #[.int .i64 5, .int .i64 5] W fun e w' => e = .returned (.bool true) ∧ Below W.heap.size W w') := fun W => errorIs_any 5 5 (by decide) (by decide) (by decide) (by decide) W
  have AB : Hid (∀ W, Calls Tryz.prog 18 #[.int .i64 5, .int .i64 5] W fun e w' => e = .returned (.bool true) ∧ Below W.heap.size W w') := fun W => errorIs_any 5 5 (by decide) (by decide) (by decide) (by decide) W
  have BA : Hid (∀ W, Calls Tryz.prog 18 #[.int .i64 5, .int .i64 5] W fun e w' => e = .returned (.bool true) ∧ Below W.heap.size W w') := fun W => errorIs_any 5 5 (by decide) (by decide) (by decide) (by decide) W
  have BC : Hid (∀ W, Calls Tryz.prog 18 #[.int .i64 5, .int .i64 c] W fun e w' => e = .returned (.bool false) ∧ Below W.heap.size W w') := fun W => by rw [← hq]; exact errorIs_any 5 c (by decide) (by decide) hc1 hc2 W
  clear hq hN
  go_enter Tryz.func8, Tryz.ntmps8
  go_wp2_with (fail)
  refine (AA.out w0).mono ?_
  rintro e w1 ⟨rfl, hb⟩
  have HB1 := Lib.hid (below_step' HB0.out (Nat.le_refl _) hb)
  clear hb HB0
  go_wp2_with (fail)
  refine (AB.out w1).mono ?_
  rintro e w2 ⟨rfl, hb⟩
  have HB2 := Lib.hid (below_step' HB1.out (Nat.le_refl _) hb)
  clear hb HB1
  go_wp2_with (fail)
  refine (BC.out w2).mono ?_
  rintro e w3 ⟨rfl, hb⟩
  have HB3 := Lib.hid (below_step' HB2.out (Nat.le_refl _) hb)
  clear hb HB2
  go_wp2_with (fail)
  refine (AB.out w3).mono ?_
  rintro e w4 ⟨rfl, hb⟩
  have HB4 := Lib.hid (below_step' HB3.out (Nat.le_refl _) hb)
  clear hb HB3
  go_wp2_with (fail)
  refine (awake_true N w4 (HN.out.mono HN.out.le HB4.out)).mono ?_
  rintro e w5 ⟨rfl, hb⟩
  have HB5 := Lib.hid (below_step' HB4.out (Nat.le_refl _) hb)
  clear hb
  go_wp2_with (fail)
  go_ret
  exact ⟨rfl, HB5.out⟩
set_option maxRecDepth 100000 in
set_option maxHeartbeats 2000000 in
theorem eis_5_5_t (c : Nat) (hc1 : 1 ≤ c) (hc2 : c ≤ 11) (hq : isB 5 c = true) (N : Nat) (w0 : World) (hN : TL N w0) : Calls Tryz.prog 8 #[.int .i64 5, .int .i64 5, .int .i64 c] w0 fun e w' => e = .returned (.bool true) ∧ Below w0.heap.size w0 w' := by
  have HN := Lib.hid hN
  have HB0 : Hid (Below w0.heap.size w0 w0) := Below.refl _ _
  have AA : Hid (∀ W, Calls Tryz.prog 18 #[.int .i64 5, .int .i64 5] W fun e w' => e = .returned (.bool true) ∧ Below W.heap.size W w') := fun W => errorIs_any 5 5 (by decide) (by decide) (by decide) (by decide) W
  have AB : Hid (∀ W, Calls Tryz.prog 18 #[.int .i64 5, .int .i64 5] W fun e w' => e = .returned (.bool true) ∧ Below W.heap.size W w') := fun W => errorIs_any 5 5 (by decide) (by decide) (by decide) (by decide) W
  have BA : Hid (∀ W, Calls Tryz.prog 18 #[.int .i64 5, .int .i64 5] W fun e w' => e = .returned (.bool true) ∧ Below W.heap.size W w') := fun W => errorIs_any 5 5 (by decide) (by decide) (by decide) (by decide) W
  have BC : Hid (∀ W, Calls Tryz.prog 18 #[.int .i64 5, .int .i64 c] W fun e w' => e = .returned (.bool true) ∧ Below W.heap.size W w') := fun W => by rw [← hq]; exact errorIs_any 5 c (by decide) (by decide) hc1 hc2 W
  have AC : Hid (∀ W, Calls Tryz.prog 18 #[.int .i64 5, .int .i64 c] W fun e w' => e = .returned (.bool true) ∧ Below W.heap.size W w') := fun W => by rw [← isB_trans 5 5 c (by decide) (by decide) hc2 (by decide) hq]; exact errorIs_any 5 c (by decide) (by decide) hc1 hc2 W
  clear hq hN
  go_enter Tryz.func8, Tryz.ntmps8
  go_wp2_with (fail)
  refine (AA.out w0).mono ?_
  rintro e w1 ⟨rfl, hb⟩
  have HB1 := Lib.hid (below_step' HB0.out (Nat.le_refl _) hb)
  clear hb HB0
  go_wp2_with (fail)
  refine (AB.out w1).mono ?_
  rintro e w2 ⟨rfl, hb⟩
  have HB2 := Lib.hid (below_step' HB1.out (Nat.le_refl _) hb)
  clear hb HB1
  go_wp2_with (fail)
  refine (BC.out w2).mono ?_
  rintro e w3 ⟨rfl, hb⟩
  have HB3 := Lib.hid (below_step' HB2.out (Nat.le_refl _) hb)
  clear hb HB2
  go_wp2_with (fail)
  refine (AC.out w3).mono ?_
  rintro e w4 ⟨rfl, hb⟩
  have HB4 := Lib.hid (below_step' HB3.out (Nat.le_refl _) hb)
  clear hb HB3
  go_wp2_with (fail)
  refine (AB.out w4).mono ?_
  rintro e w5 ⟨rfl, hb⟩
  have HB5 := Lib.hid (below_step' HB4.out (Nat.le_refl _) hb)
  clear hb HB4
  go_wp2_with (fail)
  refine (awake_true N w5 (HN.out.mono HN.out.le HB5.out)).mono ?_
  rintro e w6 ⟨rfl, hb⟩
  have HB6 := Lib.hid (below_step' HB5.out (Nat.le_refl _) hb)
  clear hb
  go_wp2_with (fail)
  go_ret
  exact ⟨rfl, HB6.out⟩
set_option maxRecDepth 100000 in
set_option maxHeartbeats 2000000 in
theorem eis_6_4_f (c : Nat) (hc1 : 1 ≤ c) (hc2 : c ≤ 11) (hq : isB 4 c = false) (N : Nat) (w0 : World) (hN : TL N w0) : Calls Tryz.prog 8 #[.int .i64 6, .int .i64 4, .int .i64 c] w0 fun e w' => e = .returned (.bool true) ∧ Below w0.heap.size w0 w' := by
  have HN := Lib.hid hN
  have HB0 : Hid (Below w0.heap.size w0 w0) := Below.refl _ _
  have AA : Hid (∀ W, Calls Tryz.prog 18 #[.int .i64 6, .int .i64 6] W fun e w' => e = .returned (.bool true) ∧ Below W.heap.size W w') := fun W => errorIs_any 6 6 (by decide) (by decide) (by decide) (by decide) W
  have AB : Hid (∀ W, Calls Tryz.prog 18 #[.int .i64 6, .int .i64 4] W fun e w' => e = .returned (.bool true) ∧ Below W.heap.size W w') := fun W => errorIs_any 6 4 (by decide) (by decide) (by decide) (by decide) W
  have BA : Hid (∀ W, Calls Tryz.prog 18 #[.int .i64 4, .int .i64 6] W fun e w' => e = .returned (.bool false) ∧ Below W.heap.size W w') := fun W => errorIs_any 4 6 (by decide) (by decide) (by decide) (by decide) W
  have BC : Hid (∀ W, Calls Tryz.prog 18 #[.int .i64 4, .int .i64 c] W fun e w' => e = .returned (.bool false) ∧ Below W.heap.size W w') := fun W => by rw [← hq]; exact errorIs_any 4 c (by decide) (by decide) hc1 hc2 W
  clear hq hN
  go_enter Tryz.func8, Tryz.ntmps8
  go_wp2_with (fail)
  refine (AA.out w0).mono ?_
  rintro e w1 ⟨rfl, hb⟩
  have HB1 := Lib.hid (below_step' HB0.out (Nat.le_refl _) hb)
  clear hb HB0
  go_wp2_with (fail)
  refine (AB.out w1).mono ?_
  rintro e w2 ⟨rfl, hb⟩
  have HB2 := Lib.hid (below_step' HB1.out (Nat.le_refl _) hb)
  clear hb HB1
  go_wp2_with (fail)
  refine (BC.out w2).mono ?_
  rintro e w3 ⟨rfl, hb⟩
  have HB3 := Lib.hid (below_step' HB2.out (Nat.le_refl _) hb)
  clear hb HB2
  go_wp2_with (fail)
  refine (AB.out w3).mono ?_
  rintro e w4 ⟨rfl, hb⟩
  have HB4 := Lib.hid (below_step' HB3.out (Nat.le_refl _) hb)
  clear hb HB3
  go_wp2_with (fail)
  refine (BA.out w4).mono ?_
  rintro e w5 ⟨rfl, hb⟩
  have HB5 := Lib.hid (below_step' HB4.out (Nat.le_refl _) hb)
  clear hb HB4
  go_wp2_with (fail)
  refine (AB.out w5).mono ?_
  rintro e w6 ⟨rfl, hb⟩
  have HB6 := Lib.hid (below_step' HB5.out (Nat.le_refl _) hb)
  clear hb HB5
  go_wp2_with (fail)
  refine (awake_true N w6 (HN.out.mono HN.out.le HB6.out)).mono ?_
  rintro e w7 ⟨rfl, hb⟩
  have HB7 := Lib.hid (below_step' HB6.out (Nat.le_refl _) hb)
  clear hb
  go_wp2_with (fail)
  go_ret
  exact ⟨rfl, HB7.out⟩
set_option maxRecDepth 100000 in
set_option maxHeartbeats 2000000 in
theorem eis_6_4_t (c : Nat) (hc1 : 1 ≤ c) (hc2 : c ≤ 11) (hq : isB 4 c = true) (N : Nat) (w0 : World) (hN : TL N w0) : Calls Tryz.prog 8 #[.int .i64 6, .int .i64 4, .int .i64 c] w0 fun e w' => e = .returned (.bool true) ∧ Below w0.heap.size w0 w' := by
  have HN := Lib.hid hN
  have HB0 : Hid (Below w0.heap.size w0 w0) := Below.refl _ _
  have AA : Hid (∀ W, Calls Tryz.prog 18 #[.int .i64 6, .int .i64 6] W fun e w' => e = .returned (.bool true) ∧ Below W.heap.size W w') := fun W => errorIs_any 6 6 (by decide) (by decide) (by decide) (by decide) W
  have AB : Hid (∀ W, Calls Tryz.prog 18 #[.int .i64 6, .int .i64 4] W fun e w' => e = .returned (.bool true) ∧ Below W.heap.size W w') := fun W => errorIs_any 6 4 (by decide) (by decide) (by decide) (by decide) W
  have BA : Hid (∀ W, Calls Tryz.prog 18 #[.int .i64 4, .int .i64 6] W fun e w' => e = .returned (.bool false) ∧ Below W.heap.size W w') := fun W => errorIs_any 4 6 (by decide) (by decide) (by decide) (by decide) W
  have BC : Hid (∀ W, Calls Tryz.prog 18 #[.int .i64 4, .int .i64 c] W fun e w' => e = .returned (.bool true) ∧ Below W.heap.size W w') := fun W => by rw [← hq]; exact errorIs_any 4 c (by decide) (by decide) hc1 hc2 W
  have AC : Hid (∀ W, Calls Tryz.prog 18 #[.int .i64 6, .int .i64 c] W fun e w' => e = .returned (.bool true) ∧ Below W.heap.size W w') := fun W => by rw [← isB_trans 6 4 c (by decide) (by decide) hc2 (by decide) hq]; exact errorIs_any 6 c (by decide) (by decide) hc1 hc2 W
  clear hq hN
  go_enter Tryz.func8, Tryz.ntmps8
  go_wp2_with (fail)
  refine (AA.out w0).mono ?_
  rintro e w1 ⟨rfl, hb⟩
  have HB1 := Lib.hid (below_step' HB0.out (Nat.le_refl _) hb)
  clear hb HB0
  go_wp2_with (fail)
  refine (AB.out w1).mono ?_
  rintro e w2 ⟨rfl, hb⟩
  have HB2 := Lib.hid (below_step' HB1.out (Nat.le_refl _) hb)
  clear hb HB1
  go_wp2_with (fail)
  refine (BC.out w2).mono ?_
  rintro e w3 ⟨rfl, hb⟩
  have HB3 := Lib.hid (below_step' HB2.out (Nat.le_refl _) hb)
  clear hb HB2
  go_wp2_with (fail)
  refine (AC.out w3).mono ?_
  rintro e w4 ⟨rfl, hb⟩
  have HB4 := Lib.hid (below_step' HB3.out (Nat.le_refl _) hb)
  clear hb HB3
  go_wp2_with (fail)
  refine (AB.out w4).mono ?_
  rintro e w5 ⟨rfl, hb⟩
  have HB5 := Lib.hid (below_step' HB4.out (Nat.le_refl _) hb)
  clear hb HB4
  go_wp2_with (fail)
  refine (BA.out w5).mono ?_
  rintro e w6 ⟨rfl, hb⟩
  have HB6 := Lib.hid (below_step' HB5.out (Nat.le_refl _) hb)
  clear hb HB5
  go_wp2_with (fail)
  refine (AB.out w6).mono ?_
  rintro e w7 ⟨rfl, hb⟩
  have HB7 := Lib.hid (below_step' HB6.out (Nat.le_refl _) hb)
  clear hb HB6
  go_wp2_with (fail)
  refine (awake_true N w7 (HN.out.mono HN.out.le HB7.out)).mono ?_
  rintro e w8 ⟨rfl, hb⟩
  have HB8 := Lib.hid (below_step' HB7.out (Nat.le_refl _) hb)
  clear hb
  go_wp2_with (fail)
  go_ret
  exact ⟨rfl, HB8.out⟩
set_option maxRecDepth 100000 in
set_option maxHeartbeats 2000000 in
theorem eis_6_5_f (c : Nat) (hc1 : 1 ≤ c) (hc2 : c ≤ 11) (hq : isB 5 c = false) (N : Nat) (w0 : World) (hN : TL N w0) : Calls Tryz.prog 8 #[.int .i64 6, .int .i64 5, .int .i64 c] w0 fun e w' => e = .returned (.bool true) ∧ Below w0.heap.size w0 w' := by
  have HN := Lib.hid hN
  have HB0 : Hid (Below w0.heap.size w0 w0) := Below.refl _ _
  have AA : Hid (∀ W, Calls Tryz.prog 18 #[.int .i64 6, .int .i64 6] W fun e w' => e = .returned (.bool true) ∧ Below W.heap.size W w') := fun W => errorIs_any 6 6 (by decide) (by decide) (by decide) (by decide) W
  have AB : Hid (∀ W, Calls Tryz.prog 18 #[.int .i64 6, .int .i64 5] W fun e w' => e = .returned (.bool true) ∧ Below W.heap.size W w') := fun W => errorIs_any 6 5 (by decide) (by decide) (by decide) (by decide) W
  have BA : Hid (∀ W, Calls Tryz.prog 18 #[.int .i64 5, .int .i64 6] W fun e w' => e = .returned (.bool false) ∧ Below W.heap.size W w') := fun W => errorIs_any 5 6 (by decide) (by decide) (by decide) (by decide) W
  have BC : Hid (∀ W, Calls Tryz.prog 18 #[.int .i64 5, .int .i64 c] W fun e w' => e = .returned (.bool false) ∧ Below W.heap.size W w') := fun W => by rw [← hq]; exact errorIs_any 5 c (by decide) (by decide) hc1 hc2 W
  clear hq hN
  go_enter Tryz.func8, Tryz.ntmps8
  go_wp2_with (fail)
  refine (AA.out w0).mono ?_
  rintro e w1 ⟨rfl, hb⟩
  have HB1 := Lib.hid (below_step' HB0.out (Nat.le_refl _) hb)
  clear hb HB0
  go_wp2_with (fail)
  refine (AB.out w1).mono ?_
  rintro e w2 ⟨rfl, hb⟩
  have HB2 := Lib.hid (below_step' HB1.out (Nat.le_refl _) hb)
  clear hb HB1
  go_wp2_with (fail)
  refine (BC.out w2).mono ?_
  rintro e w3 ⟨rfl, hb⟩
  have HB3 := Lib.hid (below_step' HB2.out (Nat.le_refl _) hb)
  clear hb HB2
  go_wp2_with (fail)
  refine (AB.out w3).mono ?_
  rintro e w4 ⟨rfl, hb⟩
  have HB4 := Lib.hid (below_step' HB3.out (Nat.le_refl _) hb)
  clear hb HB3
  go_wp2_with (fail)
  refine (BA.out w4).mono ?_
  rintro e w5 ⟨rfl, hb⟩
  have HB5 := Lib.hid (below_step' HB4.out (Nat.le_refl _) hb)
  clear hb HB4
  go_wp2_with (fail)
  refine (AB.out w5).mono ?_
  rintro e w6 ⟨rfl, hb⟩
  have HB6 := Lib.hid (below_step' HB5.out (Nat.le_refl _) hb)
  clear hb HB5
  go_wp2_with (fail)
  refine (awake_true N w6 (HN.out.mono HN.out.le HB6.out)).mono ?_
  rintro e w7 ⟨rfl, hb⟩
  have HB7 := Lib.hid (below_step' HB6.out (Nat.le_refl _) hb)
  clear hb
  go_wp2_with (fail)
  go_ret
  exact ⟨rfl, HB7.out⟩
set_option maxRecDepth 100000 in
set_option maxHeartbeats 2000000 in
theorem eis_6_5_t (c : Nat) (hc1 : 1 ≤ c) (hc2 : c ≤ 11) (hq : isB 5 c = true) (N : Nat) (w0 : World) (hN : TL N w0) : Calls Tryz.prog 8 #[.int .i64 6, .int .i64 5, .int .i64 c] w0 fun e w' => e = .returned (.bool true) ∧ Below w0.heap.size w0 w' := by
  have HN := Lib.hid hN
  have HB0 : Hid (Below w0.heap.size w0 w0) := Below.refl _ _
  have AA : Hid (∀ W, Calls Tryz.prog 18 #[.int .i64 6, .int .i64 6] W fun e w' => e = .returned (.bool true) ∧ Below W.heap.size W w') := fun W => errorIs_any 6 6 (by decide) (by decide) (by decide) (by decide) W
  have AB : Hid (∀ W, Calls Tryz.prog 18 #[.int .i64 6, .int .i64 5] W fun e w' => e = .returned (.bool true) ∧ Below W.heap.size W w') := fun W => errorIs_any 6 5 (by decide) (by decide) (by decide) (by decide) W
  have BA : Hid (∀ W, Calls Tryz.prog 18 #[.int .i64 5, .int .i64 6] W fun e w' => e = .returned (.bool false) ∧ Below W.heap.size W w') := fun W => errorIs_any 5 6 (by decide) (by decide) (by decide) (by decide) W
  have BC : Hid (∀ W, Calls Tryz.prog 18 #[.int .i64 5, .int .i64 c] W fun e w' => e = .returned (.bool true) ∧ Below W.heap.size W w') := fun W => by rw [← hq]; exact errorIs_any 5 c (by decide) (by decide) hc1 hc2 W
  have AC : Hid (∀ W, Calls Tryz.prog 18 #[.int .i64 6, .int .i64 c] W fun e w' => e = .returned (.bool true) ∧ Below W.heap.size W w') := fun W => by rw [← isB_trans 6 5 c (by decide) (by decide) hc2 (by decide) hq]; exact errorIs_any 6 c (by decide) (by decide) hc1 hc2 W
  clear hq hN
  go_enter Tryz.func8, Tryz.ntmps8
  go_wp2_with (fail)
  refine (AA.out w0).mono ?_
  rintro e w1 ⟨rfl, hb⟩
  have HB1 := Lib.hid (below_step' HB0.out (Nat.le_refl _) hb)
  clear hb HB0
  go_wp2_with (fail)
  refine (AB.out w1).mono ?_
  rintro e w2 ⟨rfl, hb⟩
  have HB2 := Lib.hid (below_step' HB1.out (Nat.le_refl _) hb)
  clear hb HB1
  go_wp2_with (fail)
  refine (BC.out w2).mono ?_
  rintro e w3 ⟨rfl, hb⟩
  have HB3 := Lib.hid (below_step' HB2.out (Nat.le_refl _) hb)
  clear hb HB2
  go_wp2_with (fail)
  refine (AC.out w3).mono ?_
  rintro e w4 ⟨rfl, hb⟩
  have HB4 := Lib.hid (below_step' HB3.out (Nat.le_refl _) hb)
  clear hb HB3
  go_wp2_with (fail)
  refine (AB.out w4).mono ?_
  rintro e w5 ⟨rfl, hb⟩
  have HB5 := Lib.hid (below_step' HB4.out (Nat.le_refl _) hb)
  clear hb HB4
  go_wp2_with (fail)
  refine (BA.out w5).mono ?_
  rintro e w6 ⟨rfl, hb⟩
  have HB6 := Lib.hid (below_step' HB5.out (Nat.le_refl _) hb)
  clear hb HB5
  go_wp2_with (fail)
  refine (AB.out w6).mono ?_
  rintro e w7 ⟨rfl, hb⟩
  have HB7 := Lib.hid (below_step' HB6.out (Nat.le_refl _) hb)
  clear hb HB6
  go_wp2_with (fail)
  refine (awake_true N w7 (HN.out.mono HN.out.le HB7.out)).mono ?_
  rintro e w8 ⟨rfl, hb⟩
  have HB8 := Lib.hid (below_step' HB7.out (Nat.le_refl _) hb)
  clear hb
  go_wp2_with (fail)
  go_ret
  exact ⟨rfl, HB8.out⟩
set_option maxRecDepth 100000 in
set_option maxHeartbeats 2000000 in
theorem eis_6_6_f (c : Nat) (hc1 : 1 ≤ c) (hc2 : c ≤ 11) (hq : isB 6 c = false) (N : Nat) (w0 : World) (hN : TL N w0) : Calls Tryz.prog 8 #[.int .i64 6, .int .i64 6, .int .i64 c] w0 fun e w' => e = .returned (.bool true) ∧ Below w0.heap.size w0 w' := by
  have HN := Lib.hid hN
  have HB0 : Hid (Below w0.heap.size w0 w0) := Below.refl _ _
  have AA : Hid (∀ W, Calls Tryz.prog 18 #[.int .i64 6, .int .i64 6] W fun e w' => e = .returned (.bool true) ∧ Below W.heap.size W w') := fun W => errorIs_any 6 6 (by decide) (by decide) (by decide) (by decide) W
  have AB : Hid (∀ W, Calls Tryz.prog 18 #[.int .i64 6, .int .i64 6] W fun e w' => e = .returned (.bool true) ∧ Below W.heap.size W w') := fun W => errorIs_any 6 6 (by decide) (by decide) (by decide) (by decide) W
  have BA : Hid (∀ W, Calls Tryz.prog 18 #[.int .i64 6, .int .i64 6] W fun e w' => e = .returned (.bool true) ∧ Below W.heap.size W w') := fun W => errorIs_any 6 6 (by decide) (by decide) (by decide) (by decide) W
  have BC : Hid (∀ W, Calls Tryz.prog 18 #[.int .i64 6, .int .i64 c] W fun e w' => e = .returned (.bool false) ∧ Below W.heap.size W w') := fun W => by rw [← hq]; exact errorIs_any 6 c (by decide) (by decide) hc1 hc2 W
  clear hq hN
  go_enter Tryz.func8, Tryz.ntmps8
  go_wp2_with (fail)
  refine (AA.out w0).mono ?_
  rintro e w1 ⟨rfl, hb⟩
  have HB1 := Lib.hid (below_step' HB0.out (Nat.le_refl _) hb)
  clear hb HB0
  go_wp2_with (fail)
  refine (AB.out w1).mono ?_
  rintro e w2 ⟨rfl, hb⟩
  have HB2 := Lib.hid (below_step' HB1.out (Nat.le_refl _) hb)
  clear hb HB1
  go_wp2_with (fail)
  refine (BC.out w2).mono ?_
  rintro e w3 ⟨rfl, hb⟩
  have HB3 := Lib.hid (below_step' HB2.out (Nat.le_refl _) hb)
  clear hb HB2
  go_wp2_with (fail)
  refine (AB.out w3).mono ?_
  rintro e w4 ⟨rfl, hb⟩
  have HB4 := Lib.hid (below_step' HB3.out (Nat.le_refl _) hb)
  clear hb HB3
  go_wp2_with (fail)
  refine (awake_true N w4 (HN.out.mono HN.out.le HB4.out)).mono ?_
  rintro e w5 ⟨rfl, hb⟩
  have HB5 := Lib.hid (below_step' HB4.out (Nat.le_refl _) hb)
  clear hb
  go_wp2_with (fail)
  go_ret
  exact ⟨rfl, HB5.out⟩
set_option maxRecDepth 100000 in
set_option maxHeartbeats 2000000 in
theorem eis_6_6_t (c : Nat) (hc1 : 1 ≤ c) (hc2 : c ≤ 11) (hq : isB 6 c = true) (N : Nat) (w0 : World) (hN : TL N w0) : Calls Tryz.prog 8 #[.int .i64 6, .int .i64 6, .int .i64 c] w0 fun e w' => e = .returned (.bool true) ∧ Below w0.heap.size w0 w' := by
  have HN := Lib.hid hN
  have HB0 : Hid (Below w0.heap.size w0 w0) := Below.refl _ _
  have AA : Hid (∀ W, Calls Tryz.prog 18 #[.int .i64 6, .int .i64 6] W fun e w' => e = .returned (.bool true) ∧ Below W.heap.size W w') := fun W => errorIs_any 6 6 (by decide) (by decide) (by decide) (by decide) W
  have AB : Hid (∀ W, Calls Tryz.prog 18 #[.int .i64 6, .int .i64 6] W fun e w' => e = .returned (.bool true) ∧ Below W.heap.size W w') := fun W => errorIs_any 6 6 (by decide) (by decide) (by decide) (by decide) W
  have BA : Hid (∀ W, Calls Tryz.prog 18 #[.int .i64 6, .int .i64 6] W fun e w' => e = .returned (.bool true) ∧ Below W.heap.size W w') := fun W => errorIs_any 6 6 (by decide) (by decide) (by decide) (by decide) W
  have BC : Hid (∀ W, Calls Tryz.prog 18 #[.int .i64 6, .int .i64 c] W fun e w' => e = .returned (.bool true) ∧ Below W.heap.size W w') := fun W => by rw [← hq]; exact errorIs_any 6 c (by decide) (by decide) hc1 hc2 W
  have AC : Hid (∀ W, Calls Tryz.prog 18 #[.int .i64 6, .int .i64 c] W fun e w' => e = .returned (.bool true) ∧ Below W.heap.size W w') := fun W => by rw [← isB_trans 6 6 c (by decide) (by decide) hc2 (by decide) hq]; exact errorIs_any 6 c (by decide) (by decide) hc1 hc2 W
  clear hq hN
  go_enter Tryz.func8, Tryz.ntmps8
  go_wp2_with (fail)
  refine (AA.out w0).mono ?_
  rintro e w1 ⟨rfl, hb⟩
  have HB1 := Lib.hid (below_step' HB0.out (Nat.le_refl _) hb)
  clear hb HB0
  go_wp2_with (fail)
  refine (AB.out w1).mono ?_
  rintro e w2 ⟨rfl, hb⟩
  have HB2 := Lib.hid (below_step' HB1.out (Nat.le_refl _) hb)
  clear hb HB1
  go_wp2_with (fail)
  refine (BC.out w2).mono ?_
  rintro e w3 ⟨rfl, hb⟩
  have HB3 := Lib.hid (below_step' HB2.out (Nat.le_refl _) hb)
  clear hb HB2
  go_wp2_with (fail)
  refine (AC.out w3).mono ?_
  rintro e w4 ⟨rfl, hb⟩
  have HB4 := Lib.hid (below_step' HB3.out (Nat.le_refl _) hb)
  clear hb HB3
  go_wp2_with (fail)
  refine (AB.out w4).mono ?_
  rintro e w5 ⟨rfl, hb⟩
  have HB5 := Lib.hid (below_step' HB4.out (Nat.le_refl _) hb)
  clear hb HB4
  go_wp2_with (fail)
  refine (awake_true N w5 (HN.out.mono HN.out.le HB5.out)).mono ?_
  rintro e w6 ⟨rfl, hb⟩
  have HB6 := Lib.hid (below_step' HB5.out (Nat.le_refl _) hb)
  clear hb
  go_wp2_with (fail)
  go_ret
  exact ⟨rfl, HB6.out⟩
set_option maxRecDepth 100000 in
set_option maxHeartbeats 2000000 in
theorem eis_7_4_f (c : Nat) (hc1 : 1 ≤ c) (hc2 : c ≤ 11) (hq : isB 4 c = false) (N : Nat) (w0 : World) (hN : TL N w0) : Calls Tryz.prog 8 #[.int .i64 7, .int .i64 4, .int .i64 c] w0 fun e w' => e = .returned (.bool true) ∧ Below w0.heap.size w0 w' := by
  have HN := Lib.hid hN
  have HB0 : Hid (Below w0.heap.size w0 w0) := Below.refl _ _
  have AA : Hid (∀ W, Calls Tryz.prog 18 #[.int .i64 7, .int .i64 7] W fun e w' => e = .returned (.bool true) ∧ Below W.heap.size W w') := fun W => errorIs_any 7 7 (by decide) (by decide) (by decide) (by decide) W
  have AB : Hid (∀ W, Calls Tryz.prog 18 #[.int .i64 7, .int .i64 4] W fun e w' => e = .returned (.bool true) ∧ Below W.heap.size W w') := fun W => errorIs_any 7 4 (by decide) (by decide) (by decide) (by decide) W
  have BA : Hid (∀ W, Calls Tryz.prog 18 #[.int .i64 4, .int .i64 7] W fun e w' => e = .returned (.bool false) ∧ Below W.heap.size W w') := fun W => errorIs_any 4 7 (by decide) (by decide) (by decide) (by decide) W
  have BC : Hid (∀ W, Calls Tryz.prog 18 #[.int .i64 4, .int .i64 c] W fun e w' => e = .returned (.bool false) ∧ Below W.heap.size W w') := fun W => by rw [← hq]; exact errorIs_any 4 c (by decide) (by decide) hc1 hc2 W
  clear hq hN
  go_enter Tryz.func8, Tryz.ntmps8
  go_wp2_with (fail)
  refine (AA.out w0).mono ?_
  rintro e w1 ⟨rfl, hb⟩
  have HB1 := Lib.hid (below_step' HB0.out (Nat.le_refl _) hb)
  clear hb HB0
  go_wp2_with (fail)
  refine (AB.out w1).mono ?_
  rintro e w2 ⟨rfl, hb⟩
  have HB2 := Lib.hid (below_step' HB1.out (Nat.le_refl _) hb)
  clear hb HB1
  go_wp2_with (fail)
  refine (BC.out w2).mono ?_
  rintro e w3 ⟨rfl, hb⟩
  have HB3 := Lib.hid (below_step' HB2.out (Nat.le_refl _) hb)
  clear hb HB2
  go_wp2_with (fail)
  refine (AB.out w3).mono ?_
  rintro e w4 ⟨rfl, hb⟩
  have HB4 := Lib.hid (below_step' HB3.out (Nat.le_refl _) hb)
  clear hb HB3
  go_wp2_with (fail)
  refine (BA.out w4).mono ?_
  rintro e w5 ⟨rfl, hb⟩
  have HB5 := Lib.hid (below_step' HB4.out (Nat.le_refl _) hb)
  clear hb HB4
  go_wp2_with (fail)
  refine (AB.out w5).mono ?_
  rintro e w6 ⟨rfl, hb⟩
  have HB6 := Lib.hid (below_step' HB5.out (Nat.le_refl _) hb)
  clear hb HB5
  go_wp2_with (fail)
  refine (awake_true N w6 (HN.out.mono HN.out.le HB6.out)).mono ?_
  rintro e w7 ⟨rfl, hb⟩
  have HB7 := Lib.hid (below_step' HB6.out (Nat.le_refl _) hb)
  clear hb
  go_wp2_with (fail)
  go_ret
  exact ⟨rfl, HB7.out⟩
set_option maxRecDepth 100000 in
set_option maxHeartbeats 2000000 in
theorem eis_7_4_t (c : Nat) (hc1 : 1 ≤ c) (hc2 : c ≤ 11) (hq : isB 4 c = true) (N : Nat) (w0 : World) (hN : TL N w0) : Calls Tryz.prog 8 #[.int .i64 7, .int .i64 4, .int .i64 c] w0 fun e w' => e = .returned (.bool true) ∧ Below w0.heap.size w0 w' := by
  have HN := Lib.hid hN
  have HB0 : Hid (Below w0.heap.size w0 w0) := Below.refl _ _
  have AA : Hid (∀ W, Calls Tryz.prog 18 #[.int .i64 7, .int .i64 7] W fun e w' => e = .returned (.bool true) ∧ Below W.heap.size W w') := fun W => errorIs_any 7 7 (by decide) (by decide) (by decide) (by decide) W
  have AB : Hid (∀ W, Calls Tryz.prog 18 #[.int .i64 7, .int .i64 4] W fun e w' => e = .returned (.bool true) ∧ Below W.heap.size W w') := fun W => errorIs_any 7 4 (by decide) (by decide) (by decide) (by decide) W
  have BA : Hid (∀ W, Calls Tryz.prog 18 #[.int .i64 4, .int .i64 7] W fun e w' => e = .returned (.bool false) ∧ Below W.heap.size W w') := fun W => errorIs_any 4 7 (by decide) (by decide) (by decide) (by decide) W
  have BC : Hid (∀ W, Calls Tryz.prog 18 #[.int .i64 4, .int .i64 c] W fun e w' => e = .returned (.bool true) ∧ Below W.heap.size W w') := fun W => by rw [← hq]; exact errorIs_any 4 c (by decide) (by decide) hc1 hc2 W
  have AC : Hid (∀ W, Calls Tryz.prog 18 #[.int .i64 7, .int .i64 c] W fun e w' => e = .returned (.bool true) ∧ Below W.heap.size W w') := fun W => by rw [← isB_trans 7 4 c (by decide) (by decide) hc2 (by decide) hq]; exact errorIs_any 7 c (by decide) (by decide) hc1 hc2 W
  clear hq hN
  go_enter Tryz.func8, Tryz.ntmps8
  go_wp2_with (fail)
  refine (AA.out w0).mono ?_
  rintro e w1 ⟨rfl, hb⟩
  have HB1 := Lib.hid (below_step' HB0.out (Nat.le_refl _) hb)
  clear hb HB0
  go_wp2_with (fail)
  refine (AB.out w1).mono ?_
  rintro e w2 ⟨rfl, hb⟩
  have HB2 := Lib.hid (below_step' HB1.out (Nat.le_refl _) hb)
  clear hb HB1
  go_wp2_with (fail)
  refine (BC.out w2).mono ?_
  rintro e w3 ⟨rfl, hb⟩
  have HB3 := Lib.hid (below_step' HB2.out (Nat.le_refl _) hb)
  clear hb HB2
  go_wp2_with (fail)
  refine (AC.out w3).mono ?_
  rintro e w4 ⟨rfl, hb⟩
  have HB4 := Lib.hid (below_step' HB3.out (Nat.le_refl _) hb)
  clear hb HB3
  go_wp2_with (fail)
  refine (AB.out w4).mono ?_
  rintro e w5 ⟨rfl, hb⟩
  have HB5 := Lib.hid (below_step' HB4.out (Nat.le_refl _) hb)
  clear hb HB4
  go_wp2_with (fail)
  refine (BA.out w5).mono ?_
  rintro e w6 ⟨rfl, hb⟩
  have HB6 := Lib.hid (below_step' HB5.out (Nat.le_refl _) hb)
  clear hb HB5
  go_wp2_with (fail)
  refine (AB.out w6).mono ?_
  rintro e w7 ⟨rfl, hb⟩
  have HB7 := Lib.hid (below_step' HB6.out (Nat.le_refl _) hb)
  clear hb HB6
  go_wp2_with (fail)
  refine (awake_true N w7 (HN.out.mono HN.out.le HB7.out)).mono ?_
  rintro e w8 ⟨rfl, hb⟩
  have HB8 := Lib.hid (below_step' HB7.out (Nat.le_refl _) hb)
  clear hb
  go_wp2_with (fail)
  go_ret
  exact ⟨rfl, HB8.out⟩
set_option maxRecDepth 100000 in
set_option maxHeartbeats 2000000 in
theorem eis_7_7_f (c : Nat) (hc1 : 1 ≤ c) (hc2 : c ≤ 11) (hq : isB 7 c = false) (N : Nat) (w0 : World) (hN : TL N w0) : Calls Tryz.prog 8 #[.int .i64 7, .int .i64 7, .int .i64 c] w0 fun e w' => e = .returned (.bool true) ∧ Below w0.heap.size w0 w' := by
  have HN := Lib.hid hN
  have HB0 : Hid (Below w0.heap.size w0 w0) := Below.refl _ _
  have AA : Hid (∀ W, Calls Tryz.prog 18 #[.int .i64 7, .int .i64 7] W fun e w' => e = .returned (.bool true) ∧ Below W.heap.size W w') := fun W => errorIs_any 7 7 (by decide) (by decide) (by decide) (by decide) W
  have AB : Hid (∀ W, Calls Tryz.prog 18 #[.int .i64 7, .int .i64 7] W fun e w' => e = .returned (.bool true) ∧ Below W.heap.size W w') := fun W => errorIs_any 7 7 (by decide) (by decide) (by decide) (by decide) W
  have BA : Hid (∀ W, Calls Tryz.prog 18 #[.int .i64 7, .int .i64 7] W fun e w' => e = .returned (.bool true) ∧ Below W.heap.size W w') := fun W => errorIs_any 7 7 (by decide) (by decide) (by decide) (by decide) W
  have BC : Hid (∀ W, Calls Tryz.prog 18 #[.int .i64 7, .int .i64 c] W fun e w' => e = .returned (.bool false) ∧ Below W.heap.size W w') := fun W => by rw [← hq]; exact errorIs_any 7 c (by decide) (by decide) hc1 hc2 W
  clear hq hN
  go_enter Tryz.func8, Tryz.ntmps8
  go_wp2_with (fail)
  refine (AA.out w0).mono ?_
  rintro e w1 ⟨rfl, hb⟩
  have HB1 := Lib.hid (below_step' HB0.out (Nat.le_refl _) hb)
  clear hb HB0
  go_wp2_with (fail)
  refine (AB.out w1).mono ?_
  rintro e w2 ⟨rfl, hb⟩
  have HB2 := Lib.hid (below_step' HB1.out (Nat.le_refl _) hb)
  clear hb HB1
  go_wp2_with (fail)
  refine (BC.out w2).mono ?_
  rintro e w3 ⟨rfl, hb⟩
  have HB3 := Lib.hid (below_step' HB2.out (Nat.le_refl _) hb)
  clear hb HB2
  go_wp2_with (fail)
  refine (AB.out w3).mono ?_
  rintro e w4 ⟨rfl, hb⟩
  have HB4 := Lib.hid (below_step' HB3.out (Nat.le_refl _) hb)
  clear hb HB3
  go_wp2_with (fail)
  refine (awake_true N w4 (HN.out.mono HN.out.le HB4.out)).mono ?_
  rintro e w5 ⟨rfl, hb⟩
  have HB5 := Lib.hid (below_step' HB4.out (Nat.le_refl _) hb)
  clear hb
  go_wp2_with (fail)
  go_ret
  exact ⟨rfl, HB5.out⟩
set_option maxRecDepth 100000 in
set_option maxHeartbeats 2000000 in
theorem eis_7_7_t (c : Nat) (hc1 : 1 ≤ c) (hc2 : c ≤ 11) (hq : isB 7 c = true) (N : Nat) (w0 : World) (hN : TL N w0) : Calls Tryz.prog 8 #[.int .i64 7, .int .i64 7, .int .i64 c] w0 fun e w' => e = .returned (.bool true) ∧ Below w0.heap.size w0 w' := by
  have HN := Lib.hid hN
  have HB0 : Hid (Below w0.heap.size w0 w0) := Below.refl _ _
  have AA : Hid (∀ W, Calls Tryz.prog 18 #[.int .i64 7, .int .i64 7] W fun e w' => e = .returned (.bool true) ∧ Below W.heap.size W w') := fun W => errorIs_any 7 7 (by decide) (by decide) (by decide) (by decide) W
  have AB : Hid (∀ W, Calls Tryz.prog 18 #[.int .i64 7, .int .i64 7] W fun e w' => e = .returned (.bool true) ∧ Below W.heap.size W w') := fun W => errorIs_any 7 7 (by decide) (by decide) (by decide) (by decide) W
  have BA : Hid (∀ W, Calls Tryz.prog 18 #[.int .i64 7, .int .i64 7] W fun e w' => e = .returned (.bool true) ∧ Below W.heap.size W w') := fun W => errorIs_any 7 7 (by decide) (by decide) (by decide) (by decide) W
  have BC : Hid (∀ W, Calls Tryz.prog 18 #[.int .i64 7, .int .i64 c] W fun e w' => e = .returned (.bool true) ∧ Below W.heap.size W w') := fun W => by rw [← hq]; exact errorIs_any 7 c (by decide) (by decide) hc1 hc2 W
  have AC : Hid (∀ W, Calls Tryz.prog 18 #[.int .i64 7, .int .i64 c] W fun e w' => e = .returned (.bool true) ∧ Below W.heap.size W w') := fun W => by rw [← isB_trans 7 7 c (by decide) (by decide) hc2 (by decide) hq]; exact errorIs_any 7 c (by decide) (by decide) hc1 hc2 W
  clear hq hN
  go_enter Tryz.func8, Tryz.ntmps8
  go_wp2_with (fail)
  refine (AA.out w0).mono ?_
  rintro e w1 ⟨rfl, hb⟩
  have HB1 := Lib.hid (below_step' HB0.out (Nat.le_refl _) hb)
  clear hb HB0
  go_wp2_with (fail)
  refine (AB.out w1).mono ?_
  rintro e w2 ⟨rfl, hb⟩
  have HB2 := Lib.hid (below_step' HB1.out (Nat.le_refl _) hb)
  clear hb HB1
  go_wp2_with (fail)
  refine (BC.out w2).mono ?_
  rintro e w3 ⟨rfl, hb⟩
  have HB3 := Lib.hid (below_step' HB2.out (Nat.le_refl _) hb)
  clear hb HB2
  go_wp2_with (fail)
  refine (AC.out w3).mono ?_
  rintro e w4 ⟨rfl, hb⟩
  have HB4 := Lib.hid (below_step' HB3.out (Nat.le_refl _) hb)
  clear hb HB3
  go_wp2_with (fail)
  refine (AB.out w4).mono ?_
  rintro e w5 ⟨rfl, hb⟩
  have HB5 := Lib.hid (below_step' HB4.out (Nat.le_refl _) hb)
  clear hb HB4
  go_wp2_with (fail)
  refine (awake_true N w5 (HN.out.mono HN.out.le HB5.out)).mono ?_
  rintro e w6 ⟨rfl, hb⟩
  have HB6 := Lib.hid (below_step' HB5.out (Nat.le_refl _) hb)
  clear hb
  go_wp2_with (fail)
  go_ret
  exact ⟨rfl, HB6.out⟩
set_option maxRecDepth 100000 in
set_option maxHeartbeats 2000000 in
theorem eis_8_4_f (c : Nat) (hc1 : 1 ≤ c) (hc2 : c ≤ 11) (hq : isB 4 c = false) (N : Nat) (w0 : World) (hN : TL N w0) : Calls Tryz.prog 8 #[.int .i64 8, .int .i64 4, .int .i64 c] w0 fun e w' => e = .returned (.bool true) ∧ Below w0.heap.size w0 w' := by
  have HN := Lib.hid hN
  have HB0 : Hid (Below w0.heap.size w0 w0) := Below.refl _ _
  have AA : Hid (∀ W, Calls Tryz.prog 18 #[.int .i64 8, .int .i64 8] W fun e w' => e = .returned (.bool true) ∧ Below W.heap.size W w') := fun W => errorIs_any 8 8 (by decide) (by decide) (by decide) (by decide) W
  have AB : Hid (∀ W, Calls Tryz.prog 18 #[.int .i64 8, .int .i64 4] W fun e w' => e = .returned (.bool true) ∧ Below W.heap.size W w') := fun W => errorIs_any 8 4 (by decide) (by decide) (by decide) (by decide) W
  have BA : Hid (∀ W, Calls Tryz.prog 18 #[.int .i64 4, .int .i64 8] W fun e w' => e = .returned (.bool false) ∧ Below W.heap.size W w') := fun W => errorIs_any 4 8 (by decide) (by decide) (by decide) (by decide) W
  have BC : Hid (∀ W, Calls Tryz.prog 18 #[.int .i64 4, .int .i64 c] W fun e w' => e = .returned (.bool false) ∧ Below W.heap.size W w') := fun W => by rw [← hq]; exact errorIs_any 4 c (by decide) (by decide) hc1 hc2 W
  clear hq hN
  go_enter Tryz.func8, Tryz.ntmps8
  go_wp2_with (fail)
  refine (AA.out w0).mono ?_
  rintro e w1 ⟨rfl, hb⟩
  have HB1 := Lib.hid (below_step' HB0.out (Nat.le_refl _) hb)
  clear hb HB0
  go_wp2_with (fail)
  refine (AB.out w1).mono ?_
  rintro e w2 ⟨rfl, hb⟩
  have HB2 := Lib.hid (below_step' HB1.out (Nat.le_refl _) hb)
  clear hb HB1
  go_wp2_with (fail)
  refine (BC.out w2).mono ?_
  rintro e w3 ⟨rfl, hb⟩
  have HB3 := Lib.hid (below_step' HB2.out (Nat.le_refl _) hb)
  clear hb HB2
  go_wp2_with (fail)
  refine (AB.out w3).mono ?_
  rintro e w4 ⟨rfl, hb⟩
  have HB4 := Lib.hid (below_step' HB3.out (Nat.le_refl _) hb)
  clear hb HB3
  go_wp2_with (fail)
  refine (BA.out w4).mono ?_
  rintro e w5 ⟨rfl, hb⟩
  have HB5 := Lib.hid (below_step' HB4.out (Nat.le_refl _) hb)
  clear hb HB4
  go_wp2_with (fail)
  refine (AB.out w5).mono ?_
  rintro e w6 ⟨rfl, hb⟩
  have HB6 := Lib.hid (below_step' HB5.out (Nat.le_refl _) hb)
  clear hb HB5
  go_wp2_with (fail)
  refine (awake_true N w6 (HN.out.mono HN.out.le HB6.out)).mono ?_
  rintro e w7 ⟨rfl, hb⟩
  have HB7 := Lib.hid (below_step' HB6.out (Nat.le_refl _) hb)
  clear hb
  go_wp2_with (fail)
  go_ret
  exact ⟨rfl, HB7.out⟩
set_option maxRecDepth 100000 in
set_option maxHeartbeats 2000000 in
theorem eis_8_4_t (c : Nat) (hc1 : 1 ≤ c) (hc2 : c ≤ 11) (hq : isB 4 c = true) (N : Nat) (w0 : World) (hN : TL N w0) : Calls Tryz.prog 8 #[.int .i64 8, .int .i64 4, .int .i64 c] w0 fun e w' => e = .returned (.bool true) ∧ Below w0.heap.size w0 w' := by
  have HN := Lib.hid hN
  have HB0 : Hid (Below w0.heap.size w0 w0) := Below.refl _ _
  have AA : Hid (∀ W, Calls Tryz.prog 18 #[.int .i64 8, .int .i64 8] W fun e w' => e = .returned (.bool true) ∧ Below W.heap.size W w') := fun W => errorIs_any 8 8 (by decide) (by decide) (by decide) (by decide) W
  have AB : Hid (∀ W, Calls Tryz.prog 18 #[.int .i64 8, .int .i64 4] W fun e w' => e = .returned (.bool true) ∧ Below W.heap.size W w') := fun W => errorIs_any 8 4 (by decide) (by decide) (by decide) (by decide) W
  have BA : Hid (∀ W, Calls Tryz.prog 18 #[.int .i64 4, .int .i64 8] W fun e w' => e = .returned (.bool false) ∧ Below W.heap.size W w') := fun W => errorIs_any 4 8 (by decide) (by decide) (by decide) (by decide) W
  have BC : Hid (∀ W, Calls Tryz.prog 18 #[.int .i64 4, .int .i64 c] W fun e w' => e = .returned (.bool true) ∧ Below W.heap.size W w') := fun W => by rw [← hq]; exact errorIs_any 4 c (by decide) (by decide) hc1 hc2 W
  have AC : Hid (∀ W, Calls Tryz.prog 18 #[.int .i64 8, .int .i64 c] W fun e w' => e = .returned (.bool true) ∧ Below W.heap.size W w') := fun W => by rw [← isB_trans 8 4 c (by decide) (by decide) hc2 (by decide) hq]; exact errorIs_any 8 c (by decide) (by decide) hc1 hc2 W
  clear hq hN
  go_enter Tryz.func8, Tryz.ntmps8
  go_wp2_with (fail)
  refine (AA.out w0).mono ?_
  rintro e w1 ⟨rfl, hb⟩
  have HB1 := Lib.hid (below_step' HB0.out (Nat.le_refl _) hb)
  clear hb HB0
  go_wp2_with (fail)
  refine (AB.out w1).mono ?_
  rintro e w2 ⟨rfl, hb⟩
  have HB2 := Lib.hid (below_step' HB1.out (Nat.le_refl _) hb)
  clear hb HB1
  go_wp2_with (fail)
  refine (BC.out w2).mono ?_
  rintro e w3 ⟨rfl, hb⟩
  have HB3 := Lib.hid (below_step' HB2.out (Nat.le_refl _) hb)
  clear hb HB2
  go_wp2_with (fail)
  refine (AC.out w3).mono ?_
  rintro e w4 ⟨rfl, hb⟩
  have HB4 := Lib.hid (below_step' HB3.out (Nat.le_refl _) hb)
  clear hb HB3
  go_wp2_with (fail)
  refine (AB.out w4).mono ?_
  rintro e w5 ⟨rfl, hb⟩
  have HB5 := Lib.hid (below_step' HB4.out (Nat.le_refl _) hb)
  clear hb HB4
  go_wp2_with (fail)
  refine (BA.out w5).mono ?_
  rintro e w6 ⟨rfl, hb⟩
  have HB6 := Lib.hid (below_step' HB5.out (Nat.le_refl _) hb)
  clear hb HB5
  go_wp2_with (fail)
  refine (AB.out w6).mono ?_
  rintro e w7 ⟨rfl, hb⟩
  have HB7 := Lib.hid (below_step' HB6.out (Nat.le_refl _) hb)
  clear hb HB6
  go_wp2_with (fail)
  refine (awake_true N w7 (HN.out.mono HN.out.le HB7.out)).mono ?_
  rintro e w8 ⟨rfl, hb⟩
  have HB8 := Lib.hid (below_step' HB7.out (Nat.le_refl _) hb)
  clear hb
  go_wp2_with (fail)
  go_ret
  exact ⟨rfl, HB8.out⟩
set_option maxRecDepth 100000 in
set_option maxHeartbeats 2000000 in
theorem eis_8_8_f (c : Nat) (hc1 : 1 ≤ c) (hc2 : c ≤ 11) (hq : isB 8 c = false) (N : Nat) (w0 : World) (hN : TL N w0) : Calls Tryz.prog 8 #[.int .i64 8, .int .i64 8, .int .i64 c] w0 fun e w' => e = .returned (.bool true) ∧ Below w0.heap.size w0 w' := by
  have HN := Lib.hid hN
  have HB0 : Hid (Below w0.heap.size w0 w0) := Below.refl _ _
  have AA : Hid (∀ W, Calls Tryz.prog 18 #[.int .i64 8, .int .i64 8] W fun e w' => e = .returned (.bool true) ∧ Below W.heap.size W w') := fun W => errorIs_any 8 8 (by decide) (by decide) (by decide) (by decide) W
  have AB : Hid (∀ W, Calls Tryz.prog 18 #[.int .i64 8, .int .i64 8] W fun e w' => e = .returned (.bool true) ∧ Below W.heap.size W w') := fun W => errorIs_any 8 8 (by decide) (by decide) (by decide) (by decide) W
  have BA : Hid (∀ W, Calls Tryz.prog 18 #[.int .i64 8, .int .i64 8] W fun e w' => e = .returned (.bool true) ∧ Below W.heap.size W w') := fun W => errorIs_any 8 8 (by decide) (by decide) (by decide) (by decide) W
  have BC : Hid (∀ W, Calls Tryz.prog 18 #[.int .i64 8, .int .i64 c] W fun e w' => e = .returned (.bool false) ∧ Below W.heap.size W w') := fun W => by rw [← hq]; exact errorIs_any 8 c (by decide) (by decide) hc1 hc2 W
  clear hq hN
  go_enter Tryz.func8, Tryz.ntmps8
  go_wp2_with (fail)
  refine (AA.out w0).mono ?_
  rintro e w1 ⟨rfl, hb⟩
  have HB1 := Lib.hid (below_step' HB0.out (Nat.le_refl _) hb)
  clear hb HB0
  go_wp2_with (fail)
  refine (AB.out w1).mono ?_
  rintro e w2 ⟨rfl, hb⟩
  have HB2 := Lib.hid (below_step' HB1.out (Nat.le_refl _) hb)
  clear hb HB1
  go_wp2_with (fail)
  refine (BC.out w2).mono ?_
  rintro e w3 ⟨rfl, hb⟩
  have HB3 := Lib.hid (below_step' HB2.out (Nat.le_refl _) hb)
  clear hb HB2
  go_wp2_with (fail)
  refine (AB.out w3).mono ?_
  rintro e w4 ⟨rfl, hb⟩
  have HB4 := Lib.hid (below_step' HB3.out (Nat.le_refl _) hb)
  clear hb HB3
  go_wp2_with (fail)
  refine (awake_true N w4 (HN.out.mono HN.out.le HB4.out)).mono ?_
  rintro e w5 ⟨rfl, hb⟩
  have HB5 := Lib.hid (below_step' HB4.out (Nat.le_refl _) hb)
  clear hb
  go_wp2_with (fail)
  go_ret
  exact ⟨rfl, HB5.out⟩
set_option maxRecDepth 100000 in
set_option maxHeartbeats 2000000 in
theorem eis_8_8_t (c : Nat) (hc1 : 1 ≤ c) (hc2 : c ≤ 11) (hq : isB 8 c = true) (N : Nat) (w0 : World) (hN : TL N w0) : Calls Tryz.prog 8 #[.int .i64 8, .int .i64 8, .int .i64 c] w0 fun e w' => e = .returned (.bool true) ∧ Below w0.heap.size w0 w' := by
  have HN := Lib.hid hN
  have HB0 : Hid (Below w0.heap.size w0 w0) := Below.refl _ _
  have AA : Hid (∀ W, Calls Tryz.prog 18 #[.int .i64 8, .int .i64 8] W fun e w' => e = .returned (.bool true) ∧ Below W.heap.size W w') := fun W => errorIs_any 8 8 (by decide) (by decide) (by decide) (by decide) W
  have AB : Hid (∀ W, Calls Tryz.prog 18 #[.int .i64 8, .int .i64 8] W fun e w' => e = .returned (.bool true) ∧ Below W.heap.size W w') := fun W => errorIs_any 8 8 (by decide) (by decide) (by decide) (by decide) W
  have BA : Hid (∀ W, Calls Tryz.prog 18 #[.int .i64 8, .int .i64 8] W fun e w' => e = .returned (.bool true) ∧ Below W.heap.size W w') := fun W => errorIs_any 8 8 (by decide) (by decide) (by decide) (by decide) W
  have BC : Hid (∀ W, Calls Tryz.prog 18 #[.int .i64 8, .int .i64 c] W fun e w' => e = .returned (.bool true) ∧ Below W.heap.size W w') := fun W => by rw [← hq]; exact errorIs_any 8 c (by decide) (by decide) hc1 hc2 W
  have AC : Hid (∀ W, Calls Tryz.prog 18 #[.int .i64 8, .int .i64 c] W fun e w' => e = .returned (.bool true) ∧ Below W.heap.size W w') := fun W => by rw [← isB_trans 8 8 c (by decide) (by decide) hc2 (by decide) hq]; exact errorIs_any 8 c (by decide) (by decide) hc1 hc2 W
  clear hq hN
  go_enter Tryz.func8, Tryz.ntmps8
  go_wp2_with (fail)
  refine (AA.out w0).mono ?_
  rintro e w1 ⟨rfl, hb⟩
  have HB1 := Lib.hid (below_step' HB0.out (Nat.le_refl _) hb)
  clear hb HB0
  go_wp2_with (fail)
  refine (AB.out w1).mono ?_
  rintro e w2 ⟨rfl, hb⟩
  have HB2 := Lib.hid (below_step' HB1.out (Nat.le_refl _) hb)
  clear hb HB1
  go_wp2_with (fail)
  refine (BC.out w2).mono ?_
  rintro e w3 ⟨rfl, hb⟩
  have HB3 := Lib.hid (below_step' HB2.out (Nat.le_refl _) hb)
  clear hb HB2
  go_wp2_with (fail)
  refine (AC.out w3).mono ?_
  rintro e w4 ⟨rfl, hb⟩
  have HB4 := Lib.hid (below_step' HB3.out (Nat.le_refl _) hb)
  clear hb HB3
  go_wp2_with (fail)
  refine (AB.out w4).mono ?_
  rintro e w5 ⟨rfl, hb⟩
  have HB5 := Lib.hid (below_step' HB4.out (Nat.le_refl _) hb)
  clear hb HB4
  go_wp2_with (fail)
  refine (awake_true N w5 (HN.out.mono HN.out.le HB5.out)).mono ?_
  rintro e w6 ⟨rfl, hb⟩
  have HB6 := Lib.hid (below_step' HB5.out (Nat.le_refl _) hb)
  clear hb
  go_wp2_with (fail)
  go_ret
  exact ⟨rfl, HB6.out⟩
set_option maxRecDepth 100000 in
set_option maxHeartbeats 2000000 in
theorem eis_9_9_f (c : Nat) (hc1 : 1 ≤ c) (hc2 : c ≤ 11) (hq : isB 9 c = false) (N : Nat) (w0 : World) (hN : TL N w0) : Calls Tryz.prog 8 #[.int .i64 9, .int .i64 9, .int .i64 c] w0 fun e w' => e = .returned (.bool true) ∧ Below w0.heap.size w0 w' := by
  have HN := Lib.hid hN
  have HB0 : Hid (Below w0.heap.size w0 w0) := Below.refl _ _
  have AA : Hid (∀ W, Calls Tryz.prog 18 #[.int .i64 9, .int .i64 9] W fun e w' => e = .returned (.bool true) ∧ Below W.heap.size W w') := fun W => errorIs_any 9 9 (by decide) (by decide) (by decide) (by decide) W
  have AB : Hid (∀ W, Calls Tryz.prog 18 #[.int .i64 9, .int .i64 9] W fun e w' => e = .returned (.bool true) ∧ Below W.heap.size W w') := fun W => errorIs_any 9 9 (by decide) (by decide) (by decide) (by decide) W
  have BA : Hid (∀ W, Calls Tryz.prog 18 #[.int .i64 9, .int .i64 9] W fun e w' => e = .returned (.bool true) ∧ Below W.heap.size W w') := fun W => errorIs_any 9 9 (by decide) (by decide) (by decide) (by decide) W
  have BC : Hid (∀ W, Calls Tryz.prog 18 #[.int .i64 9, .int .i64 c] W fun e w' => e = .returned (.bool false) ∧ Below W.heap.size W w') := fun W => by rw [← hq]; exact errorIs_any 9 c (by decide) (by decide) hc1 hc2 W
  clear hq hN
  go_enter Tryz.func8, Tryz.ntmps8
  go_wp2_with (fail)
  refine (AA.out w0).mono ?_
  rintro e w1 ⟨rfl, hb⟩
  have HB1 := Lib.hid (below_step' HB0.out (Nat.le_refl _) hb)
  clear hb HB0
  go_wp2_with (fail)
  refine (AB.out w1).mono ?_
  rintro e w2 ⟨rfl, hb⟩
  have HB2 := Lib.hid (below_step' HB1.out (Nat.le_refl _) hb)
  clear hb HB1
  go_wp2_with (fail)
  refine (BC.out w2).mono ?_
  rintro e w3 ⟨rfl, hb⟩
  have HB3 := Lib.hid (below_step' HB2.out (Nat.le_refl _) hb)
  clear hb HB2
  go_wp2_with (fail)
  refine (AB.out w3).mono ?_
  rintro e w4 ⟨rfl, hb⟩
  have HB4 := Lib.hid (below_step' HB3.out (Nat.le_refl _) hb)
  clear hb HB3
  go_wp2_with (fail)
  refine (awake_true N w4 (HN.out.mono HN.out.le HB4.out)).mono ?_
  rintro e w5 ⟨rfl, hb⟩
  have HB5 := Lib.hid (below_step' HB4.out (Nat.le_refl _) hb)
  clear hb
  go_wp2_with (fail)
  go_ret
  exact ⟨rfl, HB5.out⟩
set_option maxRecDepth 100000 in
set_option maxHeartbeats 2000000 in
theorem eis_9_9_t (c : Nat) (hc1 : 1 ≤ c) (hc2 : c ≤ 11) (hq : isB 9 c = true) (N : Nat) (w0 : World) (hN : TL N w0) : Calls Tryz.prog 8 #[.int .i64 9, .int .i64 9, .int .i64 c] w0 fun e w' => e = .returned (.bool true) ∧ Below w0.heap.size w0 w' := by
  have HN := Lib.hid hN
  have HB0 : Hid (Below w0.heap.size w0 w0) := Below.refl _ _
  have AA : Hid (∀ W, Calls Tryz.prog 18 #[.int .i64 9, .int .i64 9] W fun e w' => e = .returned (.bool true) ∧ Below W.heap.size W w') := fun W => errorIs_any 9 9 (by decide) (by decide) (by decide) (by decide) W
  have AB : Hid (∀ W, Calls Tryz.prog 18 #[.int .i64 9, .int .i64 9] W fun e w' => e = .returned (.bool true) ∧ Below W.heap.size W w') := fun W => errorIs_any 9 9 (by decide) (by decide) (by decide) (by decide) W
  have BA : Hid (∀ W, Calls Tryz.prog 18 #[.int .i64 9, .int .i64 9] W fun e w' => e = .returned (.bool true) ∧ Below W.heap.size W w') := fun W => errorIs_any 9 9 (by decide) (by decide) (by decide) (by decide) W
  have BC : Hid (∀ W, Calls Tryz.prog 18 #[.int .i64 9, .int .i64 c] W fun e w' => e = .returned (.bool true) ∧ Below W.heap.size W w') := fun W => by rw [← hq]; exact errorIs_any 9 c (by decide) (by decide) hc1 hc2 W
  have AC : Hid (∀ W, Calls Tryz.prog 18 #[.int .i64 9, .int .i64 c] W fun e w' => e = .returned (.bool true) ∧ Below W.heap.size W w') := fun W => by rw [← isB_trans 9 9 c (by decide) (by decide) hc2 (by decide) hq]; exact errorIs_any 9 c (by decide) (by decide) hc1 hc2 W
  clear hq hN
  go_enter Tryz.func8, Tryz.ntmps8
  go_wp2_with (fail)
  refine (AA.out w0).mono ?_
  rintro e w1 ⟨rfl, hb⟩
  have HB1 := Lib.hid (below_step' HB0.out (Nat.le_refl _) hb)
  clear hb HB0
  go_wp2_with (fail)
  refine (AB.out w1).mono ?_
  rintro e w2 ⟨rfl, hb⟩
  have HB2 := Lib.hid (below_step' HB1.out (Nat.le_refl _) hb)
  clear hb HB1
  go_wp2_with (fail)
  refine (BC.out w2).mono ?_
  rintro e w3 ⟨rfl, hb⟩
  have HB3 := Lib.hid (below_step' HB2.out (Nat.le_refl _) hb)
  clear hb HB2
  go_wp2_with (fail)
  refine (AC.out w3).mono ?_
  rintro e w4 ⟨rfl, hb⟩
  have HB4 := Lib.hid (below_step' HB3.out (Nat.le_refl _) hb)
  clear hb HB3
  go_wp2_with (fail)
  refine (AB.out w4).mono ?_
  rintro e w5 ⟨rfl, hb⟩
  have HB5 := Lib.hid (below_step' HB4.out (Nat.le_refl _) hb)
  clear hb HB4
  go_wp2_with (fail)
  refine (awake_true N w5 (HN.out.mono HN.out.le HB5.out)).mono ?_
  rintro e w6 ⟨rfl, hb⟩
  have HB6 := Lib.hid (below_step' HB5.out (Nat.le_refl _) hb)
  clear hb
  go_wp2_with (fail)
  go_ret
  exact ⟨rfl, HB6.out⟩
set_option maxRecDepth 100000 in
set_option maxHeartbeats 2000000 in
theorem eis_10_10_f (c : Nat) (hc1 : 1 ≤ c) (hc2 : c ≤ 11) (hq : isB 10 c = false) (N : Nat) (w0 : World) (hN : TL N w0) : Calls Tryz.prog 8 #[.int .i64 10, .int .i64 10, .int .i64 c] w0 fun e w' => e = .returned (.bool true) ∧ Below w0.heap.size w0 w' := by
  have HN := Lib.hid hN
  have HB0 : Hid (Below w0.heap.size w0 w0) := Below.refl _ _
  have AA : Hid (∀ W, Calls Tryz.prog 18 #[.int .i64 10, .int .i64 10] W fun e w' => e = .returned (.bool true) ∧ Below W.heap.size W w') := fun W => errorIs_any 10 10 (by decide) (by decide) (by decide) (by decide) W
  have AB : Hid (∀ W, Calls Tryz.prog 18 #[.int .i64 10, .int .i64 10] W fun e w' => e = .returned (.bool true) ∧ Below W.heap.size W w') := fun W => errorIs_any 10 10 (by decide) (by decide) (by decide) (by decide) W
  have BA : Hid (∀ W, Calls Tryz.prog 18 #[.int .i64 10, .int .i64 10] W fun e w' => e = .returned (.bool true) ∧ Below W.heap.size W w') := fun W => errorIs_any 10 10 (by decide) (by decide) (by decide) (by decide) W
  have BC : Hid (∀ W, Calls Tryz.prog 18 #[.int .i64 10, .int .i64 c] W fun e w' => e = .returned (.bool false) ∧ Below W.heap.size W w') := fun W => by rw [← hq]; exact errorIs_any 10 c (by decide) (by decide) hc1 hc2 W
  clear hq hN
  go_enter Tryz.func8, Tryz.ntmps8
  go_wp2_with (fail)
  refine (AA.out w0).mono ?_
  rintro e w1 ⟨rfl, hb⟩
  have HB1 := Lib.hid (below_step' HB0.out (Nat.le_refl _) hb)
  clear hb HB0
  go_wp2_with (fail)
  refine (AB.out w1).mono ?_
  rintro e w2 ⟨rfl, hb⟩
  have HB2 := Lib.hid (below_step' HB1.out (Nat.le_refl _) hb)
  clear hb HB1
  go_wp2_with (fail)
  refine (BC.out w2).mono ?_
  rintro e w3 ⟨rfl, hb⟩
  have HB3 := Lib.hid (below_step' HB2.out (Nat.le_refl _) hb)
  clear hb HB2
  go_wp2_with (fail)
  refine (AB.out w3).mono ?_
  rintro e w4 ⟨rfl, hb⟩
  have HB4 := Lib.hid (below_step' HB3.out (Nat.le_refl _) hb)
  clear hb HB3
  go_wp2_with (fail)
  refine (awake_true N w4 (HN.out.mono HN.out.le HB4.out)).mono ?_
  rintro e w5 ⟨rfl, hb⟩
  have HB5 := Lib.hid (below_step' HB4.out (Nat.le_refl _) hb)
  clear hb
  go_wp2_with (fail)
  go_ret
  exact ⟨rfl, HB5.out⟩
set_option maxRecDepth 100000 in
set_option maxHeartbeats 2000000 in
theorem eis_10_10_t (c : Nat) (hc1 : 1 ≤ c) (hc2 : c ≤ 11) (hq : isB 10 c = true) (N : Nat) (w0 : World) (hN : TL N w0) : Calls Tryz.prog 8 #[.int .i64 10, .int .i64 10, .int .i64 c] w0 fun e w' => e = .returned (.bool true) ∧ Below w0.heap.size w0 w' := by
  have HN := Lib.hid hN
  have HB0 : Hid (Below w0.heap.size w0 w0) := Below.refl _ _
  have AA : Hid (∀ W, Calls Tryz.prog 18 #[.int .i64 10, .int .i64 10] W fun e w' => e = .returned (.bool true) ∧ Below W.heap.size W w') := fun W => errorIs_any 10 10 (by decide) (by decide) (by decide) (by decide) W
  have AB : Hid (∀ W, Calls Tryz.prog 18 #[.int .i64 10, .int .i64 10] W fun e w' => e = .returned (.bool true) ∧ Below W.heap.size W w') := fun W => errorIs_any 10 10 (by decide) (by decide) (by decide) (by decide) W
  have BA : Hid (∀ W, Calls Tryz.prog 18 #[.int .i64 10, .int .i64 10] W fun e w' => e = .returned (.bool true) ∧ Below W.heap.size W w') := fun W => errorIs_any 10 10 (by decide) (by decide) (by decide) (by decide) W
  have BC : Hid (∀ W, Calls Tryz.prog 18 #[.int .i64 10, .int .i64 c] W fun e w' => e = .returned (.bool true) ∧ Below W.heap.size W w') := fun W => by rw [← hq]; exact errorIs_any 10 c (by decide) (by decide) hc1 hc2 W
  have AC : Hid (∀ W, Calls Tryz.prog 18 #[.int .i64 10, .int .i64 c] W fun e w' => e = .returned (.bool true) ∧ Below W.heap.size W w') := fun W => by rw [← isB_trans 10 10 c (by decide) (by decide) hc2 (by decide) hq]; exact errorIs_any 10 c (by decide) (by decide) hc1 hc2 W
  clear hq hN
  go_enter Tryz.func8, Tryz.ntmps8
  go_wp2_with (fail)
  refine (AA.out w0).mono ?_
  rintro e w1 ⟨rfl, hb⟩
  have HB1 := Lib.hid (below_step' HB0.out (Nat.le_refl _) hb)
  clear hb HB0
  go_wp2_with (fail)
  refine (AB.out w1).mono ?_
  rintro e w2 ⟨rfl, hb⟩
  have HB2 := Lib.hid (below_step' HB1.out (Nat.le_refl _) hb)
  clear hb HB1
  go_wp2_with (fail)
  refine (BC.out w2).mono ?_
  rintro e w3 ⟨rfl, hb⟩
  have HB3 := Lib.hid (below_step' HB2.out (Nat.le_refl _) hb)
  clear hb HB2
  go_wp2_with (fail)
  refine (AC.out w3).mono ?_
  rintro e w4 ⟨rfl, hb⟩
  have HB4 := Lib.hid (below_step' HB3.out (Nat.le_refl _) hb)
  clear hb HB3
  go_wp2_with (fail)
  refine (AB.out w4).mono ?_
  rintro e w5 ⟨rfl, hb⟩
  have HB5 := Lib.hid (below_step' HB4.out (Nat.le_refl _) hb)
  clear hb HB4
  go_wp2_with (fail)
  refine (awake_true N w5 (HN.out.mono HN.out.le HB5.out)).mono ?_
  rintro e w6 ⟨rfl, hb⟩
  have HB6 := Lib.hid (below_step' HB5.out (Nat.le_refl _) hb)
  clear hb
  go_wp2_with (fail)
  go_ret
  exact ⟨rfl, HB6.out⟩
set_option maxRecDepth 100000 in
set_option maxHeartbeats 2000000 in
theorem eis_11_10_f (c : Nat) (hc1 : 1 ≤ c) (hc2 : c ≤ 11) (hq : isB 10 c = false) (N : Nat) (w0 : World) (hN : TL N w0) : Calls Tryz.prog 8 #[.int .i64 11, .int .i64 10, .int .i64 c] w0 fun e w' => e = .returned (.bool true) ∧ Below w0.heap.size w0 w' := by
  have HN := Lib.hid hN
  have HB0 : Hid (Below w0.heap.size w0 w0) := Below.refl _ _
  have AA : Hid (∀ W, Calls Tryz.prog 18 #[.int .i64 11, .int .i64 11] W fun e w' => e = .returned (.bool true) ∧ Below W.heap.size W w') := fun W => errorIs_any 11 11 (by decide) (by decide) (by decide) (by decide) W
  have AB : Hid (∀ W, Calls Tryz.prog 18 #[.int .i64 11, .int .i64 10] W fun e w' => e = .returned (.bool true) ∧ Below W.heap.size W w') := fun W => errorIs_any 11 10 (by decide) (by decide) (by decide) (by decide) W
  have BA : Hid (∀ W, Calls Tryz.prog 18 #[.int .i64 10, .int .i64 11] W fun e w' => e = .returned (.bool false) ∧ Below W.heap.size W w') := fun W => errorIs_any 10 11 (by decide) (by decide) (by decide) (by decide) W
  have BC : Hid (∀ W, Calls Tryz.prog 18 #[.int .i64 10, .int .i64 c] W fun e w' => e = .returned (.bool false) ∧ Below W.heap.size W w') := fun W => by rw [← hq]; exact errorIs_any 10 c (by decide) (by decide) hc1 hc2 W
  clear hq hN
  go_enter Tryz.func8, Tryz.ntmps8
  go_wp2_with (fail)
  refine (AA.out w0).mono ?_
  rintro e w1 ⟨rfl, hb⟩
  have HB1 := Lib.hid (below_step' HB0.out (Nat.le_refl _) hb)
  clear hb HB0
  go_wp2_with (fail)
  refine (AB.out w1).mono ?_
  rintro e w2 ⟨rfl, hb⟩
  have HB2 := Lib.hid (below_step' HB1.out (Nat.le_refl _) hb)
  clear hb HB1
  go_wp2_with (fail)
  refine (BC.out w2).mono ?_
  rintro e w3 ⟨rfl, hb⟩
  have HB3 := Lib.hid (below_step' HB2.out (Nat.le_refl _) hb)
  clear hb HB2
  go_wp2_with (fail)
  refine (AB.out w3).mono ?_
  rintro e w4 ⟨rfl, hb⟩
  have HB4 := Lib.hid (below_step' HB3.out (Nat.le_refl _) hb)
  clear hb HB3
  go_wp2_with (fail)
  refine (BA.out w4).mono ?_
  rintro e w5 ⟨rfl, hb⟩
  have HB5 := Lib.hid (below_step' HB4.out (Nat.le_refl _) hb)
  clear hb HB4
  go_wp2_with (fail)
  refine (AB.out w5).mono ?_
  rintro e w6 ⟨rfl, hb⟩
  have HB6 := Lib.hid (below_step' HB5.out (Nat.le_refl _) hb)
  clear hb HB5
  go_wp2_with (fail)
  refine (awake_true N w6 (HN.out.mono HN.out.le HB6.out)).mono ?_
  rintro e w7 ⟨rfl, hb⟩
  have HB7 := Lib.hid (below_step' HB6.out (Nat.le_refl _) hb)
  clear hb
  go_wp2_with (fail)
  go_ret
  exact ⟨rfl, HB7.out⟩
set_option maxRecDepth 100000 in
set_option maxHeartbeats 2000000 in
theorem eis_11_10_t (c : Nat) (hc1 : 1 ≤ c) (hc2 : c ≤ 11) (hq : isB 10 c = true) (N : Nat) (w0 : World) (hN : TL N w0) : Calls Tryz.prog 8 #[.int .i64 11, .int .i64 10, .int .i64 c] w0 fun e w' => e = .returned (.bool true) ∧ Below w0.heap.size w0 w' := by
  have HN := Lib.hid hN
  have HB0 : Hid (Below w0.heap.size w0 w0) := Below.refl _ _
  have AA : Hid (∀ W, Calls Tryz.prog 18 #[.int .i64 11, .int .i64 11] W fun e w' => e = .returned (.bool true) ∧ Below W.heap.size W w') := fun W => errorIs_any 11 11 (by decide) (by decide) (by decide) (by decide) W
  have AB : Hid (∀ W, Calls Tryz.prog 18 #[.int .i64 11, .int .i64 10] W fun e w' => e = .returned (.bool true) ∧ Below W.heap.size W w') := fun W => errorIs_any 11 10 (by decide) (by decide) (by decide) (by decide) W
  have BA : Hid (∀ W, Calls Tryz.prog 18 #[.int .i64 10, .int .i64 11] W fun e w' => e = .returned (.bool false) ∧ Below W.heap.size W w') := fun W => errorIs_any 10 11 (by decide) (by decide) (by decide) (by decide) W
  have BC : Hid (∀ W, Calls Tryz.prog 18 #[.int .i64 10, .int .i64 c] W fun e w' => e = .returned (.bool true) ∧ Below W.heap.size W w') := fun W => by rw [← hq]; exact errorIs_any 10 c (by decide) (by decide) hc1 hc2 W
  have AC : Hid (∀ W, Calls Tryz.prog 18 #[.int .i64 11, .int .i64 c] W fun e w' => e = .returned (.bool true) ∧ Below W.heap.size W w') := fun W => by rw [← isB_trans 11 10 c (by decide) (by decide) hc2 (by decide) hq]; exact errorIs_any 11 c (by decide) (by decide) hc1 hc2 W
  clear hq hN
  go_enter Tryz.func8, Tryz.ntmps8
  go_wp2_with (fail)
  refine (AA.out w0).mono ?_
  rintro e w1 ⟨rfl, hb⟩
  have HB1 := Lib.hid (below_step' HB0.out (Nat.le_refl _) hb)
  clear hb HB0
  go_wp2_with (fail)
  refine (AB.out w1).mono ?_
  rintro e w2 ⟨rfl, hb⟩
  have HB2 := Lib.hid (below_step' HB1.out (Nat.le_refl _) hb)
  clear hb HB1
  go_wp2_with (fail)
  refine (BC.out w2).mono ?_
  rintro e w3 ⟨rfl, hb⟩
  have HB3 := Lib.hid (below_step' HB2.out (Nat.le_refl _) hb)
  clear hb HB2
  go_wp2_with (fail)
  refine (AC.out w3).mono ?_
  rintro e w4 ⟨rfl, hb⟩
  have HB4 := Lib.hid (below_step' HB3.out (Nat.le_refl _) hb)
  clear hb HB3
  go_wp2_with (fail)
  refine (AB.out w4).mono ?_
  rintro e w5 ⟨rfl, hb⟩
  have HB5 := Lib.hid (below_step' HB4.out (Nat.le_refl _) hb)
  clear hb HB4
  go_wp2_with (fail)
  refine (BA.out w5).mono ?_
  rintro e w6 ⟨rfl, hb⟩
  have HB6 := Lib.hid (below_step' HB5.out (Nat.le_refl _) hb)
  clear hb HB5
  go_wp2_with (fail)
  refine (AB.out w6).mono ?_
  rintro e w7 ⟨rfl, hb⟩
  have HB7 := Lib.hid (below_step' HB6.out (Nat.le_refl _) hb)
  clear hb HB6
  go_wp2_with (fail)
  refine (awake_true N w7 (HN.out.mono HN.out.le HB7.out)).mono ?_
  rintro e w8 ⟨rfl, hb⟩
  have HB8 := Lib.hid (below_step' HB7.out (Nat.le_refl _) hb)
  clear hb
  go_wp2_with (fail)
  go_ret
  exact ⟨rfl, HB8.out⟩
set_option maxRecDepth 100000 in
set_option maxHeartbeats 2000000 in
theorem eis_11_11_f (c : Nat) (hc1 : 1 ≤ c) (hc2 : c ≤ 11) (hq : isB 11 c = false) (N : Nat) (w0 : World) (hN : TL N w0) : Calls Tryz.prog 8 #[.int .i64 11, .int .i64 11, .int .i64 c] w0 fun e w' => e = .returned (.bool true) ∧ Below w0.heap.size w0 w' := by
  have HN := Lib.hid hN
  have HB0 : Hid (Below w0.heap.size w0 w0) := Below.refl _ _
  have AA : Hid (∀ W, Calls Tryz.prog 18 #[.int .i64 11, .int .i64 11] W fun e w' => e = .returned (.bool true) ∧ Below W.heap.size W w') := fun W => errorIs_any 11 11 (by decide) (by decide) (by decide) (by decide) W
  have AB : Hid (∀ W, Calls Tryz.prog 18 #[.int .i64 11, .int .i64 11] W fun e w' => e = .returned (.bool true) ∧ Below W.heap.size W w') := fun W => errorIs_any 11 11 (by decide) (by decide) (by decide) (by decide) W
  have BA : Hid (∀ W, Calls Tryz.prog 18 #[.int .i64 11, .int .i64 11] W fun e w' => e = .returned (.bool true) ∧ Below W.heap.size W w') := fun W => errorIs_any 11 11 (by decide) (by decide) (by decide) (by decide) W
  have BC : Hid (∀ W, Calls Tryz.prog 18 #[.int .i64 11, .int .i64 c] W fun e w' => e = .returned (.bool false) ∧ Below W.heap.size W w') := fun W => by rw [← hq]; exact errorIs_any 11 c (by decide) (by decide) hc1 hc2 W
  clear hq hN
  go_enter Tryz.func8, Tryz.ntmps8
  go_wp2_with (fail)
  refine (AA.out w0).mono ?_
  rintro e w1 ⟨rfl, hb⟩
  have HB1 := Lib.hid (below_step' HB0.out (Nat.le_refl _) hb)
  clear hb HB0
  go_wp2_with (fail)
  refine (AB.out w1).mono ?_
  rintro e w2 ⟨rfl, hb⟩
  have HB2 := Lib.hid (below_step' HB1.out (Nat.le_refl _) hb)
  clear hb HB1
  go_wp2_with (fail)
  refine (BC.out w2).mono ?_
  rintro e w3 ⟨rfl, hb⟩
  have HB3 := Lib.hid (below_step' HB2.out (Nat.le_refl _) hb)
  clear hb HB2
  go_wp2_with (fail)
  refine (AB.out w3).mono ?_
  rintro e w4 ⟨rfl, hb⟩
  have HB4 := Lib.hid (below_step' HB3.out (Nat.le_refl _) hb)
  clear hb HB3
  go_wp2_with (fail)
  refine (awake_true N w4 (HN.out.mono HN.out.le HB4.out)).mono ?_
  rintro e w5 ⟨rfl, hb⟩
  have HB5 := Lib.hid (below_step' HB4.out (Nat.le_refl _) hb)
  clear hb
  go_wp2_with (fail)
  go_ret
  exact ⟨rfl, HB5.out⟩
set_option maxRecDepth 100000 in
set_option maxHeartbeats 2000000 in
theorem eis_11_11_t (c : Nat) (hc1 : 1 ≤ c) (hc2 : c ≤ 11) (hq : isB 11 c = true) (N : Nat) (w0 : World) (hN : TL N w0) : Calls Tryz.prog 8 #[.int .i64 11, .int .i64 11, .int .i64 c] w0 fun e w' => e = .returned (.bool true) ∧ Below w0.heap.size w0 w' := by
  have HN := Lib.hid hN
  have HB0 : Hid (Below w0.heap.size w0 w0) := Below.refl _ _
  have AA : Hid (∀ W, Calls Tryz.prog 18 #[.int .i64 11, .int .i64 11] W fun e w' => e = .returned (.bool true) ∧ Below W.heap.size W w') := fun W => errorIs_any 11 11 (by decide) (by decide) (by decide) (by decide) W
  have AB : Hid (∀ W, Calls Tryz.prog 18 #[.int .i64 11, .int .i64 11] W fun e w' => e = .returned (.bool true) ∧ Below W.heap.size W w') := fun W => errorIs_any 11 11 (by decide) (by decide) (by decide) (by decide) W
  have BA : Hid (∀ W, Calls Tryz.prog 18 #[.int .i64 11, .int .i64 11] W fun e w' => e = .returned (.bool true) ∧ Below W.heap.size W w') := fun W => errorIs_any 11 11 (by decide) (by decide) (by decide) (by decide) W
  have BC : Hid (∀ W, Calls Tryz.prog 18 #[.int .i64 11, .int .i64 c] W fun e w' => e = .returned (.bool true) ∧ Below W.heap.size W w') := fun W => by rw [← hq]; exact errorIs_any 11 c (by decide) (by decide) hc1 hc2 W
  have AC : Hid (∀ W, Calls Tryz.prog 18 #[.int .i64 11, .int .i64 c] W fun e w' => e = .returned (.bool true) ∧ Below W.heap.size W w') := fun W => by rw [← isB_trans 11 11 c (by decide) (by decide) hc2 (by decide) hq]; exact errorIs_any 11 c (by decide) (by decide) hc1 hc2 W
  clear hq hN
  go_enter Tryz.func8, Tryz.ntmps8
  go_wp2_with (fail)
  refine (AA.out w0).mono ?_
  rintro e w1 ⟨rfl, hb⟩
  have HB1 := Lib.hid (below_step' HB0.out (Nat.le_refl _) hb)
  clear hb HB0
  go_wp2_with (fail)
  refine (AB.out w1).mono ?_
  rintro e w2 ⟨rfl, hb⟩
  have HB2 := Lib.hid (below_step' HB1.out (Nat.le_refl _) hb)
  clear hb HB1
  go_wp2_with (fail)
  refine (BC.out w2).mono ?_
  rintro e w3 ⟨rfl, hb⟩
  have HB3 := Lib.hid (below_step' HB2.out (Nat.le_refl _) hb)
  clear hb HB2
  go_wp2_with (fail)
  refine (AC.out w3).mono ?_
  rintro e w4 ⟨rfl, hb⟩
  have HB4 := Lib.hid (below_step' HB3.out (Nat.le_refl _) hb)
  clear hb HB3
  go_wp2_with (fail)
  refine (AB.out w4).mono ?_
  rintro e w5 ⟨rfl, hb⟩
  have HB5 := Lib.hid (below_step' HB4.out (Nat.le_refl _) hb)
  clear hb HB4
  go_wp2_with (fail)
  refine (awake_true N w5 (HN.out.mono HN.out.le HB5.out)).mono ?_
  rintro e w6 ⟨rfl, hb⟩
  have HB6 := Lib.hid (below_step' HB5.out (Nat.le_refl _) hb)
  clear hb
  go_wp2_with (fail)
  go_ret
  exact ⟨rfl, HB6.out⟩
set_option maxRecDepth 100000 in
set_option maxHeartbeats 2000000 in
theorem eisF_4 (a c : Nat) (ha1 : 1 ≤ a) (ha2 : a ≤ 11) (hc1 : 1 ≤ c) (hc2 : c ≤ 11) (hq : isB a 4 = false) (N : Nat) (w0 : World) (hN : TL N w0) : Calls Tryz.prog 8 #[.int .i64 a, .int .i64 4, .int .i64 c] w0 fun e w' => e = .returned (.bool true) ∧ Below w0.heap.size w0 w' := by
  have HN := Lib.hid hN
  have HB0 : Hid (Below w0.heap.size w0 w0) := Below.refl _ _
  have AA : Hid (∀ W, Calls Tryz.prog 18 #[.int .i64 a, .int .i64 a] W fun e w' => e = .returned (.bool true) ∧ Below W.heap.size W w') := fun W => by rw [← isB_ltF a ha2 ha1]; exact errorIs_any a a ha1 ha2 ha1 ha2 W
  have AB : Hid (∀ W, Calls Tryz.prog 18 #[.int .i64 a, .int .i64 4] W fun e w' => e = .returned (.bool false) ∧ Below W.heap.size W w') := fun W => by rw [← hq]; exact errorIs_any a 4 ha1 ha2 (by decide) (by decide) W
  have e3 : ((a : Int) == 3) = false := by rw [beq_eq_false_iff_ne]; intro h; have h' : a = 3 := (by omega); subst h'; cases hq
  have e4 : ((a : Int) == 4) = false := by rw [beq_eq_false_iff_ne]; intro h; have h' : a = 4 := (by omega); subst h'; cases hq
  have e5 : ((a : Int) == 5) = false := by rw [beq_eq_false_iff_ne]; intro h; have h' : a = 5 := (by omega); subst h'; cases hq
  have e6 : ((a : Int) == 6) = false := by rw [beq_eq_false_iff_ne]; intro h; have h' : a = 6 := (by omega); subst h'; cases hq
  have e7 : ((a : Int) == 7) = false := by rw [beq_eq_false_iff_ne]; intro h; have h' : a = 7 := (by omega); subst h'; cases hq
  have e8 : ((a : Int) == 8) = false := by rw [beq_eq_false_iff_ne]; intro h; have h' : a = 8 := (by omega); subst h'; cases hq
  have g3 : ¬ (a : Int) = 3 := by intro h; have h' : a = 3 := (by omega); subst h'; cases hq
  have g4 : ¬ (a : Int) = 4 := by intro h; have h' : a = 4 := (by omega); subst h'; cases hq
  have g5 : ¬ (a : Int) = 5 := by intro h; have h' : a = 5 := (by omega); subst h'; cases hq
  have g6 : ¬ (a : Int) = 6 := by intro h; have h' : a = 6 := (by omega); subst h'; cases hq
  have g7 : ¬ (a : Int) = 7 := by intro h; have h' : a = 7 := (by omega); subst h'; cases hq
  have g8 : ¬ (a : Int) = 8 := by intro h; have h' : a = 8 := (by omega); subst h'; cases hq
  clear hq hN
  go_enter Tryz.func8, Tryz.ntmps8
  go_wp2_with (fail)
  refine (AA.out w0).mono ?_
  rintro e w1 ⟨rfl, hb⟩
  have HB1 := Lib.hid (below_step' HB0.out (Nat.le_refl _) hb)
  clear hb HB0
  go_wp2_with (fail)
  refine (AB.out w1).mono ?_
  rintro e w2 ⟨rfl, hb⟩
  have HB2 := Lib.hid (below_step' HB1.out (Nat.le_refl _) hb)
  clear hb HB1
  go_wp2_with (fail)
  refine (AB.out w2).mono ?_
  rintro e w3 ⟨rfl, hb⟩
  have HB3 := Lib.hid (below_step' HB2.out (Nat.le_refl _) hb)
  clear hb HB2
  go_wp2_with (fail)
  refine (AB.out w3).mono ?_
  rintro e w4 ⟨rfl, hb⟩
  have HB4 := Lib.hid (below_step' HB3.out (Nat.le_refl _) hb)
  clear hb HB3
  go_wp2_with (fail)
  refine (awake_true N w4 (HN.out.mono HN.out.le HB4.out)).mono ?_
  rintro e w5 ⟨rfl, hb⟩
  have HB5 := Lib.hid (below_step' HB4.out (Nat.le_refl _) hb)
  clear hb
  go_wp2_with (fail)
  go_ret
  exact ⟨rfl, HB5.out⟩
set_option maxRecDepth 100000 in
set_option maxHeartbeats 2000000 in
theorem eisF_5 (a c : Nat) (ha1 : 1 ≤ a) (ha2 : a ≤ 11) (hc1 : 1 ≤ c) (hc2 : c ≤ 11) (hq : isB a 5 = false) (N : Nat) (w0 : World) (hN : TL N w0) : Calls Tryz.prog 8 #[.int .i64 a, .int .i64 5, .int .i64 c] w0 fun e w' => e = .returned (.bool true) ∧ Below w0.heap.size w0 w' := by
  have HN := Lib.hid hN
  have HB0 : Hid (Below w0.heap.size w0 w0) := Below.refl _ _
  have AA : Hid (∀ W, Calls Tryz.prog 18 #[.int .i64 a, .int .i64 a] W fun e w' => e = .returned (.bool true) ∧ Below W.heap.size W w') := fun W => by rw [← isB_ltF a ha2 ha1]; exact errorIs_any a a ha1 ha2 ha1 ha2 W
  have AB : Hid (∀ W, Calls Tryz.prog 18 #[.int .i64 a, .int .i64 5] W fun e w' => e = .returned (.bool false) ∧ Below W.heap.size W w') := fun W => by rw [← hq]; exact errorIs_any a 5 ha1 ha2 (by decide) (by decide) W
  have e5 : ((a : Int) == 5) = false := by rw [beq_eq_false_iff_ne]; intro h; have h' : a = 5 := (by omega); subst h'; cases hq
  have e6 : ((a : Int) == 6) = false := by rw [beq_eq_false_iff_ne]; intro h; have h' : a = 6 := (by omega); subst h'; cases hq
  have g5 : ¬ (a : Int) = 5 := by intro h; have h' : a = 5 := (by omega); subst h'; cases hq
  have g6 : ¬ (a : Int) = 6 := by intro h; have h' : a = 6 := (by omega); subst h'; cases hq
  clear hq hN
  go_enter Tryz.func8, Tryz.ntmps8
  go_wp2_with (fail)
  refine (AA.out w0).mono ?_
  rintro e w1 ⟨rfl, hb⟩
  have HB1 := Lib.hid (below_step' HB0.out (Nat.le_refl _) hb)
  clear hb HB0
  go_wp2_with (fail)
  refine (AB.out w1).mono ?_
  rintro e w2 ⟨rfl, hb⟩
  have HB2 := Lib.hid (below_step' HB1.out (Nat.le_refl _) hb)
  clear hb HB1
  go_wp2_with (fail)
  refine (AB.out w2).mono ?_
  rintro e w3 ⟨rfl, hb⟩
  have HB3 := Lib.hid (below_step' HB2.out (Nat.le_refl _) hb)
  clear hb HB2
  go_wp2_with (fail)
  refine (AB.out w3).mono ?_
  rintro e w4 ⟨rfl, hb⟩
  have HB4 := Lib.hid (below_step' HB3.out (Nat.le_refl _) hb)
  clear hb HB3
  go_wp2_with (fail)
  refine (awake_true N w4 (HN.out.mono HN.out.le HB4.out)).mono ?_
  rintro e w5 ⟨rfl, hb⟩
  have HB5 := Lib.hid (below_step' HB4.out (Nat.le_refl _) hb)
  clear hb
  go_wp2_with (fail)
  go_ret
  exact ⟨rfl, HB5.out⟩
set_option maxRecDepth 100000 in
set_option maxHeartbeats 2000000 in
theorem eisF_10 (a c : Nat) (ha1 : 1 ≤ a) (ha2 : a ≤ 11) (hc1 : 1 ≤ c) (hc2 : c ≤ 11) (hq : isB a 10 = false) (N : Nat) (w0 : World) (hN : TL N w0) : Calls Tryz.prog 8 #[.int .i64 a, .int .i64 10, .int .i64 c] w0 fun e w' => e = .returned (.bool true) ∧ Below w0.heap.size w0 w' := by
  have HN := Lib.hid hN
  have HB0 : Hid (Below w0.heap.size w0 w0) := Below.refl _ _
  have AA : Hid (∀ W, Calls Tryz.prog 18 #[.int .i64 a, .int .i64 a] W fun e w' => e = .returned (.bool true) ∧ Below W.heap.size W w') := fun W => by rw [← isB_ltF a ha2 ha1]; exact errorIs_any a a ha1 ha2 ha1 ha2 W
  have AB : Hid (∀ W, Calls Tryz.prog 18 #[.int .i64 a, .int .i64 10] W fun e w' => e = .returned (.bool false) ∧ Below W.heap.size W w') := fun W => by rw [← hq]; exact errorIs_any a 10 ha1 ha2 (by decide) (by decide) W
  have e10 : ((a : Int) == 10) = false := by rw [beq_eq_false_iff_ne]; intro h; have h' : a = 10 := (by omega); subst h'; cases hq
  have e11 : ((a : Int) == 11) = false := by rw [beq_eq_false_iff_ne]; intro h; have h' : a = 11 := (by omega); subst h'; cases hq
  have g10 : ¬ (a : Int) = 10 := by intro h; have h' : a = 10 := (by omega); subst h'; cases hq
  have g11 : ¬ (a : Int) = 11 := by intro h; have h' : a = 11 := (by omega); subst h'; cases hq
  clear hq hN
  go_enter Tryz.func8, Tryz.ntmps8
  go_wp2_with (fail)
  refine (AA.out w0).mono ?_
  rintro e w1 ⟨rfl, hb⟩
  have HB1 := Lib.hid (below_step' HB0.out (Nat.le_refl _) hb)
  clear hb HB0
  go_wp2_with (fail)
  refine (AB.out w1).mono ?_
  rintro e w2 ⟨rfl, hb⟩
  have HB2 := Lib.hid (below_step' HB1.out (Nat.le_refl _) hb)
  clear hb HB1
  go_wp2_with (fail)
  refine (AB.out w2).mono ?_
  rintro e w3 ⟨rfl, hb⟩
  have HB3 := Lib.hid (below_step' HB2.out (Nat.le_refl _) hb)
  clear hb HB2
  go_wp2_with (fail)
  refine (AB.out w3).mono ?_
  rintro e w4 ⟨rfl, hb⟩
  have HB4 := Lib.hid (below_step' HB3.out (Nat.le_refl _) hb)
  clear hb HB3
  go_wp2_with (fail)
  refine (awake_true N w4 (HN.out.mono HN.out.le HB4.out)).mono ?_
  rintro e w5 ⟨rfl, hb⟩
  have HB5 := Lib.hid (below_step' HB4.out (Nat.le_refl _) hb)
  clear hb
  go_wp2_with (fail)
  go_ret
  exact ⟨rfl, HB5.out⟩
set_option maxRecDepth 100000 in
set_option maxHeartbeats 2000000 in
theorem eisF_0 (b : Nat) (hb1 : 1 ≤ b) (hb2 : b ≤ 11) (n4 : b ≠ 4) (n5 : b ≠ 5) (n10 : b ≠ 10) (a c : Nat) (ha1 : 1 ≤ a) (ha2 : a ≤ 11) (hc1 : 1 ≤ c) (hc2 : c ≤ 11) (hq : isB a b = false) (N : Nat) (w0 : World) (hN : TL N w0) : Calls Tryz.prog 8 #[.int .i64 a, .int .i64 b, .int .i64 c] w0 fun e w' => e = .returned (.bool true) ∧ Below w0.heap.size w0 w' := by
  have HN := Lib.hid hN
  have HB0 : Hid (Below w0.heap.size w0 w0) := Below.refl _ _
  have AA : Hid (∀ W, Calls Tryz.prog 18 #[.int .i64 a, .int .i64 a] W fun e w' => e = .returned (.bool true) ∧ Below W.heap.size W w') := fun W => by rw [← isB_ltF a ha2 ha1]; exact errorIs_any a a ha1 ha2 ha1 ha2 W
  have AB : Hid (∀ W, Calls Tryz.prog 18 #[.int .i64 a, .int .i64 b] W fun e w' => e = .returned (.bool false) ∧ Below W.heap.size W w') := fun W => by rw [← hq]; exact errorIs_any a b ha1 ha2 hb1 hb2 W
  have e0 : ¬ (a : Int) = (b : Int) := by
    intro h
    have h' : a = b := by omega
    subst h'
    rw [isB_ltF a ha2 ha1] at hq; cases hq
  have e1 : ((a : Int) == (b : Int)) = false := by rw [beq_eq_false_iff_ne]; exact e0
  have g4 : ¬ (b : Int) = 4 := by omega
  have g5 : ¬ (b : Int) = 5 := by omega
  have g10 : ¬ (b : Int) = 10 := by omega
  clear hq hN
  go_enter Tryz.func8, Tryz.ntmps8
  go_wp2_with (fail)
  refine (AA.out w0).mono ?_
  rintro e w1 ⟨rfl, hb⟩
  have HB1 := Lib.hid (below_step' HB0.out (Nat.le_refl _) hb)
  clear hb HB0
  go_wp2_with (fail)
  refine (AB.out w1).mono ?_
  rintro e w2 ⟨rfl, hb⟩
  have HB2 := Lib.hid (below_step' HB1.out (Nat.le_refl _) hb)
  clear hb HB1
  go_wp2_with (fail)
  refine (AB.out w2).mono ?_
  rintro e w3 ⟨rfl, hb⟩
  have HB3 := Lib.hid (below_step' HB2.out (Nat.le_refl _) hb)
  clear hb HB2
  go_wp2_with (fail)
  refine (AB.out w3).mono ?_
  rintro e w4 ⟨rfl, hb⟩
  have HB4 := Lib.hid (below_step' HB3.out (Nat.le_refl _) hb)
  clear hb HB3
  go_wp2_with (fail)
  refine (awake_true N w4 (HN.out.mono HN.out.le HB4.out)).mono ?_
  rintro e w5 ⟨rfl, hb⟩
  have HB5 := Lib.hid (below_step' HB4.out (Nat.le_refl _) hb)
  clear hb
  go_wp2_with (fail)
  go_ret
  exact ⟨rfl, HB5.out⟩
theorem isB_of1 : ∀ m, m < 12 → isB 1 m = true → m = 1 := by decide
theorem isB_of2 : ∀ m, m < 12 → isB 2 m = true → m = 2 := by decide
theorem isB_of3 : ∀ m, m < 12 → isB 3 m = true → m = 3 ∨ m = 4 := by decide
theorem isB_of4 : ∀ m, m < 12 → isB 4 m = true → m = 4 := by decide
theorem isB_of5 : ∀ m, m < 12 → isB 5 m = true → m = 5 ∨ m = 4 := by decide
theorem isB_of6 : ∀ m, m < 12 → isB 6 m = true → m = 6 ∨ m = 5 ∨ m = 4 := by decide
theorem isB_of7 : ∀ m, m < 12 → isB 7 m = true → m = 7 ∨ m = 4 := by decide
theorem isB_of8 : ∀ m, m < 12 → isB 8 m = true → m = 8 ∨ m = 4 := by decide
theorem isB_of9 : ∀ m, m < 12 → isB 9 m = true → m = 9 := by decide
theorem isB_of10 : ∀ m, m < 12 → isB 10 m = true → m = 10 := by decide
theorem isB_of11 : ∀ m, m < 12 → isB 11 m = true → m = 11 ∨ m = 10 := by decide
set_option maxRecDepth 100000 in
set_option maxHeartbeats 2000000 in
theorem fnErrorIs_in (a b c : Nat) (ha1 : 1 ≤ a) (ha2 : a ≤ 11) (hb1 : 1 ≤ b) (hb2 : b ≤ 11) (hc1 : 1 ≤ c) (hc2 : c ≤ 11) (N : Nat) (w0 : World) (hN : TL N w0) : Calls Tryz.prog 8 #[.int .i64 a, .int .i64 b, .int .i64 c] w0 fun e w' => e = .returned (.bool true) ∧ Below w0.heap.size w0 w' := by
  cases hq : isB a b with
  | false =>
    by_cases h4 : b = 4
    · subst h4; exact eisF_4 a c ha1 ha2 hc1 hc2 hq N w0 hN
    by_cases h5 : b = 5
    · subst h5; exact eisF_5 a c ha1 ha2 hc1 hc2 hq N w0 hN
    by_cases h10 : b = 10
    · subst h10; exact eisF_10 a c ha1 ha2 hc1 hc2 hq N w0 hN
    exact eisF_0 b hb1 hb2 h4 h5 h10 a c ha1 ha2 hc1 hc2 hq N w0 hN
  | true =>
    match a, ha1, ha2 with
    | 1, _, _ =>
      obtain rfl := isB_of1 b (by omega) hq
      · cases hr : isB 1 c with
        | false => exact eis_1_1_f c hc1 hc2 hr N w0 hN
        | true => exact eis_1_1_t c hc1 hc2 hr N w0 hN
    | 2, _, _ =>
      obtain rfl := isB_of2 b (by omega) hq
      · cases hr : isB 2 c with
        | false => exact eis_2_2_f c hc1 hc2 hr N w0 hN
        | true => exact eis_2_2_t c hc1 hc2 hr N w0 hN
    | 3, _, _ =>
      rcases isB_of3 b (by omega) hq with rfl | rfl
      · cases hr : isB 3 c with
        | false => exact eis_3_3_f c hc1 hc2 hr N w0 hN
        | true => exact eis_3_3_t c hc1 hc2 hr N w0 hN
      · cases hr : isB 4 c with
        | false => exact eis_3_4_f c hc1 hc2 hr N w0 hN
        | true => exact eis_3_4_t c hc1 hc2 hr N w0 hN
    | 4, _, _ =>
      obtain rfl := isB_of4 b (by omega) hq
      · cases hr : isB 4 c with
        | false => exact eis_4_4_f c hc1 hc2 hr N w0 hN
        | true => exact eis_4_4_t c hc1 hc2 hr N w0 hN
    | 5, _, _ =>
      rcases isB_of5 b (by omega) hq with rfl | rfl
      · cases hr : isB 5 c with
        | false => exact eis_5_5_f c hc1 hc2 hr N w0 hN
        | true => exact eis_5_5_t c hc1 hc2 hr N w0 hN
      · cases hr : isB 4 c with
        | false => exact eis_5_4_f c hc1 hc2 hr N w0 hN
        | true => exact eis_5_4_t c hc1 hc2 hr N w0 hN
    | 6, _, _ =>
      rcases isB_of6 b (by omega) hq with rfl | rfl | rfl
      · cases hr : isB 6 c with
        | false => exact eis_6_6_f c hc1 hc2 hr N w0 hN
        | true => exact eis_6_6_t c hc1 hc2 hr N w0 hN
      · cases hr : isB 5 c with
        | false => exact eis_6_5_f c hc1 hc2 hr N w0 hN
        | true => exact eis_6_5_t c hc1 hc2 hr N w0 hN
      · cases hr : isB 4 c with
        | false => exact eis_6_4_f c hc1 hc2 hr N w0 hN
        | true => exact eis_6_4_t c hc1 hc2 hr N w0 hN
    | 7, _, _ =>
      rcases isB_of7 b (by omega) hq with rfl | rfl
      · cases hr : isB 7 c with
        | false => exact eis_7_7_f c hc1 hc2 hr N w0 hN
        | true => exact eis_7_7_t c hc1 hc2 hr N w0 hN
      · cases hr : isB 4 c with
        | false => exact eis_7_4_f c hc1 hc2 hr N w0 hN
        | true => exact eis_7_4_t c hc1 hc2 hr N w0 hN
    | 8, _, _ =>
      rcases isB_of8 b (by omega) hq with rfl | rfl
      · cases hr : isB 8 c with
        | false => exact eis_8_8_f c hc1 hc2 hr N w0 hN
        | true => exact eis_8_8_t c hc1 hc2 hr N w0 hN
      · cases hr : isB 4 c with
        | false => exact eis_8_4_f c hc1 hc2 hr N w0 hN
        | true => exact eis_8_4_t c hc1 hc2 hr N w0 hN
    | 9, _, _ =>
      obtain rfl := isB_of9 b (by omega) hq
      · cases hr : isB 9 c with
        | false => exact eis_9_9_f c hc1 hc2 hr N w0 hN
        | true => exact eis_9_9_t c hc1 hc2 hr N w0 hN
    | 10, _, _ =>
      obtain rfl := isB_of10 b (by omega) hq
      · cases hr : isB 10 c with
        | false => exact eis_10_10_f c hc1 hc2 hr N w0 hN
        | true => exact eis_10_10_t c hc1 hc2 hr N w0 hN
    | 11, _, _ =>
      rcases isB_of11 b (by omega) hq with rfl | rfl
      · cases hr : isB 11 c with
        | false => exact eis_11_11_f c hc1 hc2 hr N w0 hN
        | true => exact eis_11_11_t c hc1 hc2 hr N w0 hN
      · cases hr : isB 10 c with
        | false => exact eis_11_10_f c hc1 hc2 hr N w0 hN
        | true => exact eis_11_10_t c hc1 hc2 hr N w0 hN
set_option maxRecDepth 100000 in
set_option maxHeartbeats 2000000 in
theorem fnErrorIs_any (a b c : Int) (N : Nat) (w0 : World) (hN : TL N w0) : Calls Tryz.prog 8 #[.int .i64 a, .int .i64 b, .int .i64 c] w0 fun e w' => e = .returned (.bool true) ∧ Below w0.heap.size w0 w' := by
  by_cases i1 : a ≤ 0
  · have HN := Lib.hid hN
    clear hN
    go_enter Tryz.func8, Tryz.ntmps8
    go_wp2_with (fail)
    refine (awake_true N w0 HN.out).mono ?_
    rintro e w2 ⟨rfl, hb⟩
    have HB2 := Lib.hid hb
    clear hb
    go_wp2_with (fail)
    go_ret
    exact ⟨rfl, HB2.out⟩
  by_cases i2 : 12 ≤ a
  · have HN := Lib.hid hN
    clear hN
    go_enter Tryz.func8, Tryz.ntmps8
    go_wp2_with (fail)
    refine (awake_true N w0 HN.out).mono ?_
    rintro e w2 ⟨rfl, hb⟩
    have HB2 := Lib.hid hb
    clear hb
    go_wp2_with (fail)
    go_ret
    exact ⟨rfl, HB2.out⟩
  by_cases i3 : b ≤ 0
  · have HN := Lib.hid hN
    clear hN
    go_enter Tryz.func8, Tryz.ntmps8
    go_wp2_with (fail)
    refine (awake_true N w0 HN.out).mono ?_
    rintro e w2 ⟨rfl, hb⟩
    have HB2 := Lib.hid hb
    clear hb
    go_wp2_with (fail)
    go_ret
    exact ⟨rfl, HB2.out⟩
  by_cases i4 : 12 ≤ b
  · have HN := Lib.hid hN
    clear hN
    go_enter Tryz.func8, Tryz.ntmps8
    go_wp2_with (fail)
    refine (awake_true N w0 HN.out).mono ?_
    rintro e w2 ⟨rfl, hb⟩
    have HB2 := Lib.hid hb
    clear hb
    go_wp2_with (fail)
    go_ret
    exact ⟨rfl, HB2.out⟩
  by_cases i5 : c ≤ 0
  · have HN := Lib.hid hN
    clear hN
    go_enter Tryz.func8, Tryz.ntmps8
    go_wp2_with (fail)
    refine (awake_true N w0 HN.out).mono ?_
    rintro e w2 ⟨rfl, hb⟩
    have HB2 := Lib.hid hb
    clear hb
    go_wp2_with (fail)
    go_ret
    exact ⟨rfl, HB2.out⟩
  by_cases i6 : 12 ≤ c
  · have HN := Lib.hid hN
    clear hN
    go_enter Tryz.func8, Tryz.ntmps8
    go_wp2_with (fail)
    refine (awake_true N w0 HN.out).mono ?_
    rintro e w2 ⟨rfl, hb⟩
    have HB2 := Lib.hid hb
    clear hb
    go_wp2_with (fail)
    go_ret
    exact ⟨rfl, HB2.out⟩
  obtain ⟨x, rfl⟩ := Int.eq_ofNat_of_zero_le (show 0 ≤ a by omega)
  obtain ⟨y, rfl⟩ := Int.eq_ofNat_of_zero_le (show 0 ≤ b by omega)
  obtain ⟨z, rfl⟩ := Int.eq_ofNat_of_zero_le (show 0 ≤ c by omega)
  exact fnErrorIs_in x y z (by omega) (by omega) (by omega) (by omega) (by omega) (by omega) N w0 hN
end Go.Proofs.YtlliohgbbboleaaGreatDoor
