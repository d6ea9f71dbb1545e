/- impl.Expired, laws.FnExpired. -/
import Derived.Test.YtlliohgbbboleaaGreatDoorA1
open Go Go.RowKit
namespace Go.Proofs.YtlliohgbbboleaaGreatDoor
set_option maxRecDepth 100000 in
set_option maxHeartbeats 4000000 in
theorem expired_0t (ex now : Int) (h : ex < now) (w : World) : Calls Tryz.prog 14 #[.agg #[.string ⟨#[114, 111, 111, 116]⟩, .int .i64 0, .int .i64 ex, .slice none 0 0, .slice none 0 0, .slice none 0 0, .bool true, .slice none 0 0, .bool false, .slice none 0 0, .bool false, .slice none 0 0, .int .i64 0, .int .i64 0, .string ⟨#[]⟩, .slice none 0 0, .slice none 0 0], .int .i64 now] w fun e w' => e = .returned (.bool true) ∧ Below w.heap.size w w' := by
  have HB : Hid (∀ W, Below w.heap.size w W → ∀ o, Below w.heap.size w (W.alloc o)) := fun W hW o => hW.alloc hW.size o
  go_enter Tryz.func14, Tryz.ntmps14
  go_wp2
  go_ret
  exact ⟨rfl, by repeat (first | exact Below.refl _ _ | apply HB.out)⟩
set_option maxRecDepth 100000 in
set_option maxHeartbeats 4000000 in
theorem expired_0f (ex now : Int) (h : ¬ ex < now) (w : World) : Calls Tryz.prog 14 #[.agg #[.string ⟨#[114, 111, 111, 116]⟩, .int .i64 0, .int .i64 ex, .slice none 0 0, .slice none 0 0, .slice none 0 0, .bool true, .slice none 0 0, .bool false, .slice none 0 0, .bool false, .slice none 0 0, .int .i64 0, .int .i64 0, .string ⟨#[]⟩, .slice none 0 0, .slice none 0 0], .int .i64 now] w fun e w' => e = .returned (.bool false) ∧ Below w.heap.size w w' := by
  have HB : Hid (∀ W, Below w.heap.size w W → ∀ o, Below w.heap.size w (W.alloc o)) := fun W hW o => hW.alloc hW.size o
  go_enter Tryz.func14, Tryz.ntmps14
  go_wp2
  go_ret
  exact ⟨rfl, by repeat (first | exact Below.refl _ _ | apply HB.out)⟩
set_option maxRecDepth 100000 in
set_option maxHeartbeats 4000000 in
theorem expired_1t (ex now : Int) (h : ex < now) (w : World) : Calls Tryz.prog 14 #[.agg #[.string ⟨#[115, 110, 97, 112, 115, 104, 111, 116]⟩, .int .i64 0, .int .i64 ex, .slice none 0 0, .slice none 0 0, .slice none 0 0, .bool true, .slice none 0 0, .bool false, .slice none 0 0, .bool false, .slice none 0 0, .int .i64 0, .int .i64 0, .string ⟨#[]⟩, .slice none 0 0, .slice none 0 0], .int .i64 now] w fun e w' => e = .returned (.bool true) ∧ Below w.heap.size w w' := by
  have HB : Hid (∀ W, Below w.heap.size w W → ∀ o, Below w.heap.size w (W.alloc o)) := fun W hW o => hW.alloc hW.size o
  go_enter Tryz.func14, Tryz.ntmps14
  go_wp2
  go_ret
  exact ⟨rfl, by repeat (first | exact Below.refl _ _ | apply HB.out)⟩
set_option maxRecDepth 100000 in
set_option maxHeartbeats 4000000 in
theorem expired_1f (ex now : Int) (h : ¬ ex < now) (w : World) : Calls Tryz.prog 14 #[.agg #[.string ⟨#[115, 110, 97, 112, 115, 104, 111, 116]⟩, .int .i64 0, .int .i64 ex, .slice none 0 0, .slice none 0 0, .slice none 0 0, .bool true, .slice none 0 0, .bool false, .slice none 0 0, .bool false, .slice none 0 0, .int .i64 0, .int .i64 0, .string ⟨#[]⟩, .slice none 0 0, .slice none 0 0], .int .i64 now] w fun e w' => e = .returned (.bool false) ∧ Below w.heap.size w w' := by
  have HB : Hid (∀ W, Below w.heap.size w W → ∀ o, Below w.heap.size w (W.alloc o)) := fun W hW o => hW.alloc hW.size o
  go_enter Tryz.func14, Tryz.ntmps14
  go_wp2
  go_ret
  exact ⟨rfl, by repeat (first | exact Below.refl _ _ | apply HB.out)⟩
set_option maxRecDepth 100000 in
set_option maxHeartbeats 4000000 in
theorem expired_2t (ex now : Int) (h : ex < now) (w : World) : Calls Tryz.prog 14 #[.agg #[.string ⟨#[116, 105, 109, 101, 115, 116, 97, 109, 112]⟩, .int .i64 0, .int .i64 ex, .slice none 0 0, .slice none 0 0, .slice none 0 0, .bool true, .slice none 0 0, .bool false, .slice none 0 0, .bool false, .slice none 0 0, .int .i64 0, .int .i64 0, .string ⟨#[]⟩, .slice none 0 0, .slice none 0 0], .int .i64 now] w fun e w' => e = .returned (.bool true) ∧ Below w.heap.size w w' := by
  have HB : Hid (∀ W, Below w.heap.size w W → ∀ o, Below w.heap.size w (W.alloc o)) := fun W hW o => hW.alloc hW.size o
  go_enter Tryz.func14, Tryz.ntmps14
  go_wp2
  go_ret
  exact ⟨rfl, by repeat (first | exact Below.refl _ _ | apply HB.out)⟩
set_option maxRecDepth 100000 in
set_option maxHeartbeats 4000000 in
theorem expired_2f (ex now : Int) (h : ¬ ex < now) (w : World) : Calls Tryz.prog 14 #[.agg #[.string ⟨#[116, 105, 109, 101, 115, 116, 97, 109, 112]⟩, .int .i64 0, .int .i64 ex, .slice none 0 0, .slice none 0 0, .slice none 0 0, .bool true, .slice none 0 0, .bool false, .slice none 0 0, .bool false, .slice none 0 0, .int .i64 0, .int .i64 0, .string ⟨#[]⟩, .slice none 0 0, .slice none 0 0], .int .i64 now] w fun e w' => e = .returned (.bool false) ∧ Below w.heap.size w w' := by
  have HB : Hid (∀ W, Below w.heap.size w W → ∀ o, Below w.heap.size w (W.alloc o)) := fun W hW o => hW.alloc hW.size o
  go_enter Tryz.func14, Tryz.ntmps14
  go_wp2
  go_ret
  exact ⟨rfl, by repeat (first | exact Below.refl _ _ | apply HB.out)⟩
set_option maxRecDepth 100000 in
set_option maxHeartbeats 4000000 in
theorem expired_3t (ex now : Int) (h : ex < now) (w : World) : Calls Tryz.prog 14 #[.agg #[.string ⟨#[116, 97, 114, 103, 101, 116, 115]⟩, .int .i64 0, .int .i64 ex, .slice none 0 0, .slice none 0 0, .slice none 0 0, .bool true, .slice none 0 0, .bool false, .slice none 0 0, .bool false, .slice none 0 0, .int .i64 0, .int .i64 0, .string ⟨#[]⟩, .slice none 0 0, .slice none 0 0], .int .i64 now] w fun e w' => e = .returned (.bool true) ∧ Below w.heap.size w w' := by
  have HB : Hid (∀ W, Below w.heap.size w W → ∀ o, Below w.heap.size w (W.alloc o)) := fun W hW o => hW.alloc hW.size o
  go_enter Tryz.func14, Tryz.ntmps14
  go_wp2
  go_ret
  exact ⟨rfl, by repeat (first | exact Below.refl _ _ | apply HB.out)⟩
set_option maxRecDepth 100000 in
set_option maxHeartbeats 4000000 in
theorem expired_3f (ex now : Int) (h : ¬ ex < now) (w : World) : Calls Tryz.prog 14 #[.agg #[.string ⟨#[116, 97, 114, 103, 101, 116, 115]⟩, .int .i64 0, .int .i64 ex, .slice none 0 0, .slice none 0 0, .slice none 0 0, .bool true, .slice none 0 0, .bool false, .slice none 0 0, .bool false, .slice none 0 0, .int .i64 0, .int .i64 0, .string ⟨#[]⟩, .slice none 0 0, .slice none 0 0], .int .i64 now] w fun e w' => e = .returned (.bool false) ∧ Below w.heap.size w w' := by
  have HB : Hid (∀ W, Below w.heap.size w W → ∀ o, Below w.heap.size w (W.alloc o)) := fun W hW o => hW.alloc hW.size o
  go_enter Tryz.func14, Tryz.ntmps14
  go_wp2
  go_ret
  exact ⟨rfl, by repeat (first | exact Below.refl _ _ | apply HB.out)⟩
set_option maxRecDepth 100000 in
set_option maxHeartbeats 4000000 in
theorem fnExpired_0 (k : Nat) (ex now : Int) (b : Bool) (hd : decide (ex < now) = b) (hk : k < 256) (q : (k : Int) % 4 = 0) (i1 : ¬ ex < -68719476736) (i2 : ¬ 68719476736 < ex) (i3 : ¬ now < -68719476736) (i4 : ¬ 68719476736 < now) (N : Nat) (w : World) (hN : TL N w) :
    Calls Tryz.prog 6 #[.int .u8 k, .int .i64 ex, .int .i64 now] w fun e w' => e = .returned (.bool true) ∧ Below w.heap.size w w' := by
  have HN := Lib.hid hN
  have HX : Hid (∀ W, Calls Tryz.prog 14 #[.agg #[.string ⟨#[114, 111, 111, 116]⟩, .int .i64 0, .int .i64 ex, .slice none 0 0, .slice none 0 0, .slice none 0 0, .bool true, .slice none 0 0, .bool false, .slice none 0 0, .bool false, .slice none 0 0, .int .i64 0, .int .i64 0, .string ⟨#[]⟩, .slice none 0 0, .slice none 0 0], .int .i64 now] W fun e w' => e = .returned (.bool b) ∧ Below W.heap.size W w') := by
    show ∀ W, _
    cases b with
    | true => exact expired_0t ex now (of_decide_eq_true hd)
    | false => exact expired_0f ex now (of_decide_eq_false hd)
  clear hN
  go_enter Tryz.func6, Tryz.ntmps6
  go_wp2_with (fail)
  refine (HX.out _).mono ?_
  rintro e w1 ⟨rfl, hb⟩
  have HB1 : Hid (Below w.heap.size w w1) := (((Below.refl _ _).alloc (Nat.le_refl _) _).alloc (by rw [World.size_alloc]; omega) _).trans (hb.mono (by rw [World.size_alloc, World.size_alloc]; omega))
  clear hb HX
  go_wp2_with (fail)
  refine (awake_true N w1 (HN.out.mono HN.out.le HB1.out)).mono ?_
  rintro e w2 ⟨rfl, hb⟩
  have HB2 : Hid (Below w.heap.size w w2) := HB1.out.trans (hb.mono HB1.out.size)
  clear hb
  go_wp2_with (fail)
  go_ret
  exact ⟨rfl, HB2.out⟩
set_option maxRecDepth 100000 in
set_option maxHeartbeats 4000000 in
theorem fnExpired_1 (k : Nat) (ex now : Int) (b : Bool) (hd : decide (ex < now) = b) (hk : k < 256) (q : (k : Int) % 4 = 1) (i1 : ¬ ex < -68719476736) (i2 : ¬ 68719476736 < ex) (i3 : ¬ now < -68719476736) (i4 : ¬ 68719476736 < now) (N : Nat) (w : World) (hN : TL N w) :
    Calls Tryz.prog 6 #[.int .u8 k, .int .i64 ex, .int .i64 now] w fun e w' => e = .returned (.bool true) ∧ Below w.heap.size w w' := by
  have HN := Lib.hid hN
  have HX : Hid (∀ W, Calls Tryz.prog 14 #[.agg #[.string ⟨#[115, 110, 97, 112, 115, 104, 111, 116]⟩, .int .i64 0, .int .i64 ex, .slice none 0 0, .slice none 0 0, .slice none 0 0, .bool true, .slice none 0 0, .bool false, .slice none 0 0, .bool false, .slice none 0 0, .int .i64 0, .int .i64 0, .string ⟨#[]⟩, .slice none 0 0, .slice none 0 0], .int .i64 now] W fun e w' => e = .returned (.bool b) ∧ Below W.heap.size W w') := by
    show ∀ W, _
    cases b with
    | true => exact expired_1t ex now (of_decide_eq_true hd)
    | false => exact expired_1f ex now (of_decide_eq_false hd)
  clear hN
  go_enter Tryz.func6, Tryz.ntmps6
  go_wp2_with (fail)
  refine (HX.out _).mono ?_
  rintro e w1 ⟨rfl, hb⟩
  have HB1 : Hid (Below w.heap.size w w1) := (((Below.refl _ _).alloc (Nat.le_refl _) _).alloc (by rw [World.size_alloc]; omega) _).trans (hb.mono (by rw [World.size_alloc, World.size_alloc]; omega))
  clear hb HX
  go_wp2_with (fail)
  refine (awake_true N w1 (HN.out.mono HN.out.le HB1.out)).mono ?_
  rintro e w2 ⟨rfl, hb⟩
  have HB2 : Hid (Below w.heap.size w w2) := HB1.out.trans (hb.mono HB1.out.size)
  clear hb
  go_wp2_with (fail)
  go_ret
  exact ⟨rfl, HB2.out⟩
set_option maxRecDepth 100000 in
set_option maxHeartbeats 4000000 in
theorem fnExpired_2 (k : Nat) (ex now : Int) (b : Bool) (hd : decide (ex < now) = b) (hk : k < 256) (q : (k : Int) % 4 = 2) (i1 : ¬ ex < -68719476736) (i2 : ¬ 68719476736 < ex) (i3 : ¬ now < -68719476736) (i4 : ¬ 68719476736 < now) (N : Nat) (w : World) (hN : TL N w) :
    Calls Tryz.prog 6 #[.int .u8 k, .int .i64 ex, .int .i64 now] w fun e w' => e = .returned (.bool true) ∧ Below w.heap.size w w' := by
  have HN := Lib.hid hN
  have HX : Hid (∀ W, Calls Tryz.prog 14 #[.agg #[.string ⟨#[116, 105, 109, 101, 115, 116, 97, 109, 112]⟩, .int .i64 0, .int .i64 ex, .slice none 0 0, .slice none 0 0, .slice none 0 0, .bool true, .slice none 0 0, .bool false, .slice none 0 0, .bool false, .slice none 0 0, .int .i64 0, .int .i64 0, .string ⟨#[]⟩, .slice none 0 0, .slice none 0 0], .int .i64 now] W fun e w' => e = .returned (.bool b) ∧ Below W.heap.size W w') := by
    show ∀ W, _
    cases b with
    | true => exact expired_2t ex now (of_decide_eq_true hd)
    | false => exact expired_2f ex now (of_decide_eq_false hd)
  clear hN
  go_enter Tryz.func6, Tryz.ntmps6
  go_wp2_with (fail)
  refine (HX.out _).mono ?_
  rintro e w1 ⟨rfl, hb⟩
  have HB1 : Hid (Below w.heap.size w w1) := (((Below.refl _ _).alloc (Nat.le_refl _) _).alloc (by rw [World.size_alloc]; omega) _).trans (hb.mono (by rw [World.size_alloc, World.size_alloc]; omega))
  clear hb HX
  go_wp2_with (fail)
  refine (awake_true N w1 (HN.out.mono HN.out.le HB1.out)).mono ?_
  rintro e w2 ⟨rfl, hb⟩
  have HB2 : Hid (Below w.heap.size w w2) := HB1.out.trans (hb.mono HB1.out.size)
  clear hb
  go_wp2_with (fail)
  go_ret
  exact ⟨rfl, HB2.out⟩
set_option maxRecDepth 100000 in
set_option maxHeartbeats 4000000 in
theorem fnExpired_3 (k : Nat) (ex now : Int) (b : Bool) (hd : decide (ex < now) = b) (hk : k < 256) (q : (k : Int) % 4 = 3) (i1 : ¬ ex < -68719476736) (i2 : ¬ 68719476736 < ex) (i3 : ¬ now < -68719476736) (i4 : ¬ 68719476736 < now) (N : Nat) (w : World) (hN : TL N w) :
    Calls Tryz.prog 6 #[.int .u8 k, .int .i64 ex, .int .i64 now] w fun e w' => e = .returned (.bool true) ∧ Below w.heap.size w w' := by
  have HN := Lib.hid hN
  have HX : Hid (∀ W, Calls Tryz.prog 14 #[.agg #[.string ⟨#[116, 97, 114, 103, 101, 116, 115]⟩, .int .i64 0, .int .i64 ex, .slice none 0 0, .slice none 0 0, .slice none 0 0, .bool true, .slice none 0 0, .bool false, .slice none 0 0, .bool false, .slice none 0 0, .int .i64 0, .int .i64 0, .string ⟨#[]⟩, .slice none 0 0, .slice none 0 0], .int .i64 now] W fun e w' => e = .returned (.bool b) ∧ Below W.heap.size W w') := by
    show ∀ W, _
    cases b with
    | true => exact expired_3t ex now (of_decide_eq_true hd)
    | false => exact expired_3f ex now (of_decide_eq_false hd)
  clear hN
  go_enter Tryz.func6, Tryz.ntmps6
  go_wp2_with (fail)
  refine (HX.out _).mono ?_
  rintro e w1 ⟨rfl, hb⟩
  have HB1 : Hid (Below w.heap.size w w1) := (((Below.refl _ _).alloc (Nat.le_refl _) _).alloc (by rw [World.size_alloc]; omega) _).trans (hb.mono (by rw [World.size_alloc, World.size_alloc]; omega))
  clear hb HX
  go_wp2_with (fail)
  refine (awake_true N w1 (HN.out.mono HN.out.le HB1.out)).mono ?_
  rintro e w2 ⟨rfl, hb⟩
  have HB2 : Hid (Below w.heap.size w w2) := HB1.out.trans (hb.mono HB1.out.size)
  clear hb
  go_wp2_with (fail)
  go_ret
  exact ⟨rfl, HB2.out⟩
set_option maxRecDepth 100000 in
set_option maxHeartbeats 4000000 in
theorem fnExpired_any (k : Nat) (ex now : Int) (hk : k < 256) (N : Nat) (w : World) (hN : TL N w) :
    Calls Tryz.prog 6 #[.int .u8 k, .int .i64 ex, .int .i64 now] w fun e w' => e = .returned (.bool true) ∧ Below w.heap.size w w' := by
  by_cases i1 : ex < -68719476736
  · have HN := Lib.hid hN
    clear hN
    go_enter Tryz.func6, Tryz.ntmps6
    go_wp2_with (fail)
    refine (awake_true N w HN.out).mono ?_
    rintro e w2 ⟨rfl, hb⟩
    have HB2 := Lib.hid hb
    clear hb
    go_wp2_with (fail)
    go_ret
    exact ⟨rfl, HB2.out⟩
  by_cases i2 : 68719476736 < ex
  · have HN := Lib.hid hN
    clear hN
    go_enter Tryz.func6, Tryz.ntmps6
    go_wp2_with (fail)
    refine (awake_true N w HN.out).mono ?_
    rintro e w2 ⟨rfl, hb⟩
    have HB2 := Lib.hid hb
    clear hb
    go_wp2_with (fail)
    go_ret
    exact ⟨rfl, HB2.out⟩
  by_cases i3 : now < -68719476736
  · have HN := Lib.hid hN
    clear hN
    go_enter Tryz.func6, Tryz.ntmps6
    go_wp2_with (fail)
    refine (awake_true N w HN.out).mono ?_
    rintro e w2 ⟨rfl, hb⟩
    have HB2 := Lib.hid hb
    clear hb
    go_wp2_with (fail)
    go_ret
    exact ⟨rfl, HB2.out⟩
  by_cases i4 : 68719476736 < now
  · have HN := Lib.hid hN
    clear hN
    go_enter Tryz.func6, Tryz.ntmps6
    go_wp2_with (fail)
    refine (awake_true N w HN.out).mono ?_
    rintro e w2 ⟨rfl, hb⟩
    have HB2 := Lib.hid hb
    clear hb
    go_wp2_with (fail)
    go_ret
    exact ⟨rfl, HB2.out⟩
  have hj : k % 4 = 0 ∨ k % 4 = 1 ∨ k % 4 = 2 ∨ k % 4 = 3 := by omega
  rcases hj with hj | hj | hj | hj
  · exact fnExpired_0 k ex now _ rfl hk (by omega) i1 i2 i3 i4 N w hN
  · exact fnExpired_1 k ex now _ rfl hk (by omega) i1 i2 i3 i4 N w hN
  · exact fnExpired_2 k ex now _ rfl hk (by omega) i1 i2 i3 i4 N w hN
  · exact fnExpired_3 k ex now _ rfl hk (by omega) i1 i2 i3 i4 N w hN
theorem fnExpired_all (x : Int) (ex now : Int) (hx : (Lit.int .u8 x).wf = true) {N : Nat} {w : World} (hN : TL N w) :
    Calls Tryz.prog 6 #[.int .u8 x, .int .i64 ex, .int .i64 now] w fun e w' => e = .returned (.bool true) ∧ Below w.heap.size w w' := by
  have hw : 0 ≤ x ∧ x ≤ 255 := by simpa [Lit.wf, IntKind.min, IntKind.max, IntKind.signed, IntKind.bits] using hx
  obtain ⟨k, rfl⟩ := Int.eq_ofNat_of_zero_le hw.1
  exact fnExpired_any k ex now (by omega) N w hN
end Go.Proofs.YtlliohgbbboleaaGreatDoor
