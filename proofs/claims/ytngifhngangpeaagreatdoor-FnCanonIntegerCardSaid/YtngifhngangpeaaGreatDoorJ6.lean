/- unicode/utf16.IsSurrogate, DecodeRune. -/
import Derived.Test.YtngifhngangpeaaGreatDoorJ5
import Derived.Test.YtngifhngangpeaaGreatDoorP1
open Go Go.RowKit
namespace Go.Proofs.YtngifhngangpeaaGreatDoor

set_option maxRecDepth 100000 in
set_option maxHeartbeats 400000 in
theorem isSurr_yes (n : Int) (w : World) (h1 : 55296 ≤ n) (h2 : n < 57344) :
    Calls Tryz.prog 133 #[.int .i32 n] w fun e w' => e = .returned (.bool true) ∧ w = w' := by
  go_enter Tryz.func133, Tryz.ntmps133
  go_wp2
  go_ret
  exact ⟨rfl, rfl⟩
set_option maxRecDepth 100000 in
set_option maxHeartbeats 400000 in
theorem isSurr_no (n : Int) (w : World) (h : n < 55296 ∨ 57344 ≤ n) :
    Calls Tryz.prog 133 #[.int .i32 n] w fun e w' => e = .returned (.bool false) ∧ w = w' := by
  rcases h with h | h
  · go_enter Tryz.func133, Tryz.ntmps133
    go_wp2
    go_ret
    exact ⟨rfl, rfl⟩
  · have hd : decide (n < 57344) = false := decide_eq_false (by omega)
    go_enter Tryz.func133, Tryz.ntmps133
    go_wp2
    go_ret
    exact ⟨by rw [← hd]; rfl, rfl⟩
open Go in
theorem i32_or10 {x y : Int} (hx₀ : 0 ≤ x) (hx : x % 1024 = 0) (hx₁ : x < 2147483648) (h₀ : 0 ≤ y) (h₁ : y < 1024) : bits .or .i32 x y = x + y :=
  bits_join .i32 31 (by decide) wraps_i32 10 x y hx₀ hx hx₁ h₀ h₁ (by omega)
set_option maxRecDepth 100000 in
set_option maxHeartbeats 400000 in
theorem u16Decode_any (n m : Int) (w : World) (h1 : 55296 ≤ n) (h2 : n < 56320) (h3 : 56320 ≤ m) (h4 : m < 57344) :
    Calls Tryz.prog 135 #[.int .i32 n, .int .i32 m] w fun e w' => e = .returned (.int .i32 ((n - 55296) * 1024 + (m - 56320) + 65536)) ∧ w = w' := by
  have hb : bits .or .i32 ((n - 55296) * 1024) (m - 56320) = (n - 55296) * 1024 + (m - 56320) := i32_or10 (by omega) (by omega) (by omega) (by omega) (by omega)
  have hw : wrap32 ((n - 55296) * 1024 + (m - 56320) + 65536) = (n - 55296) * 1024 + (m - 56320) + 65536 := by unfold wrap32; omega
  have HB := Lib.hid hb
  have HW := Lib.hid hw
  clear hb hw
  go_enter Tryz.func135, Tryz.ntmps135
  go_wp2
  go_ret
  refine ⟨?_, rfl⟩
  show Ending.returned (Value.int IntKind.i32 (wrap32 (bits BinOp.or IntKind.i32 ((n - 55296) * 1024) (m - 56320) + 65536))) = _
  rw [HB.out, HW.out]
end Go.Proofs.YtngifhngangpeaaGreatDoor
